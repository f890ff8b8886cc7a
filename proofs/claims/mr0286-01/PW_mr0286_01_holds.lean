import PyProof.Rows.All
import Wide.All
import OpenK.AllK
import Wide.FinOn
import KE.KDictList
import KE.KEqDict
import KE.BytesMake
import KE.LcSums
import KE.KDictOf
import KE.KBytesWalk
import PyProof.AttrMissHeap
import PyProof.StrWalks
import KE.KBoundM
import KE.KxBytes
import KE.KRevSl
import PyProof.Rows.MinMaxN
import PyProof.Rows.TupMore
import KE.KSortTup
import PyProof.EnumStmt
import PyProof.EnumFor
import Lean
import PySem.Challenge.RW_mr0286_01
set_option Elab.async false
set_option linter.all false
set_option maxRecDepth 100000
set_option maxHeartbeats 8000000
set_option genSizeOf false
set_option genSizeOfSpec false
set_option genInjectivity false
set_option compiler.extract_closed false
set_option bootstrap.genMatcherCode false
set_option tactic.hygienic false
open PySem PySem.W PyProof.Rows
namespace Mine
local macro_rules | `(tactic| change $t) => `(tactic| (with_reducible apply $t) <;> assumption)
theorem gS{α:Type _}{l:List α}{i:Nat}{a:α}(h:l[i]? = some a):∃x:i < l.length,l[i] = a:=List.getElem?_eq_some_iff.mp h
theorem mC{α:Type _}{a b:α}{l:List α}(h:a∈b::l):a = b∨a∈l:=List.mem_cons.mp h
theorem oM{α β:Type _}{x:Option α}{f:α→β}{b:β}(h:Option.map f x = some b):∃a,x = some a∧f a = b:=Option.map_eq_some_iff.mp h
theorem mA{α:Type _}{a:α}{s t:List α}(h:a∈s++t):a∈s∨a∈t:=List.mem_append.mp h
theorem mM{α β:Type _}{f:α→β}{l:List α}{b:β}(h:b∈l.map f):∃a,a∈l∧f a = b:=List.mem_map.mp h
theorem aL{α:Type _}{a:α}{s:List α}(t:List α)(h:a∈s):a∈s++t:=List.mem_append_left t h
theorem aR{α:Type _}{a:α}{t:List α}(s:List α)(h:a∈t):a∈s++t:=List.mem_append_right s h
theorem mG{α:Type _}{l:List α}{i:Nat}{a:α}(h:l[i]? = some a):a∈l:=List.mem_of_getElem? h
theorem gE{α:Type _}{l:List α}{i:Nat}(h:i < l.length):l[i]? = some l[i]:=List.getElem?_eq_getElem h
theorem lT{a b c:Nat}(h:a≤b)(g:b≤c):a≤c:=Nat.le_trans h g
theorem qE{a b:Nat}(h:a = b):a≤b:=Nat.le_of_eq h
theorem gM{α β:Type _}{f:α→β}{l:List α}{i:Nat}:(l.map f)[i]? = Option.map f l[i]?:=List.getElem?_map
theorem lN{α β:Type _}{f:α→β}{l:List α}:(l.map f).length = l.length:=List.length_map f
section
inductive LE where
 | v (i:Nat)
 | n (k:Nat)
 | a (x y:LE)
 | m (k:Nat) (x:LE)
noncomputable def LE.ev(xs:List Nat):LE→Nat
 | .v i=>xs.getD i 0
 | .n k=>k
 | .a x y=>x.ev xs+y.ev xs
 | .m k x=>k * x.ev xs
noncomputable def LE.co(i:Nat):LE→Nat
 | .v j=>if i = j then 1 else 0
 | .n _=>0
 | .a x y=>x.co i+y.co i
 | .m k x=>k * x.co i
noncomputable def LE.k0:LE→Nat
 | .v _=>0
 | .n k=>k
 | .a x y=>x.k0+y.k0
 | .m k x=>k * x.k0
noncomputable def cJ(f:Nat→Nat):List Nat→Nat
 | []=>0
 | x::r=>f 0 * x+cJ (fun i=>f (i+1)) r
theorem kJ:∀(xs:List Nat) (f g:Nat→Nat),cJ (fun i=>f i+g i) xs = cJ f xs+cJ g xs
 | [],_,_=>rfl
 | x::r,f,g=>by
  show (f 0+g 0)* x+cJ (fun i=>f (i+1)+g (i+1)) r =(f 0 * x+cJ (fun i=>f (i+1)) r)+(g 0 * x+cJ (fun i=>g (i+1)) r);rw [kJ r,Nat.add_mul,Nat.add_add_add_comm]
theorem kU(k:Nat):∀(xs:List Nat) (f:Nat→Nat),cJ (fun i=>k * f i) xs = k * cJ f xs
 | [],_=>rfl
 | x::r,f=>by
  show k * f 0 * x+cJ (fun i=>k * f (i+1)) r = k *(f 0 * x+cJ (fun i=>f (i+1)) r);rw [kU k r,Nat.mul_add,Nat.mul_assoc]
theorem f7:∀(xs:List Nat),cJ (fun _=>0) xs = 0
 | []=>rfl
 | x::r=>by show 0 * x+cJ (fun _=>0) r = 0;rw [f7 r,Nat.zero_mul]
theorem jJ:∀(xs:List Nat) (j:Nat),cJ (fun i=>if i = j then 1 else 0) xs = xs.getD j 0
 | [],_=>rfl
 | x::r,0=>by
  show 1 * x+cJ (fun i=>if i+1 = 0 then 1 else 0) r = x;have e:(fun i:Nat=>if i+1 = 0 then 1 else 0)= fun _=>0:=funext fun i=>if_neg (Nat.succ_ne_zero i);rw [e,f7,Nat.one_mul];rfl
 | x::r,j+1=>by
  show (if 0 = j+1 then 1 else 0)* x+cJ (fun i=>if i+1 = j+1 then 1 else 0) r = r.getD j 0;have e:(fun i:Nat=>if i+1 = j+1 then 1 else 0)= fun i=>if i = j then 1 else 0:=funext fun i=>by
   by_cases h:i = j
   ·rw [if_pos h,if_pos (congrArg (·+1) h)]
   ·rw [if_neg h,if_neg fun q=>h (Nat.succ.inj q)]
  rw [e,jJ r j,if_neg (Nat.succ_ne_zero j).symm,Nat.zero_mul,Nat.zero_add]
theorem o0:∀(xs:List Nat) (f g:Nat→Nat),(∀i,i < xs.length→f i≤g i)→cJ f xs≤cJ g xs
 | [],_,_,_=>Nat.le_refl _
 | x::r,f,g,h=>Nat.add_le_add (Nat.mul_le_mul_right x (h 0 (Nat.succ_pos _))) (o0 r _ _ fun i hi=>h (i+1) (Nat.succ_lt_succ hi))
theorem LE.ev_eq(xs:List Nat):∀e:LE,e.ev xs = e.k0+cJ (fun i=>e.co i) xs
 | .v i=>((jJ xs i).symm).trans (Nat.zero_add _).symm
 | .n k=>by show k = k+cJ (fun _=>0) xs;rw [f7];rfl
 | .a x y=>by
  show x.ev xs+y.ev xs =(x.k0+y.k0)+cJ (fun i=>x.co i+y.co i) xs;rw [kJ,ev_eq xs x,ev_eq xs y,Nat.add_add_add_comm]
 | .m k x=>by
  show k * x.ev xs = k * x.k0+cJ (fun i=>k * x.co i) xs;rw [kU,ev_eq xs x,Nat.mul_add]
inductive LR where
 | z
 | c (k:Nat) (l r:LE) (t:LR)
noncomputable def kd(b:Bool):LR→LE
 | .z=> .n 0
 | .c k l r t=> .a (.m k (if b then l else r)) (kd b t)
noncomputable def s3(xs:List Nat):LR→Prop
 | .z=>False
 | .c _ l r t=>l.ev xs≤r.ev xs→s3 xs t
noncomputable def t2(n:Nat)(c:LR):Bool:=Nat.blt (kd false c).k0 (kd true c).k0 &&(List.range n).all fun i=>Nat.ble ((kd false c).co i) ((kd true c).co i)
theorem nW(xs:List Nat):∀(c:LR),((kd true c).ev xs≤(kd false c).ev xs→False)→s3 xs c
 | .z,h=>h (Nat.le_refl _)
 | .c k _ _ t,h=>fun q=>nW xs t fun q2=>h (Nat.add_le_add (Nat.mul_le_mul_left k q) q2)
theorem bg(xs:List Nat)(c:LR)(h:t2 xs.length c = true):s3 xs c:=by
 refine nW xs c fun q=>?_;have h1:=Bool.and_eq_true_iff.mp h;have h2:cJ (fun i=>(kd false c).co i) xs≤cJ (fun i=>(kd true c).co i) xs:=o0 xs _ _ fun i hi=>Nat.le_of_ble_eq_true (List.all_eq_true.mp h1.2 i (List.mem_range.mpr hi));rw [LE.ev_eq,LE.ev_eq] at q;exact absurd (Nat.lt_of_lt_of_le (Nat.add_lt_add_right (Nat.le_of_ble_eq_true h1.1) _) q) (Nat.not_lt.mpr (Nat.add_le_add_left h2 _))
theorem oA(x y:Nat):x≤(x - y)+y:=by omega
theorem oB{x y:Nat}(h:y≤x):(x - y)+y≤x:=by omega
theorem oL{a b c:Nat}(h:a≤b)(e:Nat.ble b c = true):a≤c:=lT h (Nat.le_of_ble_eq_true e)
theorem oG{a b c:Nat}(h:b≤c)(e:Nat.ble a b = true):a≤c:=lT (Nat.le_of_ble_eq_true e) h
theorem oS{a b c d:Nat}(h:a≤b)(g:c≤d)(e:Nat.ble b c = true):a≤d:=lT (oL h e) g
theorem oE{a b c:Nat}(h:a = b)(e:Nat.ble b c = true):a≤c:=h▸Nat.le_of_ble_eq_true e
theorem oT{a b c d:Nat}(h:a≤b)(g:b≤c)(e:Nat.ble c d = true):a≤d:=oL (lT h g) e
theorem oP{a b c:Nat}(h:a≤b)(e:Nat.ble (b+1) c = true):a+1≤c:=oL (Nat.succ_le_succ h) e
theorem oN{a b:Nat}(h:a≤b):a≤b+1:=Nat.le_succ_of_le h
theorem lM{α β:Type}{f:α→β}{l:List α}{n:Nat}(h:l.length≤n):(l.map f).length≤n:=by rw [lN];exact h
theorem oD{a b c:Nat}(h:a < b)(g:b≤c):a≤c:=lT (Nat.le_of_lt h) g
theorem oX{a b:Nat}(h:a < b)(g:b≤a){P:Prop}:P:=absurd h (Nat.not_lt.mpr g)
theorem oY{a b:Nat}(h:a+1≤b)(g:b = a){P:Prop}:P:=oX h (qE g)
noncomputable def uD(xs:List Nat)(g:Prop):LR→Prop
 | .z=>g
 | .c _ l r t=>l.ev xs≤r.ev xs→uD xs g t
theorem oZ(xs:List Nat){g:Prop}:∀t:LR,(¬g→s3 xs t)→uD xs g t
 | .z,h=>Classical.byContradiction fun n=>h n
 | .c _ _ _ t,h=>fun q=>oZ xs t fun n=>h n q
theorem aj(xs:List Nat)(l r:LE)(t:LR)(h:t2 xs.length (.c 1 (.a r (.n 1)) l t)= true):uD xs (l.ev xs≤r.ev xs) t:=oZ xs t fun n=>bg xs _ h (Nat.lt_of_not_le n)
variable {a b c d e f g i j k l m n o p q r s t u v w:Nat}
theorem Bs:(a+100)≤((a+(8 * b))+400):=aj [a,b] (.a (.v 0) (.n 100)) (.a (.a (.v 0) (.m 8 (.v 1))) (.n 400)) .z rfl
theorem Bw{a c:Int}(h0:(0:Int)≤(a+(b:Int)))(h1:c =(a+(b:Int)))(h2:b≤d)(h3:(d:Int) < ((2:Int)^ 63))(h4:b = e):(- ((2:Int)^ 63))≤a:=Int.le_trans (Int.neg_le_neg (Int.le_of_lt (Int.lt_of_le_of_lt (Int.ofNat_le.mpr h2) h3))) (Int.le_of_add_le_add_right (by rw [Int.add_left_neg];exact h0: -(b:Int)+b≤a+b))
theorem Br{a c:Int}(h0:(Int.toNat a) < b)(h1:c = a)(h2:b≤d)(h3:(d:Int) < ((2:Int)^ 63))(h4:b = e):a < ((2:Int)^ 63):=Int.lt_of_le_of_lt (Int.self_le_toNat a) (Int.lt_trans (Int.ofNat_lt.mpr (Nat.lt_of_lt_of_le h0 h2)) h3)
theorem BC{b d:Int}(h0:(0:Int)≤(b+(c:Int)))(h1:c = a)(h2:d =(b+(c:Int))):(- (a:Int))≤b:=Int.le_of_add_le_add_right (by rw [Int.add_left_neg];exact h1▸h0: -(a:Int)+a≤b+a)
theorem Bm(h0:((a+(8 * d))+400) < c)(h1:(b+1)≤d):(((a+1)+(8 * b))+400) < c:=aj [a,b,c,d] (.a (.a (.a (.a (.v 0) (.n 1)) (.m 8 (.v 1))) (.n 400)) (.n 1)) (.v 2) (.c 1 (.a (.a (.a (.v 0) (.m 8 (.v 3))) (.n 400)) (.n 1)) (.v 2) (.c 8 (.a (.v 1) (.n 1)) (.v 3) .z)) rfl h0 h1
theorem BT(h0:((a+(8 * c))+400) < b)(h1:(d+1)≤c):a < b:=aj [a,b,c,d] (.a (.v 0) (.n 1)) (.v 1) (.c 1 (.a (.a (.a (.v 0) (.m 8 (.v 2))) (.n 400)) (.n 1)) (.v 1) .z) rfl h0
theorem Bq(h0:((a+(80 * d))+200) < c)(h1:(b+1)≤d):(((a+3)+(80 * b))+200) < c:=aj [a,b,c,d] (.a (.a (.a (.a (.v 0) (.n 3)) (.m 80 (.v 1))) (.n 200)) (.n 1)) (.v 2) (.c 1 (.a (.a (.a (.v 0) (.m 80 (.v 3))) (.n 200)) (.n 1)) (.v 2) (.c 80 (.a (.v 1) (.n 1)) (.v 3) .z)) rfl h0 h1
theorem u5(h0:a≤b)(h1:b≤a):a = b:=Nat.le_antisymm h0 h1
theorem uE(h0:b < a):((a+1) - (b+1)) < ((a+1) - b):=Nat.lt_of_not_le fun h=>bg [a,b,((a+1) - b),((a+1) - (b+1))] (.c 1 (.v 2) (.v 3) (.c 1 (.a (.v 3) (.a (.v 1) (.n 1))) (.a (.v 0) (.n 1)) (.c 1 (.a (.v 0) (.n 1)) (.a (.v 2) (.v 1)) .z))) rfl h (oB (Nat.le_of_not_lt fun q=>bg [a,b,((a+1) - b),((a+1) - (b+1))] (.c 1 (.a (.v 1) (.n 1)) (.v 0) (.c 1 (.a (.a (.v 0) (.n 1)) (.n 1)) (.a (.v 1) (.n 1)) .z)) rfl h0 q)) (oA (a+1) b)
theorem wK{a:Int}(h0:(0:Int)≤a)(h1:a≤((2:Int)^ 40)):a < ((2:Int)^ 62):=Int.lt_of_le_of_lt h1 (by decide)
theorem xW{a:Int}(h0:(0:Int)≤a)(h1:a≤((2:Int)^ 40)):(- ((2:Int)^ 62))≤a:=Int.le_trans (by decide) h0
theorem yQ(h0:b < a):(0:Int) < ((a:Int) - (b:Int)):=Int.sub_pos_of_lt (Int.ofNat_lt.mpr h0)
theorem Ac(h0:((a+(80 * d))+200) < c)(h1:(b+1)≤d):(((a+1)+(80 * b))+200) < c:=aj [a,b,c,d] (.a (.a (.a (.a (.v 0) (.n 1)) (.m 80 (.v 1))) (.n 200)) (.n 1)) (.v 2) (.c 1 (.a (.a (.a (.v 0) (.m 80 (.v 3))) (.n 200)) (.n 1)) (.v 2) (.c 80 (.a (.v 1) (.n 1)) (.v 3) .z)) rfl h0 h1
theorem Ad(h0:a≤900):(a+1)≤1000:=oP h0 rfl
theorem AJ{e:Int}(h0:¬(a < b))(h1:a≤c)(h2:c = b)(h3:a =((d - 1) - (Int.toNat e))):a = b:=Nat.le_antisymm (lT h1 (qE h2)) (Nat.le_of_not_lt h0)
theorem yU{e:Int}(h0:¬(a < b))(h1:a≤c)(h2:c = b)(h3:a =((d - 1) - (Int.toNat e))):((a+1) - b)= 1:=(Nat.le_antisymm (lT h1 (qE h2)) (Nat.le_of_not_lt h0):a = b)▸(Nat.add_sub_cancel_left a 1)
theorem yL{d:Int}(h0:a < b)(h1:a =((c - 1) - (Int.toNat d))):((a+1) - b)= 0:=Nat.sub_eq_zero_of_le h0
theorem yS(h0:a≤1000):a≤(16777216+1):=oL h0 rfl
theorem wF(h0:(b+1)= a):(a - 1)= b:=Nat.le_antisymm (Nat.le_of_not_lt fun h=>bg [a,b,(a - 1)] (.c 1 (.v 0) (.a (.v 1) (.n 1)) (.c 1 (.a (.v 1) (.n 1)) (.v 2) (.c 1 (.a (.v 2) (.n 1)) (.v 0) .z))) rfl (qE h0.symm) h (oB (Nat.le_of_not_lt fun q=>bg [a,b,(a - 1)] (.c 1 (.a (.v 1) (.n 1)) (.v 0) (.c 1 (.a (.v 0) (.n 1)) (.n 1) .z)) rfl (qE h0) q))) (Nat.le_of_not_lt fun h=>bg [a,b,(a - 1)] (.c 1 (.a (.v 1) (.n 1)) (.v 0) (.c 1 (.a (.v 2) (.n 1)) (.v 1) (.c 1 (.v 0) (.a (.v 2) (.n 1)) .z))) rfl (qE h0) h (oA a 1))
theorem vj(h0:(a:Int)≤(b:Int))(h1:(b:Int) < ((2:Int)^ 63)):(a:Int) < ((2:Int)^ 63):=Int.lt_of_le_of_lt h0 h1
theorem zz(h0:a < 4000):(a+1) < 4096:=oP h0 rfl
theorem pe(h0:((a+(80 * c))+200) < b):a < b:=aj [a,b,c] (.a (.v 0) (.n 1)) (.v 1) (.c 1 (.a (.a (.a (.v 0) (.m 80 (.v 2))) (.n 200)) (.n 1)) (.v 1) .z) rfl h0
theorem zN(h0:(a:Int) < (b:Int))(h1:(b:Int) < ((2:Int)^ 63)):(a:Int) < (((2:Int)^ 63) - (1:Int)):=Int.lt_of_lt_of_le h0 (Int.le_sub_one_of_lt h1)
theorem zV(h0:d = a)(h1:(d+e)≤c)(h2:e = b):(a+b)≤c:=aj [a,b,c,d,e] (.a (.v 0) (.v 1)) (.v 2) (.c 1 (.v 0) (.v 3) (.c 1 (.a (.v 3) (.v 4)) (.v 2) (.c 1 (.v 1) (.v 4) .z))) rfl (qE h0.symm) h1 (qE h2.symm)
theorem Ao{a:Int}(h0:(- ((2:Int)^ 63))≤a)(h1:a < ((2:Int)^ 63)):((- (9223372036854775808:Int))≤a)∧(a < (9223372036854775808:Int)):=⟨h0,h1⟩
theorem tI(h0:a≤b)(h1:(b - a)=(c+1)):a < b:=Nat.lt_of_not_le fun h=>bg [a,b,c,(b - a)] (.c 1 (.a (.v 2) (.n 1)) (.v 3) (.c 1 (.v 1) (.v 0) (.c 1 (.a (.v 3) (.v 0)) (.v 1) .z))) rfl (qE h1.symm) h (oB (Nat.le_of_not_lt fun q=>bg [a,b,c,(b - a)] (.c 1 (.v 0) (.v 1) (.c 1 (.a (.v 1) (.n 1)) (.v 0) .z)) rfl h0 q))
theorem uS(h0:(b - a)= 0)(h1:a≤b):a = b:=Nat.le_antisymm (aj [a,b,(b - a)] (.v 0) (.v 1) (.c 1 (.v 0) (.v 1) .z) rfl h1) (Nat.le_of_not_lt fun h=>bg [a,b,(b - a)] (.c 1 (.v 2) (.n 0) (.c 1 (.a (.v 0) (.n 1)) (.v 1) (.c 1 (.v 1) (.a (.v 2) (.v 0)) .z))) rfl (qE h0) h (oA b a))
theorem zC(h0:a≤(d+c))(h1:d≤(b+1)):a≤(b+(c+1)):=aj [a,b,c,d] (.v 0) (.a (.v 1) (.a (.v 2) (.n 1))) (.c 1 (.v 0) (.a (.v 3) (.v 2)) (.c 1 (.v 3) (.a (.v 1) (.n 1)) .z)) rfl h0 h1
theorem zL{a:Int}:(Int.toNat (max (0:Int) (min (if (a < (0:Int)) then (a+(b:Int)) else a) (b:Int))))≤b:=Int.toNat_le.mpr (Int.max_le.mpr ⟨Int.natCast_nonneg b,Int.min_le_right _ _⟩)
theorem AH(h0:¬(b = 0))(h1:(c - a)= b)(h2:c≤b)(h3:b = d):a = 0:=(Nat.eq_zero_or_pos a).elim id fun x=>absurd (Nat.sub_lt (Nat.pos_of_ne_zero fun e=>h0 (by rw [← h1,e,Nat.zero_sub])) x) (Nat.not_lt.mpr (lT h2 (qE h1.symm)))
theorem AD(h0:a≤30):((((1+300)+1)+(8 * a))+400) < 1000:=aj [a] (.a (.a (.a (.a (.a (.n 1) (.n 300)) (.n 1)) (.m 8 (.v 0))) (.n 400)) (.n 1)) (.n 1000) (.c 8 (.v 0) (.n 30) .z) rfl h0
theorem zY(h0:a≤30):(((4+3)+(80 * a))+200) < 9900:=aj [a] (.a (.a (.a (.a (.n 4) (.n 3)) (.m 80 (.v 0))) (.n 200)) (.n 1)) (.n 9900) (.c 80 (.v 0) (.n 30) .z) rfl h0
theorem x9(h0:b≤c)(h1:a < b):(min a b)≤c:=Nat.le_of_not_lt fun h=>bg [a,b,c,(min a b)] (.c 1 (.v 1) (.v 2) (.c 1 (.a (.v 2) (.n 1)) (.v 3) (.c 1 (.v 3) (.v 1) .z))) rfl h0 h (Nat.min_le_right a b)
theorem Ax(h0:((b+a)+1)≤1000):a≤1000:=aj [a,b] (.v 0) (.n 1000) (.c 1 (.a (.a (.v 1) (.v 0)) (.n 1)) (.n 1000) .z) rfl h0
theorem AW(h0:((a+b)+1)≤1000)(h1:b≤1000):a≤1000:=aj [a,b] (.v 0) (.n 1000) (.c 1 (.a (.a (.v 0) (.v 1)) (.n 1)) (.n 1000) .z) rfl h0
theorem An(h0:(a+c)≤1000)(h1:b < c):(a+b)≤1000:=aj [a,b,c] (.a (.v 0) (.v 1)) (.n 1000) (.c 1 (.a (.v 0) (.v 2)) (.n 1000) (.c 1 (.a (.v 1) (.n 1)) (.v 2) .z)) rfl h0 h1
theorem zn(h0:((a+c)+1)≤1000)(h1:b < c):((a+1)+b)≤1000:=aj [a,b,c] (.a (.a (.v 0) (.n 1)) (.v 1)) (.n 1000) (.c 1 (.a (.a (.v 0) (.v 2)) (.n 1)) (.n 1000) (.c 1 (.a (.v 1) (.n 1)) (.v 2) .z)) rfl h0 h1
theorem yM(h0:a≤(b+c)):(a+1)≤(b+(c+1)):=Nat.succ_le_succ h0
theorem A7(h0:a≤(b+c)):a≤(b+(c+1)):=oN h0
theorem zI{a:Int}:((a+(b:Int))+(1:Int))=(a+((b:Int)+(1:Int))):=Int.add_assoc a b 1
theorem Ar(h0:a≤(b+c))(h1:c < d)(h2:d≤e)(h3:((f+1)* e)=((f * e)+e))(h4:b≤(g+(f * e)))(h5:((f+1)* e)≤(i * e))(h6:(g+(i * e))≤1000):a≤1000:=Nat.le_of_not_lt fun h=>bg [a,b,c,d,e,f,g,i,((f+1)* e),(f * e),(i * e)] (.c 1 (.v 0) (.a (.v 1) (.v 2)) (.c 1 (.a (.v 2) (.n 1)) (.v 3) (.c 1 (.v 3) (.v 4) (.c 1 (.a (.v 9) (.v 4)) (.v 8) (.c 1 (.v 1) (.a (.v 6) (.v 9)) (.c 1 (.v 8) (.v 10) (.c 1 (.a (.v 6) (.v 10)) (.n 1000) (.c 1 (.a (.n 1000) (.n 1)) (.v 0) .z)))))))) rfl h0 h1 h2 (qE h3.symm) h4 h5 h6 h
theorem Ay(h0:((c+1)* d)=((c * d)+d))(h1:e≤(b+(c * d)))(h2:a≤(e+f))(h3:f≤d):a≤(b+((c+1)* d)):=aj [a,b,c,d,e,f,((c+1)* d),(c * d)] (.v 0) (.a (.v 1) (.v 6)) (.c 1 (.a (.v 7) (.v 3)) (.v 6) (.c 1 (.v 4) (.a (.v 1) (.v 7)) (.c 1 (.v 0) (.a (.v 4) (.v 5)) (.c 1 (.v 5) (.v 3) .z)))) rfl (qE h0.symm) h1 h2 h3
theorem xS(h0:a < b)(h1:¬(a+1 < b)):a =(b - 1):=Nat.le_antisymm (Nat.le_of_not_lt fun h=>bg [a,b,(b - 1)] (.c 1 (.a (.v 0) (.n 1)) (.v 1) (.c 1 (.a (.v 2) (.n 1)) (.v 0) (.c 1 (.v 1) (.a (.v 2) (.n 1)) .z))) rfl h0 h (oA b 1)) (Nat.le_of_not_lt fun h=>bg [a,b,(b - 1)] (.c 1 (.v 1) (.a (.v 0) (.n 1)) (.c 1 (.a (.v 0) (.n 1)) (.v 2) (.c 1 (.a (.v 2) (.n 1)) (.v 1) .z))) rfl (Nat.le_of_not_lt h1) h (oB (Nat.le_of_not_lt fun q=>bg [a,b,(b - 1)] (.c 1 (.a (.v 0) (.n 1)) (.v 1) (.c 1 (.a (.v 1) (.n 1)) (.n 1) .z)) rfl h0 q)))
theorem zb(h0:¬(a+1 < b))(h1:((a+1) - b)= 0):(a+1)= b:=Nat.le_antisymm (Nat.le_of_not_lt fun h=>bg [a,b,((a+1) - b)] (.c 1 (.v 2) (.n 0) (.c 1 (.a (.v 1) (.n 1)) (.a (.v 0) (.n 1)) (.c 1 (.a (.v 0) (.n 1)) (.a (.v 2) (.v 1)) .z))) rfl (qE h1) h (oA (a+1) b)) (aj [a,b,((a+1) - b)] (.v 1) (.a (.v 0) (.n 1)) (.c 1 (.v 1) (.a (.v 0) (.n 1)) .z) rfl (Nat.le_of_not_lt h0))
theorem zy(h0:(a+1)= b):a < b:=qE h0
theorem A5(h0:a≠0):(a - 1) < a:=Nat.sub_lt (Nat.pos_of_ne_zero h0) Nat.zero_lt_one
theorem zu(h0:a≠0):((a - 1)+1)= a:=Nat.sub_add_cancel (Nat.pos_of_ne_zero h0)
theorem zt(h0:(a+1) < (b+1))(h1:¬(a+1 < b)):(a+1)= b:=Nat.le_antisymm (aj [a,b] (.a (.v 0) (.n 1)) (.v 1) (.c 1 (.a (.a (.v 0) (.n 1)) (.n 1)) (.a (.v 1) (.n 1)) .z) rfl h0) (aj [a,b] (.v 1) (.a (.v 0) (.n 1)) (.c 1 (.v 1) (.a (.v 0) (.n 1)) .z) rfl (Nat.le_of_not_lt h1))
theorem vh:((- (1:Int))+((a:Int)+(1:Int)))=(a:Int):=(Int.add_comm _ _).trans (Int.add_neg_cancel_right (a:Int) 1)
theorem yP(h0:a≤(b - 1))(h1:0 < b):(a+1)≤b:=Nat.le_of_not_lt fun h=>bg [a,b,(b - 1)] (.c 1 (.v 0) (.v 2) (.c 1 (.a (.v 1) (.n 1)) (.a (.v 0) (.n 1)) (.c 1 (.a (.v 2) (.n 1)) (.v 1) .z))) rfl h0 h (oB (Nat.le_of_not_lt fun q=>bg [a,b,(b - 1)] (.c 1 (.a (.n 0) (.n 1)) (.v 1) (.c 1 (.a (.v 1) (.n 1)) (.n 1) .z)) rfl h1 q))
theorem zD:(a+b)≤(a+(b+c)):=aj [a,b,c] (.a (.v 0) (.v 1)) (.a (.v 0) (.a (.v 1) (.v 2))) .z rfl
theorem uG(h0:a < 0):False:=Nat.not_lt_zero _ h0
theorem zv(h0:d < c):((a+(b+(c - (d+1))))+1)=(a+(b+(c - d))):=Nat.le_antisymm (Nat.le_of_not_lt fun h=>bg [a,b,c,d,(c - d),(c - (d+1))] (.c 1 (.a (.a (.v 0) (.a (.v 1) (.v 4))) (.n 1)) (.a (.a (.v 0) (.a (.v 1) (.v 5))) (.n 1)) (.c 1 (.a (.v 5) (.a (.v 3) (.n 1))) (.v 2) (.c 1 (.v 2) (.a (.v 4) (.v 3)) .z))) rfl h (oB (Nat.le_of_not_lt fun q=>bg [a,b,c,d,(c - d),(c - (d+1))] (.c 1 (.a (.v 3) (.n 1)) (.v 2) (.c 1 (.a (.v 2) (.n 1)) (.a (.v 3) (.n 1)) .z)) rfl h0 q)) (oA c d)) (Nat.le_of_not_lt fun h=>bg [a,b,c,d,(c - d),(c - (d+1))] (.c 1 (.a (.a (.a (.v 0) (.a (.v 1) (.v 5))) (.n 1)) (.n 1)) (.a (.v 0) (.a (.v 1) (.v 4))) (.c 1 (.v 2) (.a (.v 5) (.a (.v 3) (.n 1))) (.c 1 (.a (.v 4) (.v 3)) (.v 2) .z))) rfl h (oA c (d+1)) (oB (Nat.le_of_not_lt fun q=>bg [a,b,c,d,(c - d),(c - (d+1))] (.c 1 (.a (.v 3) (.n 1)) (.v 2) (.c 1 (.a (.v 2) (.n 1)) (.v 3) .z)) rfl h0 q)))
theorem zO{c:Int}(h0:(a+1)≤1000)(h1:b = a)(h2:c =(a:Int)):(0:Int)≤(a:Int):=Int.natCast_nonneg _
theorem AZ(h0:(a+(b+1))≤c):((a+1)+b)≤c:=aj [a,b,c] (.a (.a (.v 0) (.n 1)) (.v 1)) (.v 2) (.c 1 (.a (.v 0) (.a (.v 1) (.n 1))) (.v 2) .z) rfl h0
theorem wj(h0:a < (b+1))(h1:¬(a < b)):a = b:=Nat.le_antisymm (aj [a,b] (.v 0) (.v 1) (.c 1 (.a (.v 0) (.n 1)) (.a (.v 1) (.n 1)) .z) rfl h0) (aj [a,b] (.v 1) (.v 0) (.c 1 (.v 1) (.v 0) .z) rfl (Nat.le_of_not_lt h1))
theorem A9(h0:c≤b)(h1:(a+1)= c):a < b:=aj [a,b,c] (.a (.v 0) (.n 1)) (.v 1) (.c 1 (.v 2) (.v 1) (.c 1 (.a (.v 0) (.n 1)) (.v 2) .z)) rfl h0 (qE h1)
theorem zP:(a+(b+c))=((a+c)+b):=Nat.le_antisymm (aj [a,b,c] (.a (.v 0) (.a (.v 1) (.v 2))) (.a (.a (.v 0) (.v 2)) (.v 1)) .z rfl) (aj [a,b,c] (.a (.a (.v 0) (.v 2)) (.v 1)) (.a (.v 0) (.a (.v 1) (.v 2))) .z rfl)
theorem z8(h0:a≤1000):a < 4000:=oP h0 rfl
theorem A8:(a+(b+c))=((a+b)+c):=Nat.le_antisymm (aj [a,b,c] (.a (.v 0) (.a (.v 1) (.v 2))) (.a (.a (.v 0) (.v 1)) (.v 2)) .z rfl) (aj [a,b,c] (.a (.a (.v 0) (.v 1)) (.v 2)) (.a (.v 0) (.a (.v 1) (.v 2))) .z rfl)
theorem Am(h0:b≤1000)(h1:(a+c)≤b):a≤1000:=aj [a,b,c] (.v 0) (.n 1000) (.c 1 (.v 1) (.n 1000) (.c 1 (.a (.v 0) (.v 2)) (.v 1) .z)) rfl h0 h1
theorem zd:(min a b)≤b:=Nat.le_of_not_lt fun h=>bg [a,b,(min a b)] (.c 1 (.a (.v 1) (.n 1)) (.v 2) (.c 1 (.v 2) (.v 1) .z)) rfl h (Nat.min_le_right a b)
theorem A1(h0:a≤1000):((a - b)+1)≤2000:=Nat.le_of_not_lt fun h=>bg [a,b,(a - b)] (.c 1 (.v 0) (.n 1000) (.c 1 (.a (.n 2000) (.n 1)) (.a (.v 2) (.n 1)) (.c 1 (.v 2) (.v 0) .z))) rfl h0 h (Nat.sub_le a b)
theorem v5(h0:a < 1000):a≤16777215:=aj [a] (.v 0) (.n 16777215) (.c 1 (.a (.v 0) (.n 1)) (.n 1000) .z) rfl h0
theorem xQ(h0:a≤(b+0))(h1:b≤c)(h2:c < a):False:=bg [a,b,c] (.c 1 (.v 0) (.a (.v 1) (.n 0)) (.c 1 (.v 1) (.v 2) (.c 1 (.a (.v 2) (.n 1)) (.v 0) .z))) rfl h0 h1 h2
theorem xw(h0:a≤b)(h1:¬(b = a)):(a+1)≤b:=Nat.lt_of_le_of_ne h0 (Ne.symm h1)
theorem uh(h0:a < b):(a≤b)∧(¬((b - a)= 0)):=⟨aj [a,b,(b - a)] (.v 0) (.v 1) (.c 1 (.a (.v 0) (.n 1)) (.v 1) .z) rfl h0,fun h=>bg [a,b,(b - a)] (.c 1 (.a (.v 0) (.n 1)) (.v 1) (.c 1 (.v 2) (.n 0) (.c 1 (.v 1) (.a (.v 2) (.v 0)) .z))) rfl h0 (qE h) (oA b a)⟩
theorem uB(h0:¬(b < a)):(a < b)∨((a - b)= 0):= .inr (Nat.sub_eq_zero_of_le (Nat.le_of_not_lt h0))
theorem xE(h0:a≤3):(a+((3 * b)+5))≤((3 *(b+1))+5):=aj [a,b] (.a (.v 0) (.a (.m 3 (.v 1)) (.n 5))) (.a (.m 3 (.a (.v 1) (.n 1))) (.n 5)) (.c 1 (.v 0) (.n 3) .z) rfl h0
theorem xc(h0:a < (b+(c+1))):a < ((b+1)+c):=aj [a,b,c] (.a (.v 0) (.n 1)) (.a (.a (.v 1) (.n 1)) (.v 2)) (.c 1 (.a (.v 0) (.n 1)) (.a (.v 1) (.a (.v 2) (.n 1))) .z) rfl h0
theorem vX(h0:a≤b)(h1:b < a):False:=oX h1 h0
theorem wO(h0:b < a):a < (b+((a+1) - b)):=Nat.lt_of_not_le fun h=>bg [a,b,((a+1) - b)] (.c 1 (.a (.v 1) (.v 2)) (.v 0) (.c 1 (.a (.v 0) (.n 1)) (.a (.v 2) (.v 1)) .z)) rfl h (oA (a+1) b)
theorem w3(h0:b < a):((3 *((a+1) - b))+5)≤((3 * a)+10):=Nat.le_of_not_lt fun h=>bg [a,b,((a+1) - b)] (.c 1 (.a (.a (.m 3 (.v 0)) (.n 10)) (.n 1)) (.a (.m 3 (.v 2)) (.n 5)) (.c 3 (.a (.v 2) (.v 1)) (.a (.v 0) (.n 1)) .z)) rfl h (oB (Nat.le_of_not_lt fun q=>bg [a,b,((a+1) - b)] (.c 1 (.a (.v 1) (.n 1)) (.v 0) (.c 1 (.a (.a (.v 0) (.n 1)) (.n 1)) (.v 1) .z)) rfl h0 q))
theorem wu(h0:b≤c):(a+b)≤(a+c):=aj [a,b,c] (.a (.v 0) (.v 1)) (.a (.v 0) (.v 2)) (.c 1 (.v 1) (.v 2) .z) rfl h0
theorem w4(h0:a≤4):a≤((3 *(b+1))+5):=oL h0 rfl
theorem wX(h0:a≤b)(h1:b≤(2 ^ 62)):a < (4 *(2 ^ 64)):=aj [a,b] (.a (.v 0) (.n 1)) (.m 4 (.n 18446744073709551616)) (.c 1 (.v 0) (.v 1) (.c 1 (.v 1) (.n 4611686018427387904) .z)) rfl h0 h1
theorem wJ(h0:a < (4 * 0)):False:=Nat.not_lt_zero _ h0
theorem vY(h0:(4+a) < (4 *(b+1))):a < (4 * b):=aj [a,b] (.a (.v 0) (.n 1)) (.m 4 (.v 1)) (.c 1 (.a (.a (.n 4) (.v 0)) (.n 1)) (.m 4 (.a (.v 1) (.n 1))) .z) rfl h0
theorem sF(h0:a≤1)(h1:b = a):(a = 0)∨(a = 1):=Nat.le_one_iff_eq_zero_or_eq_one.mp h0
theorem oj(h0:a≤200000):a≤16777216:=oL h0 rfl
theorem v9(h0:a≤(2 * b))(h1:b < c)(h2:c≤100000):a≤999999:=aj [a,b,c] (.v 0) (.n 999999) (.c 1 (.v 0) (.m 2 (.v 1)) (.c 2 (.a (.v 1) (.n 1)) (.v 2) (.c 2 (.v 2) (.n 100000) .z))) rfl h0 h1 h2
theorem t4(h0:a < (b+0))(h1:b≤a):False:=oX h0 h1
theorem v7(h0:a≤(3 * d))(h1:b < f)(h2:f≤c)(h3:d < b)(h4:e≤2):((a+((min b c) - d))+e)≤(3 * f):=aj [a,b,d,e,f,min b c - d] (.a (.a (.v 0) (.v 5)) (.v 3)) (.m 3 (.v 4)) (.c 1 (.v 0) (.m 3 (.v 2)) (.c 3 (.a (.v 1) (.n 1)) (.v 4) (.c 2 (.a (.v 2) (.n 1)) (.v 1) (.c 1 (.v 3) (.n 2) (.c 1 (.a (.v 5) (.v 2)) (.v 1) .z))))) rfl h0 h1 h3 h4 (lT (oB (Nat.le_min.mpr ⟨Nat.le_of_lt h3,Nat.le_of_lt (Nat.lt_of_lt_of_le (Nat.lt_trans h3 h1) h2)⟩)) (Nat.min_le_left b c))
theorem uA(h0:a = b)(h1:(b+1)≤(2 * c))(h2:d < c)(h3:c≤e)(h4:e≤100000):a≤16777216:=aj [a,b,c,d,e] (.v 0) (.n 16777216) (.c 1 (.v 0) (.v 1) (.c 1 (.a (.v 1) (.n 1)) (.m 2 (.v 2)) (.c 2 (.v 2) (.v 4) (.c 2 (.v 4) (.n 100000) .z)))) rfl (qE h0) h1 h3 h4
theorem xo(h0:a≤(3 * b))(h1:b≤c)(h2:¬(b < c))(h3:c≤100000):a≤1000000:=aj [a,b,c] (.v 0) (.n 1000000) (.c 1 (.v 0) (.m 3 (.v 1)) (.c 3 (.v 1) (.v 2) (.c 3 (.v 2) (.n 100000) .z))) rfl h0 h1 h3
theorem yB(h0:b≤d):((min a b) - c)≤d:=Nat.le_of_not_lt fun h=>bg [a,b,c,d,((min a b) - c),(min a b)] (.c 1 (.v 1) (.v 3) (.c 1 (.a (.v 3) (.n 1)) (.v 4) (.c 1 (.v 5) (.v 1) (.c 1 (.v 4) (.v 5) .z)))) rfl h0 h (Nat.min_le_right a b) (Nat.sub_le (min a b) c)
theorem ww(h0:a≤(3 * c))(h1:c < b)(h2:b≤100000):(a+(b - c))≤1000000:=Nat.le_of_not_lt fun h=>bg [a,b,c,(b - c)] (.c 1 (.v 0) (.m 3 (.v 2)) (.c 3 (.v 1) (.n 100000) (.c 1 (.a (.n 1000000) (.n 1)) (.a (.v 0) (.v 3)) (.c 3 (.a (.v 3) (.v 2)) (.v 1) .z)))) rfl h0 h2 h (oB (Nat.le_of_not_lt fun q=>bg [a,b,c,(b - c)] (.c 1 (.a (.v 2) (.n 1)) (.v 1) (.c 1 (.a (.v 1) (.n 1)) (.v 2) .z)) rfl h1 q))
theorem xB(h0:b≤2)(h1:a≤(3 * d))(h2:e < c)(h3:d≤e)(h4:¬(d < e)):(a+b)≤(3 * c):=aj [a,b,c,d,e] (.a (.v 0) (.v 1)) (.m 3 (.v 2)) (.c 1 (.v 1) (.n 2) (.c 1 (.v 0) (.m 3 (.v 3)) (.c 3 (.a (.v 4) (.n 1)) (.v 2) (.c 3 (.v 3) (.v 4) .z)))) rfl h0 h1 h2 h3
theorem xj(h0:a < 256):(a %(2 ^ 8))= a:=Nat.mod_eq_of_lt h0
theorem yb(h0:a≤(2 * c))(h1:d < b)(h2:c≤d)(h3:¬(c < d)):(a+1)≤(2 * b):=aj [a,b,c,d] (.a (.v 0) (.n 1)) (.m 2 (.v 1)) (.c 1 (.v 0) (.m 2 (.v 2)) (.c 2 (.a (.v 3) (.n 1)) (.v 1) (.c 2 (.v 2) (.v 3) .z))) rfl h0 h1 h2
theorem xm(h0:a < (d+(c+1)))(h1:e < b)(h2:d≤e):a < (b+c):=aj [a,b,c,d,e] (.a (.v 0) (.n 1)) (.a (.v 1) (.v 2)) (.c 1 (.a (.v 0) (.n 1)) (.a (.v 3) (.a (.v 2) (.n 1))) (.c 1 (.a (.v 4) (.n 1)) (.v 1) (.c 1 (.v 3) (.v 4) .z))) rfl h0 h1 h2
theorem yF(h0:a≤(2 * c))(h1:d < b)(h2:c < d):((a+1)+1)≤(2 * b):=aj [a,b,c,d] (.a (.a (.v 0) (.n 1)) (.n 1)) (.m 2 (.v 1)) (.c 1 (.v 0) (.m 2 (.v 2)) (.c 2 (.a (.v 3) (.n 1)) (.v 1) (.c 2 (.a (.v 2) (.n 1)) (.v 3) .z))) rfl h0 h1 h2
theorem ue(h0:a≤100000):a≤16777216:=oL h0 rfl
theorem xC(h0:a≤(2 * b))(h1:b≤c)(h2:c≤100000):a≤200000:=aj [a,b,c] (.v 0) (.n 200000) (.c 1 (.v 0) (.m 2 (.v 1)) (.c 2 (.v 1) (.v 2) (.c 2 (.v 2) (.n 100000) .z))) rfl h0 h1 h2
theorem yx(h0:a≤1):(a = 0)∨(a = 1):=Nat.le_one_iff_eq_zero_or_eq_one.mp h0
theorem xl(h0:a≤(2 * b))(h1:b≤c)(h2:¬(b < c))(h3:c≤100000):a≤1000000:=aj [a,b,c] (.v 0) (.n 1000000) (.c 1 (.v 0) (.m 2 (.v 1)) (.c 2 (.v 1) (.v 2) (.c 2 (.v 2) (.n 100000) .z))) rfl h0 h1 h3
theorem yh(h0:a≤1000000):(a+(b * 0))≤16777216:=oL h0 rfl
theorem x8(h0:(a+(b+1))= c)(h1:d = c):((a+1)+b)= c:=Nat.le_antisymm (aj [a,b,c,d] (.a (.a (.v 0) (.n 1)) (.v 1)) (.v 2) (.c 1 (.a (.v 0) (.a (.v 1) (.n 1))) (.v 2) .z) rfl (qE h0)) (aj [a,b,c,d] (.v 2) (.a (.a (.v 0) (.n 1)) (.v 1)) (.c 1 (.v 2) (.a (.v 0) (.a (.v 1) (.n 1))) .z) rfl (qE h0.symm))
theorem xH(h0:a≤1000000):(0+a)≤16777216:=aj [a] (.a (.n 0) (.v 0)) (.n 16777216) (.c 1 (.v 0) (.n 1000000) .z) rfl h0
theorem wV(h0:a≤1000000):a≤16777216:=oL h0 rfl
theorem xY(h0:(a+(c+1))= b)(h1:d = b):a < b:=aj [a,b,c,d] (.a (.v 0) (.n 1)) (.v 1) (.c 1 (.a (.v 0) (.a (.v 2) (.n 1))) (.v 1) .z) rfl (qE h0)
theorem k9:a < (0+(a+1)):=Nat.le_add_left _ _
theorem wy(h0:a < 256)(h1:(a %(2 ^ 8))= b)(h2:b = 92):a = 92:=((Nat.mod_eq_of_lt h0).symm.trans h1).trans h2
theorem q5(h0:a≤b)(h1:(b - a)=(c+1)):(a+1)≤b:=Nat.le_of_not_lt fun h=>bg [a,b,c,(b - a)] (.c 1 (.a (.v 2) (.n 1)) (.v 3) (.c 1 (.a (.v 1) (.n 1)) (.a (.v 0) (.n 1)) (.c 1 (.a (.v 3) (.v 0)) (.v 1) .z))) rfl (qE h1.symm) h (oB (Nat.le_of_not_lt fun q=>bg [a,b,c,(b - a)] (.c 1 (.v 0) (.v 1) (.c 1 (.a (.v 1) (.n 1)) (.v 0) .z)) rfl h0 q))
theorem xd(h0:(b+c)≤d)(h1:a≤b)(h2:0 < c):(a≤b)∧((b < (b+c))∧(b+c≤d)):=⟨aj [a,b,c,d] (.v 0) (.v 1) (.c 1 (.v 0) (.v 1) .z) rfl h1,⟨aj [a,b,c,d] (.a (.v 1) (.n 1)) (.a (.v 1) (.v 2)) (.c 1 (.a (.n 0) (.n 1)) (.v 2) .z) rfl h2,aj [a,b,c,d] (.a (.v 1) (.v 2)) (.v 3) (.c 1 (.a (.v 1) (.v 2)) (.v 3) .z) rfl h0⟩⟩
theorem xt(h0:(a+1 < b)∧(c = 10)):(a+2)≤b:=aj [a,b,c] (.a (.v 0) (.n 2)) (.v 1) (.c 1 (.a (.a (.v 0) (.n 1)) (.n 1)) (.v 1) .z) rfl h0.1
theorem vN(h0:a≤b)(h1:b < c):(a≤b)∧((b < (b+1))∧(b+1≤c)):=⟨aj [a,b,c] (.v 0) (.v 1) (.c 1 (.v 0) (.v 1) .z) rfl h0,⟨aj [a,b,c] (.a (.v 1) (.n 1)) (.a (.v 1) (.n 1)) .z rfl,aj [a,b,c] (.a (.v 1) (.n 1)) (.v 2) (.c 1 (.a (.v 1) (.n 1)) (.v 2) .z) rfl h1⟩⟩
theorem uu(h0:a≤b)(h1:¬(a < b)):a = b:=Nat.le_antisymm (aj [a,b] (.v 0) (.v 1) (.c 1 (.v 0) (.v 1) .z) rfl h0) (aj [a,b] (.v 1) (.v 0) (.c 1 (.v 1) (.v 0) .z) rfl (Nat.le_of_not_lt h1))
theorem xn(h0:0 < c)(h1:a < (e+(d+1)))(h2:e≤b):a < ((b+c)+d):=aj [a,b,c,d,e] (.a (.v 0) (.n 1)) (.a (.a (.v 1) (.v 2)) (.v 3)) (.c 1 (.a (.n 0) (.n 1)) (.v 2) (.c 1 (.a (.v 0) (.n 1)) (.a (.v 4) (.a (.v 3) (.n 1))) (.c 1 (.v 4) (.v 1) .z))) rfl h0 h1 h2
theorem wt(h0:a≤100000):((3 * a)+10)≤(2 ^ 62):=aj [a] (.a (.m 3 (.v 0)) (.n 10)) (.n 4611686018427387904) (.c 3 (.v 0) (.n 100000) .z) rfl h0
theorem sd(h0:(a - b)=(c+1))(h1:b≤a):(a - (b+1))= c:=(Nat.sub_sub a b 1).symm.trans (congrArg (· - 1) h0)
theorem wR(h0:a = 46):a < 256:=aj [a] (.a (.v 0) (.n 1)) (.n 256) (.c 1 (.v 0) (.n 46) .z) rfl (qE h0)
theorem rA(h0:a < b):(a+1)≤b:=h0
theorem yy(h0:b < a):(a - b)=((a - (b+1))+1):=Nat.le_antisymm (Nat.le_of_not_lt fun h=>bg [a,b,(a - (b+1)),(a - b)] (.c 1 (.a (.a (.v 2) (.n 1)) (.n 1)) (.v 3) (.c 1 (.a (.v 3) (.v 1)) (.v 0) (.c 1 (.v 0) (.a (.v 2) (.a (.v 1) (.n 1))) .z))) rfl h (oB (Nat.le_of_not_lt fun q=>bg [a,b,(a - (b+1)),(a - b)] (.c 1 (.a (.v 1) (.n 1)) (.v 0) (.c 1 (.a (.v 0) (.n 1)) (.v 1) .z)) rfl h0 q)) (oA a (b+1))) (Nat.le_of_not_lt fun h=>bg [a,b,(a - (b+1)),(a - b)] (.c 1 (.a (.v 3) (.n 1)) (.a (.v 2) (.n 1)) (.c 1 (.v 0) (.a (.v 3) (.v 1)) (.c 1 (.a (.v 2) (.a (.v 1) (.n 1))) (.v 0) .z))) rfl h (oA a b) (oB (Nat.le_of_not_lt fun q=>bg [a,b,(a - (b+1)),(a - b)] (.c 1 (.a (.v 1) (.n 1)) (.v 0) (.c 1 (.a (.v 0) (.n 1)) (.a (.v 1) (.n 1)) .z)) rfl h0 q)))
theorem wn(h0:a≤c)(h1:c≤b)(h2:(c - a)=(d+1)):a < b:=Nat.lt_of_not_le fun h=>bg [a,b,c,d,(c - a)] (.c 1 (.v 2) (.v 1) (.c 1 (.a (.v 3) (.n 1)) (.v 4) (.c 1 (.v 1) (.v 0) (.c 1 (.a (.v 4) (.v 0)) (.v 2) .z)))) rfl h1 (qE h2.symm) h (oB (Nat.le_of_not_lt fun q=>bg [a,b,c,d,(c - a)] (.c 1 (.v 0) (.v 2) (.c 1 (.a (.v 2) (.n 1)) (.v 0) .z)) rfl h0 q))
theorem v4(h0:a≤(2 * b)):((a+1)+1)≤(2 *(b+1)):=aj [a,b] (.a (.a (.v 0) (.n 1)) (.n 1)) (.m 2 (.a (.v 1) (.n 1))) (.c 1 (.v 0) (.m 2 (.v 1)) .z) rfl h0
theorem vD(h0:a≤(2 * b)):(a+1)≤(2 *(b+1)):=aj [a,b] (.a (.v 0) (.n 1)) (.m 2 (.a (.v 1) (.n 1))) (.c 1 (.v 0) (.m 2 (.v 1)) .z) rfl h0
theorem uz(h0:a≤(2 * b))(h1:b≤50000):a≤100000:=aj [a,b] (.v 0) (.n 100000) (.c 1 (.v 0) (.m 2 (.v 1)) (.c 2 (.v 1) (.n 50000) .z)) rfl h0 h1
theorem up(h0:a≤50000):a≤100000:=oL h0 rfl
theorem vS(h0:a≤(2 * b))(h1:b≤(2 * c))(h2:c≤25000):a≤100000:=aj [a,b,c] (.v 0) (.n 100000) (.c 1 (.v 0) (.m 2 (.v 1)) (.c 2 (.v 1) (.m 2 (.v 2)) (.c 4 (.v 2) (.n 25000) .z))) rfl h0 h1 h2
theorem vw(h0:100010≤b)(h1:a = c)(h2:c≤(2 * d))(h3:d≤25000):a≤b:=aj [a,b,c,d] (.v 0) (.v 1) (.c 1 (.n 100010) (.v 1) (.c 1 (.v 0) (.v 2) (.c 1 (.v 2) (.m 2 (.v 3)) (.c 2 (.v 3) (.n 25000) .z)))) rfl h0 (qE h1) h2 h3
theorem vq(h0:b = 2)(h1:a≤100000)(h2:100010≤c):(a+b)≤c:=aj [a,b,c] (.a (.v 0) (.v 1)) (.v 2) (.c 1 (.v 1) (.n 2) (.c 1 (.v 0) (.n 100000) (.c 1 (.n 100010) (.v 2) .z))) rfl (qE h0) h1 h2
theorem wQ(h0:a≤25000):a≤50000:=oL h0 rfl
theorem wL(h0:a≤25000):a≤100000:=oL h0 rfl
theorem vR(h0:a < 256):(((a %(2 ^ 8)):Nat):Int)=(a:Int):=congrArg (fun n:Nat=>(n:Int)) (Nat.mod_eq_of_lt h0)
theorem wq(h0:a = 2):a≤2:=oE h0 rfl
theorem xU(h0:b = 2)(h1:c = 3)(h2:a≤100000)(h3:100010≤d):((a+b)+c)≤d:=aj [a,b,c,d] (.a (.a (.v 0) (.v 1)) (.v 2)) (.v 3) (.c 1 (.v 1) (.n 2) (.c 1 (.v 2) (.n 3) (.c 1 (.v 0) (.n 100000) (.c 1 (.n 100010) (.v 3) .z)))) rfl (qE h0) (qE h1) h2 h3
theorem uc(h0:a≤100000)(h1:100010≤b):a≤b:=oS h0 h1 rfl
theorem xT(h0:100010≤b)(h1:a≤50000):a≤b:=oS h1 h0 rfl
theorem w0(h0:b = 0)(h1:c = 3)(h2:a≤100000)(h3:100010≤d):((a+b)+c)≤d:=aj [a,b,c,d] (.a (.a (.v 0) (.v 1)) (.v 2)) (.v 3) (.c 1 (.v 1) (.n 0) (.c 1 (.v 2) (.n 3) (.c 1 (.v 0) (.n 100000) (.c 1 (.n 100010) (.v 3) .z)))) rfl (qE h0) (qE h1) h2 h3
theorem xN(h0:a = 0):a≤2:=oE h0 rfl
theorem wP(h0:b = 0)(h1:a≤100000)(h2:100010≤c):(a+b)≤c:=aj [a,b,c] (.a (.v 0) (.v 1)) (.v 2) (.c 1 (.v 1) (.n 0) (.c 1 (.v 0) (.n 100000) (.c 1 (.n 100010) (.v 2) .z))) rfl (qE h0) h1 h2
theorem um(h0:a < 256):((0:Int)≤(a:Int))∧((a:Int) < (256:Int)):=⟨Int.natCast_nonneg a,Int.ofNat_lt.mpr h0⟩
theorem yz(h0:a≤(2 * b))(h1:b = c)(h2:c≤25000):a≤50000:=aj [a,b,c] (.v 0) (.n 50000) (.c 1 (.v 0) (.m 2 (.v 1)) (.c 2 (.v 1) (.v 2) (.c 2 (.v 2) (.n 25000) .z))) rfl h0 (qE h1) h2
theorem xk(h0:b = c)(h1:(a+1) < c):(a+2)≤b:=aj [a,b,c] (.a (.v 0) (.n 2)) (.v 1) (.c 1 (.v 2) (.v 1) (.c 1 (.a (.a (.v 0) (.n 1)) (.n 1)) (.v 2) .z)) rfl (qE h0.symm) h1
theorem t8(h0:(a+1) < (b+1)):(a - 1) < b:=Nat.lt_of_not_le fun h=>bg [a,b,(a - 1)] (.c 1 (.a (.a (.v 0) (.n 1)) (.n 1)) (.a (.v 1) (.n 1)) (.c 1 (.v 1) (.v 2) (.c 1 (.v 2) (.v 0) .z))) rfl h0 h (Nat.sub_le a 1)
theorem xP(h0:a = c)(h1:c = d)(h2:(b+1) < d):(a - ((b+1)+1)) < c:=Nat.lt_of_not_le fun h=>bg [a,b,c,d,(a - ((b+1)+1))] (.c 1 (.v 0) (.v 2) (.c 1 (.v 2) (.v 4) (.c 1 (.a (.v 4) (.a (.a (.v 1) (.n 1)) (.n 1))) (.v 0) .z))) rfl (qE h0) h (oB (Nat.le_of_not_lt fun q=>bg [a,b,c,d,(a - ((b+1)+1))] (.c 1 (.v 2) (.v 0) (.c 1 (.v 3) (.v 2) (.c 1 (.a (.a (.v 1) (.n 1)) (.n 1)) (.v 3) (.c 1 (.a (.v 0) (.n 1)) (.a (.a (.v 1) (.n 1)) (.n 1)) .z)))) rfl (qE h0.symm) (qE h1.symm) h2 q))
theorem xx(h0:a≤c)(h1:(c+d)≤b)(h2:(c - a)=(e+1)):a < b:=Nat.lt_of_not_le fun h=>bg [a,b,c,d,e,(c - a)] (.c 1 (.a (.v 2) (.v 3)) (.v 1) (.c 1 (.a (.v 4) (.n 1)) (.v 5) (.c 1 (.v 1) (.v 0) (.c 1 (.a (.v 5) (.v 0)) (.v 2) .z)))) rfl h1 (qE h2.symm) h (oB (Nat.le_of_not_lt fun q=>bg [a,b,c,d,e,(c - a)] (.c 1 (.v 0) (.v 2) (.c 1 (.a (.v 2) (.n 1)) (.v 0) .z)) rfl h0 q))
theorem xz(h0:a = c)(h1:b < c)(h2:c = d):(a - (b+1)) < c:=Nat.lt_of_not_le fun h=>bg [a,b,c,d,(a - (b+1))] (.c 1 (.v 0) (.v 2) (.c 1 (.v 2) (.v 4) (.c 1 (.a (.v 4) (.a (.v 1) (.n 1))) (.v 0) .z))) rfl (qE h0) h (oB (Nat.le_of_not_lt fun q=>bg [a,b,c,d,(a - (b+1))] (.c 1 (.v 2) (.v 0) (.c 1 (.a (.v 1) (.n 1)) (.v 2) (.c 1 (.a (.v 0) (.n 1)) (.a (.v 1) (.n 1)) .z))) rfl (qE h0.symm) h1 q))
theorem vE(h0:a≤c)(h1:(c - a)=(d+1))(h2:b = e)(h3:(c+f)≤e):a < b:=Nat.lt_of_not_le fun h=>bg [a,b,c,d,e,f,(c - a)] (.c 1 (.a (.v 3) (.n 1)) (.v 6) (.c 1 (.v 4) (.v 1) (.c 1 (.a (.v 2) (.v 5)) (.v 4) (.c 1 (.v 1) (.v 0) (.c 1 (.a (.v 6) (.v 0)) (.v 2) .z))))) rfl (qE h1.symm) (qE h2.symm) h3 h (oB (Nat.le_of_not_lt fun q=>bg [a,b,c,d,e,f,(c - a)] (.c 1 (.v 0) (.v 2) (.c 1 (.a (.v 2) (.n 1)) (.v 0) .z)) rfl h0 q))
theorem ya(h0:b≤a)(h1:(a - b)=(c+1)):(a - b)=((a - (b+1))+1):=(Nat.sub_add_cancel (show 1≤a - b from h1▸Nat.succ_le_succ (Nat.zero_le c))).symm.trans (congrArg (·+1) (Nat.sub_sub a b 1))
theorem wC(h0:a = c)(h1:c = d)(h2:(b+1) < d):(a - ((b+1)+1)) < (c+1):=Nat.lt_of_not_le fun h=>bg [a,b,c,d,(a - ((b+1)+1))] (.c 1 (.v 0) (.v 2) (.c 1 (.a (.v 2) (.n 1)) (.v 4) (.c 1 (.a (.v 4) (.a (.a (.v 1) (.n 1)) (.n 1))) (.v 0) .z))) rfl (qE h0) h (oB (Nat.le_of_not_lt fun q=>bg [a,b,c,d,(a - ((b+1)+1))] (.c 1 (.v 2) (.v 0) (.c 1 (.v 3) (.v 2) (.c 1 (.a (.a (.v 1) (.n 1)) (.n 1)) (.v 3) (.c 1 (.a (.v 0) (.n 1)) (.a (.a (.v 1) (.n 1)) (.n 1)) .z)))) rfl (qE h0.symm) (qE h1.symm) h2 q))
theorem vV(h0:a≤c)(h1:b = c)(h2:(c - a)=(d+1)):a < b:=Nat.lt_of_not_le fun h=>bg [a,b,c,d,(c - a)] (.c 1 (.v 2) (.v 1) (.c 1 (.a (.v 3) (.n 1)) (.v 4) (.c 1 (.v 1) (.v 0) (.c 1 (.a (.v 4) (.v 0)) (.v 2) .z)))) rfl (qE h1.symm) (qE h2.symm) h (oB (Nat.le_of_not_lt fun q=>bg [a,b,c,d,(c - a)] (.c 1 (.v 0) (.v 2) (.c 1 (.a (.v 2) (.n 1)) (.v 0) .z)) rfl h0 q))
theorem uj(h0:b = c)(h1:a < c)(h2:c = d):a < b:=aj [a,b,c,d] (.a (.v 0) (.n 1)) (.v 1) (.c 1 (.v 2) (.v 1) (.c 1 (.a (.v 0) (.n 1)) (.v 2) .z)) rfl (qE h0.symm) h1
theorem yA(h0:a = c)(h1:b < c)(h2:c = d):(a - (b+1)) < (c+1):=Nat.lt_of_not_le fun h=>bg [a,b,c,d,(a - (b+1))] (.c 1 (.v 0) (.v 2) (.c 1 (.a (.v 2) (.n 1)) (.v 4) (.c 1 (.a (.v 4) (.a (.v 1) (.n 1))) (.v 0) .z))) rfl (qE h0) h (oB (Nat.le_of_not_lt fun q=>bg [a,b,c,d,(a - (b+1))] (.c 1 (.v 2) (.v 0) (.c 1 (.a (.v 1) (.n 1)) (.v 2) (.c 1 (.a (.v 0) (.n 1)) (.a (.v 1) (.n 1)) .z))) rfl (qE h0.symm) h1 q))
theorem xI(h0:b = c)(h1:(a+1) < d)(h2:c = d):a < b:=aj [a,b,c,d] (.a (.v 0) (.n 1)) (.v 1) (.c 1 (.v 2) (.v 1) (.c 1 (.a (.a (.v 0) (.n 1)) (.n 1)) (.v 3) (.c 1 (.v 3) (.v 2) .z))) rfl (qE h0.symm) h1 (qE h2.symm)
theorem vH(h0:a < c):a < (b+c):=aj [a,b,c] (.a (.v 0) (.n 1)) (.a (.v 1) (.v 2)) (.c 1 (.a (.v 0) (.n 1)) (.v 2) .z) rfl h0
theorem t3:a < ((a+1)+b):=Nat.le_add_right _ _
theorem oU(h0:a≤500):a≤16777216:=oL h0 rfl
theorem wG(h0:(b+1)≤a)(h1:c =(b+1))(h2:d =(b+2)):(a - b) < ((a+1) - b):=Nat.lt_of_not_le fun h=>bg [a,b,c,d,((a+1) - b),(a - b)] (.c 1 (.v 4) (.v 5) (.c 1 (.a (.v 5) (.v 1)) (.v 0) (.c 1 (.a (.v 0) (.n 1)) (.a (.v 4) (.v 1)) .z))) rfl h (oB (Nat.le_of_not_lt fun q=>bg [a,b,c,d,((a+1) - b),(a - b)] (.c 1 (.a (.v 1) (.n 1)) (.v 0) (.c 1 (.a (.v 0) (.n 1)) (.v 1) .z)) rfl h0 q)) (oA (a+1) b)
theorem xJ(h0:c =(b+1))(h1:d < b)(h2:a < d):a < b:=aj [a,b,c,d] (.a (.v 0) (.n 1)) (.v 1) (.c 1 (.a (.v 3) (.n 1)) (.v 1) (.c 1 (.a (.v 0) (.n 1)) (.v 3) .z)) rfl h1 h2
theorem yl(h0:b =(a+1))(h1:c < a):(Int.toNat ((- (1:Int))+(((a+1):Nat):Int)))= a:=by show ((-1:Int)+((a:Int)+1)).toNat = a;rw [Int.add_comm,Int.add_neg_cancel_right];rfl
theorem ua(h0:b =(a+1)):(Int.toNat ((- (1:Int))+(((a+1):Nat):Int)))= a:=(congrArg Int.toNat (vh (a:=a))).trans (Int.toNat_natCast a)
theorem yv(h0:a≤b)(h1:a≠b):((2 * a)+1) < ((2 * b)+1):=Nat.succ_lt_succ ((Nat.mul_lt_mul_left (by decide)).mpr (Nat.lt_of_le_of_ne h0 h1))
theorem v0(h0:a≤b):((2 * a)+0) < ((2 * b)+1):=aj [a,b] (.a (.a (.m 2 (.v 0)) (.n 0)) (.n 1)) (.a (.m 2 (.v 1)) (.n 1)) (.c 2 (.v 0) (.v 1) .z) rfl h0
theorem rK(h0:b =(a+1)):(0:Int)≤((- (1:Int))+(((a+1):Nat):Int)):=Int.le_trans (Int.natCast_nonneg a) (Int.le_of_eq (vh (a:=a)).symm)
theorem iV(h0:a≤b)(h1:b≤500)(h2:c =(a+1)):(a+1)≤16777216:=aj [a,b,c] (.a (.v 0) (.n 1)) (.n 16777216) (.c 1 (.v 0) (.v 1) (.c 1 (.v 1) (.n 500) .z)) rfl h0 h1
theorem wz(h0:b≤a)(h1:a < (b+1))(h2:c =(b+1))(h3:d =(b+2)):a = b:=Nat.le_antisymm (aj [a,b,c,d] (.v 0) (.v 1) (.c 1 (.a (.v 0) (.n 1)) (.a (.v 1) (.n 1)) .z) rfl h1) (aj [a,b,c,d] (.v 1) (.v 0) (.c 1 (.v 1) (.v 0) .z) rfl h0)
theorem wB(h0:a < b)(h1:a = b):False:=bg [a,b] (.c 1 (.a (.v 0) (.n 1)) (.v 1) (.c 1 (.v 1) (.v 0) .z)) rfl h0 (qE h1.symm)
theorem wM(h0:a≤500):(1+a)≤16777216:=aj [a] (.a (.n 1) (.v 0)) (.n 16777216) (.c 1 (.v 0) (.n 500) .z) rfl h0
theorem yo(h0:a≤500):(a+1)≤16777216:=oP h0 rfl
theorem yt{a b c:Int}:((a+b)+c)=(a+(b+c)):=Int.add_assoc a b c
theorem wx{a:Int}:a =(a+(0:Int)):=(Int.add_zero a).symm
theorem xe(h0:b < a):0 < a:=oG h0 rfl
theorem r4(h0:c < (b+1))(h1:a < (c - 1))(h2:0 < c):a < b:=Nat.lt_of_not_le fun h=>bg [a,b,c,(c - 1)] (.c 1 (.a (.v 2) (.n 1)) (.a (.v 1) (.n 1)) (.c 1 (.a (.v 0) (.n 1)) (.v 3) (.c 1 (.v 1) (.v 0) (.c 1 (.a (.v 3) (.n 1)) (.v 2) .z)))) rfl h0 h1 h (oB (Nat.le_of_not_lt fun q=>bg [a,b,c,(c - 1)] (.c 1 (.a (.n 0) (.n 1)) (.v 2) (.c 1 (.a (.v 2) (.n 1)) (.n 1) .z)) rfl h2 q))
theorem uy(h0:(a+1) < b)(h1:0 < b):a < (b - 1):=Nat.lt_of_not_le fun h=>bg [a,b,(b - 1)] (.c 1 (.a (.a (.v 0) (.n 1)) (.n 1)) (.v 1) (.c 1 (.v 2) (.v 0) (.c 1 (.v 1) (.a (.v 2) (.n 1)) .z))) rfl h0 h (oA b 1)
theorem yi(h0:a < c)(h1:c < b):a < b:=aj [a,b,c] (.a (.v 0) (.n 1)) (.v 1) (.c 1 (.a (.v 0) (.n 1)) (.v 2) (.c 1 (.a (.v 2) (.n 1)) (.v 1) .z)) rfl h0 h1
theorem xF(h0:a < b):(a+1) < (b+1):=Nat.succ_le_succ h0
theorem wv(h0:a < c)(h1:(c+1) < b):a < b:=aj [a,b,c] (.a (.v 0) (.n 1)) (.v 1) (.c 1 (.a (.v 0) (.n 1)) (.v 2) (.c 1 (.a (.a (.v 2) (.n 1)) (.n 1)) (.v 1) .z)) rfl h0 h1
theorem wZ(h0:¬(b < c))(h1:c =(a+1)):(a+1)≤b:=aj [a,b,c] (.a (.v 0) (.n 1)) (.v 1) (.c 1 (.v 2) (.v 1) (.c 1 (.a (.v 0) (.n 1)) (.v 2) .z)) rfl (Nat.le_of_not_lt h0) (qE h1.symm)
theorem yc(h0:a < c)(h1:c =(b+1)):a < (b+1):=aj [a,b,c] (.a (.v 0) (.n 1)) (.a (.v 1) (.n 1)) (.c 1 (.a (.v 0) (.n 1)) (.v 2) (.c 1 (.v 2) (.a (.v 1) (.n 1)) .z)) rfl h0 (qE h1)
theorem vK(h0:a < b)(h1:¬(a+1 < b)):(a+1)= b:=Nat.le_antisymm (aj [a,b] (.a (.v 0) (.n 1)) (.v 1) (.c 1 (.a (.v 0) (.n 1)) (.v 1) .z) rfl h0) (aj [a,b] (.v 1) (.a (.v 0) (.n 1)) (.c 1 (.v 1) (.a (.v 0) (.n 1)) .z) rfl (Nat.le_of_not_lt h1))
theorem yd(h0:a < (b - 1))(h1:0 < b):(a+1) < b:=Nat.lt_of_not_le fun h=>bg [a,b,(b - 1)] (.c 1 (.a (.v 0) (.n 1)) (.v 2) (.c 1 (.v 1) (.a (.v 0) (.n 1)) (.c 1 (.a (.v 2) (.n 1)) (.v 1) .z))) rfl h0 h (oB (Nat.le_of_not_lt fun q=>bg [a,b,(b - 1)] (.c 1 (.a (.n 0) (.n 1)) (.v 1) (.c 1 (.a (.v 1) (.n 1)) (.n 1) .z)) rfl h1 q))
theorem vx(h0:b < a)(h1:¬(b+1 < a)):(a - 1)= b:=Nat.le_antisymm (Nat.le_of_not_lt fun h=>bg [a,b,(a - 1)] (.c 1 (.v 0) (.a (.v 1) (.n 1)) (.c 1 (.a (.v 1) (.n 1)) (.v 2) (.c 1 (.a (.v 2) (.n 1)) (.v 0) .z))) rfl (Nat.le_of_not_lt h1) h (oB (Nat.le_of_not_lt fun q=>bg [a,b,(a - 1)] (.c 1 (.a (.v 1) (.n 1)) (.v 0) (.c 1 (.a (.v 0) (.n 1)) (.n 1) .z)) rfl h0 q))) (Nat.le_of_not_lt fun h=>bg [a,b,(a - 1)] (.c 1 (.a (.v 1) (.n 1)) (.v 0) (.c 1 (.a (.v 2) (.n 1)) (.v 1) (.c 1 (.v 0) (.a (.v 2) (.n 1)) .z))) rfl h0 h (oA a 1))
theorem ut(h0:a < (b+1))(h1:0 < a):(a - 1) < b:=Nat.lt_of_not_le fun h=>bg [a,b,(a - 1)] (.c 1 (.a (.v 0) (.n 1)) (.a (.v 1) (.n 1)) (.c 1 (.v 1) (.v 2) (.c 1 (.a (.v 2) (.n 1)) (.v 0) .z))) rfl h0 h (oB (Nat.le_of_not_lt fun q=>bg [a,b,(a - 1)] (.c 1 (.a (.n 0) (.n 1)) (.v 0) (.c 1 (.a (.v 0) (.n 1)) (.n 1) .z)) rfl h1 q))
theorem xG(h0:0 < a):a =((a - 1)+1):=Nat.le_antisymm (Nat.le_of_not_lt fun h=>bg [a,(a - 1)] (.c 1 (.a (.a (.v 1) (.n 1)) (.n 1)) (.v 0) (.c 1 (.v 0) (.a (.v 1) (.n 1)) .z)) rfl h (oA a 1)) (Nat.le_of_not_lt fun h=>bg [a,(a - 1)] (.c 1 (.a (.v 0) (.n 1)) (.a (.v 1) (.n 1)) (.c 1 (.a (.v 1) (.n 1)) (.v 0) .z)) rfl h (oB (Nat.le_of_not_lt fun q=>bg [a,(a - 1)] (.c 1 (.a (.n 0) (.n 1)) (.v 0) (.c 1 (.a (.v 0) (.n 1)) (.n 1) .z)) rfl h0 q)))
theorem wc(h0:0 < b)(h1:a < c)(h2:(c+1) < b):a < (b - 1):=Nat.lt_of_not_le fun h=>bg [a,b,c,(b - 1)] (.c 1 (.a (.v 0) (.n 1)) (.v 2) (.c 1 (.a (.a (.v 2) (.n 1)) (.n 1)) (.v 1) (.c 1 (.v 3) (.v 0) (.c 1 (.v 1) (.a (.v 3) (.n 1)) .z)))) rfl h1 h2 h (oA b 1)
theorem wY(h0:¬(a < b))(h1:(a - b)= 0):a = b:=Nat.le_antisymm (Nat.le_of_not_lt fun h=>bg [a,b,(a - b)] (.c 1 (.v 2) (.n 0) (.c 1 (.a (.v 1) (.n 1)) (.v 0) (.c 1 (.v 0) (.a (.v 2) (.v 1)) .z))) rfl (qE h1) h (oA a b)) (aj [a,b,(a - b)] (.v 1) (.v 0) (.c 1 (.v 1) (.v 0) .z) rfl (Nat.le_of_not_lt h0))
theorem vJ(h0:a < (b+0))(h1:(b+c)≤a):False:=bg [a,b,c] (.c 1 (.a (.v 0) (.n 1)) (.a (.v 1) (.n 0)) (.c 1 (.a (.v 1) (.v 2)) (.v 0) .z)) rfl h0 h1
theorem uv(h0:a≤1000):a≤16777216:=oL h0 rfl
theorem vz(h0:a≤500):a≤1000:=oL h0 rfl
theorem xy(h0:a < (min b c)):a < b:=Nat.lt_of_not_le fun h=>bg [a,b,c,(min b c)] (.c 1 (.a (.v 0) (.n 1)) (.v 3) (.c 1 (.v 1) (.v 0) (.c 1 (.v 3) (.v 1) .z))) rfl h0 h (Nat.min_le_left b c)
theorem ui(h0:1000000≤a):1≤a:=oG h0 rfl
theorem yf{c:Int}(h0:b = 0)(h1:c =((b:Int)+(a:Int))):0 < (a+1):=Nat.le_of_ble_eq_true rfl
theorem xO(h0:¬(0 < a)):a = 0:=Nat.le_antisymm (aj [a] (.v 0) (.n 0) (.c 1 (.v 0) (.n 0) .z) rfl (Nat.le_of_not_lt h0)) (aj [a] (.n 0) (.v 0) .z rfl)
theorem xv:(((a:Int)+(((b+1):Nat):Int))+(- (1:Int)))=((a:Int)+(b:Int)):=by show ((a:Int)+((b:Int)+1))+ -1 = _;rw [← Int.add_assoc,Int.add_neg_cancel_right]
theorem xK{a:Int}:((a+(- (1:Int))) - (b:Int))=(a - (((b+1):Nat):Int)):=by show a+ -1 - (b:Int)= a - ((b:Int)+1);rw [Int.add_comm (b:Int) 1,← Int.sub_sub];rfl
theorem wU{a:Int}:((a+(0:Int)) - (0:Int))=(a - (0:Int)):=congrArg (· - 0) (Int.add_zero a)
theorem xg:((a+b)+1)=((a+1)+b):=Nat.le_antisymm (aj [a,b] (.a (.a (.v 0) (.v 1)) (.n 1)) (.a (.a (.v 0) (.n 1)) (.v 1)) .z rfl) (aj [a,b] (.a (.a (.v 0) (.n 1)) (.v 1)) (.a (.a (.v 0) (.v 1)) (.n 1)) .z rfl)
theorem wb{c:Int}(h0:¬(a = 0))(h1:b = 0)(h2:c =((b:Int)+(a:Int))):0 < a:=Nat.pos_of_ne_zero h0
theorem x6:((0:Int)+(a:Int))=(a:Int):=Int.zero_add _
theorem yE(h0:((a:Int)+(1:Int))=(0:Int)):False:=Nat.succ_ne_zero a (Int.ofNat.inj h0)
theorem vB:(((a+b):Nat):Int)=((a:Int)+(b:Int)):=rfl
theorem wW:((((a+b):Nat):Int) - (b:Int))=(a:Int):=Int.add_sub_cancel (a:Int) b
theorem xX(h0:0 < a)(h1:a = 0):False:=oY h0 h1
theorem v6:((a:Int)+(0:Int))=(a:Int):=Int.add_zero _
theorem vO(h0:b≤d)(h1:a≤c):(a+b)≤((c+1)+d):=aj [a,b,c,d] (.a (.v 0) (.v 1)) (.a (.a (.v 2) (.n 1)) (.v 3)) (.c 1 (.v 1) (.v 3) (.c 1 (.v 0) (.v 2) .z)) rfl h0 h1
theorem t9(h0:1000000≤a):2≤a:=oG h0 rfl
theorem vW(h0:c≤b)(h1:a = d)(h2:d≤c):a≤b:=aj [a,b,c,d] (.v 0) (.v 1) (.c 1 (.v 2) (.v 1) (.c 1 (.v 0) (.v 3) (.c 1 (.v 3) (.v 2) .z))) rfl h0 (qE h1) h2
theorem yu(h0:a = b)(h1:b≤c)(h2:c≤500):a≤1000:=aj [a,b,c] (.v 0) (.n 1000) (.c 1 (.v 0) (.v 1) (.c 1 (.v 1) (.v 2) (.c 1 (.v 2) (.n 500) .z))) rfl (qE h0) h1 h2
theorem xD(h0:a≤b)(h1:b≤500):a≤1000:=oT h0 h1 rfl
theorem A6(h:a+b+c≤d)(h2:d≤6)(h3:1≤b)(h4:e = c):e≤5:=aj [a,b,c,d,e] (.v 4) (.n 5) (.c 1 (.a (.a (.v 0) (.v 1)) (.v 2)) (.v 3) (.c 1 (.v 3) (.n 6) (.c 1 (.n 1) (.v 1) (.c 1 (.v 4) (.v 2) .z)))) rfl h h2 h3 (qE h4)
theorem wd{s:Nat}(h:a≤0+b)(h2:b≤c+d)(h3:c≤500)(h4:d≤e+1)(h5:e≤500)(h6:1000000≤s):a≤s:=oS (lT h (lT (qE (Nat.zero_add b)) (lT h2 (Nat.add_le_add h3 (lT h4 (Nat.succ_le_succ h5)))))) h6 rfl
end
section
variable {a b c d e f g i j k l m n o p q r s t u v w:Nat}
theorem BU(h0:a≤(b - 1))(h1:0 < b)(h2:b = c):a < b:=Nat.lt_of_not_le fun h=>bg [a,b,c,(b - 1)] (.c 1 (.v 0) (.v 3) (.c 1 (.v 1) (.v 0) (.c 1 (.a (.v 3) (.n 1)) (.v 1) .z))) rfl h0 h (oB (Nat.le_of_not_lt fun q=>bg [a,b,c,(b - 1)] (.c 1 (.a (.n 0) (.n 1)) (.v 1) (.c 1 (.a (.v 1) (.n 1)) (.n 1) .z)) rfl h1 q))
theorem Bo(h0:a < b)(h1:0 < b)(h2:b = c):a≤(b - 1):=Nat.le_of_not_lt fun h=>bg [a,b,c,(b - 1)] (.c 1 (.a (.v 0) (.n 1)) (.v 1) (.c 1 (.a (.v 3) (.n 1)) (.v 0) (.c 1 (.v 1) (.a (.v 3) (.n 1)) .z))) rfl h0 h (oA b 1)
theorem BH:(Int.toNat (((a:Int) - (1:Int))+((b:Int)*(- (1:Int)))))=((a - 1) - b):=by rw [Int.mul_neg_one,← Int.sub_eq_add_neg,Int.sub_sub];exact (Int.toNat_sub a (1+b)).trans (Nat.sub_sub a 1 b).symm
theorem Bp(h0:a < b)(h1:a < c):a < (min b c):=Nat.lt_min.mpr ⟨h0,h1⟩
theorem yV:((a+1)+b)=(a+(b+1)):=Nat.le_antisymm (aj [a,b] (.a (.a (.v 0) (.n 1)) (.v 1)) (.a (.v 0) (.a (.v 1) (.n 1))) .z rfl) (aj [a,b] (.a (.v 0) (.a (.v 1) (.n 1))) (.a (.a (.v 0) (.n 1)) (.v 1)) .z rfl)
theorem Ap:(a+(b+1))=((a+1)+b):=Nat.le_antisymm (aj [a,b] (.a (.v 0) (.a (.v 1) (.n 1))) (.a (.a (.v 0) (.n 1)) (.v 1)) .z rfl) (aj [a,b] (.a (.a (.v 0) (.n 1)) (.v 1)) (.a (.v 0) (.a (.v 1) (.n 1))) .z rfl)
theorem zh(h0:(a < b)∨((a = b)∧(c < d)))(h1:(b < a)∨((b = a)∧(d < c))):False:=h0.elim (fun x=>h1.elim (fun y=>Nat.lt_asymm x y) fun y=>Nat.ne_of_lt x y.1.symm) fun x=>h1.elim (fun y=>Nat.ne_of_lt y x.1.symm) fun y=>Nat.lt_asymm x.2 y.2
theorem yT(h0:a≤b)(h1:b = c)(h2:d = b):a < (b+1):=aj [a,b,c,d] (.a (.v 0) (.n 1)) (.a (.v 1) (.n 1)) (.c 1 (.v 0) (.v 1) .z) rfl h0
theorem AS(h0:a < (b+1))(h1:c = b):a≤b:=aj [a,b,c] (.v 0) (.v 1) (.c 1 (.a (.v 0) (.n 1)) (.a (.v 1) (.n 1)) .z) rfl h0
theorem yN:a =(0+a):=Nat.le_antisymm (aj [a] (.v 0) (.a (.n 0) (.v 0)) .z rfl) (aj [a] (.a (.n 0) (.v 0)) (.v 0) .z rfl)
theorem zW(h0:(a+6)≤5):False:=bg [a] (.c 1 (.a (.v 0) (.n 6)) (.n 5) .z) rfl h0
theorem Aa(h0:a = b)(h1:c≠d):((a < b)∨((a = b)∧(c < d)))∨((b < a)∨((b = a)∧(d < c))):=(Nat.lt_or_gt_of_ne h1).elim (fun x=> .inl (.inr ⟨h0,x⟩)) fun x=> .inr (.inr ⟨h0.symm,x⟩)
theorem AU(h0:(a < a)∨((a = a)∧(b < b))):False:=h0.elim (Nat.lt_irrefl a) fun x=>Nat.lt_irrefl b x.2
theorem zU(h0:¬(a = b)):((a < b)∨((a = b)∧(c < d)))∨((b < a)∨((b = a)∧(d < c))):=(Nat.lt_or_gt_of_ne h0).elim (fun x=> .inl (.inl x)) fun x=> .inr (.inl x)
theorem Au(h0:(a < e)∨((a = e)∧(c < f)))(h1:(e < b)∨((e = b)∧(f < d))):(a < b)∨((a = b)∧(c < d)):=h0.elim (fun x=>h1.elim (fun y=> .inl (Nat.lt_trans x y)) fun y=> .inl (Nat.lt_of_lt_of_eq x y.1)) fun x=>h1.elim (fun y=> .inl (Nat.lt_of_le_of_lt (qE x.1) y)) fun y=> .inr ⟨x.1.trans y.1,Nat.lt_trans x.2 y.2⟩
theorem A2(h0:((a+1)+1) < 2):False:=bg [a] (.c 1 (.a (.a (.a (.v 0) (.n 1)) (.n 1)) (.n 1)) (.n 2) .z) rfl h0
theorem zQ(h0:a = b)(h1:b≤5)(h2:2≤b)(h3:b = c):0 < a:=aj [a,b,c] (.a (.n 0) (.n 1)) (.v 0) (.c 1 (.v 1) (.v 0) (.c 1 (.n 2) (.v 1) .z)) rfl (qE h0.symm) h2
theorem AA(h0:a < 1000):(- ((2:Int)^ 63))≤(a:Int):=Int.le_trans (by decide) (Int.natCast_nonneg a)
theorem zE(h0:a < 1000):(a:Int) < ((2:Int)^ 63):=Int.lt_trans (Int.ofNat_lt.mpr h0) (by decide)
theorem z5(h0:a < (b+(d+1)))(h1:c = e)(h2:0 < e):a < ((b+c)+d):=aj [a,b,c,d,e] (.a (.v 0) (.n 1)) (.a (.a (.v 1) (.v 2)) (.v 3)) (.c 1 (.a (.v 0) (.n 1)) (.a (.v 1) (.a (.v 3) (.n 1))) (.c 1 (.v 4) (.v 2) (.c 1 (.a (.n 0) (.n 1)) (.v 4) .z))) rfl h0 (qE h1.symm) h2
theorem kE(h0:1000000≤b)(h1:a≤500):a≤b:=aj [a,b] (.v 0) (.v 1) (.c 1 (.n 1000000) (.v 1) (.c 1 (.v 0) (.n 500) .z)) rfl h0 h1
theorem x7(h0:1000000≤b)(h1:c = a)(h2:d≤6)(h3:(e+a)≤d)(h4:f≤e):a≤b:=aj [a,b,c,d,e,f] (.v 0) (.v 1) (.c 1 (.n 1000000) (.v 1) (.c 1 (.v 3) (.n 6) (.c 1 (.a (.v 4) (.v 0)) (.v 3) .z))) rfl h0 h2 h3
theorem Ab(h0:a≤b)(h1:c = d)(h2:0 < d):(a+1)≤(b+c):=aj [a,b,c,d] (.a (.v 0) (.n 1)) (.a (.v 1) (.v 2)) (.c 1 (.v 0) (.v 1) (.c 1 (.v 3) (.v 2) (.c 1 (.a (.n 0) (.n 1)) (.v 3) .z))) rfl h0 (qE h1.symm) h2
theorem zG(h0:1000000≤a):3≤a:=aj [a] (.n 3) (.v 0) (.c 1 (.n 1000000) (.v 0) .z) rfl h0
theorem zc(h0:1000000≤b)(h1:a≤500):(1+a)≤b:=aj [a,b] (.a (.n 1) (.v 0)) (.v 1) (.c 1 (.n 1000000) (.v 1) (.c 1 (.v 0) (.n 500) .z)) rfl h0 h1
theorem vP(h0:0 < b)(h1:c < (d+a))(h2:(d+b)≤c):a =((a - 1)+1):=Nat.le_antisymm (Nat.le_of_not_lt fun h=>bg [a,b,c,d,(a - 1)] (.c 1 (.a (.a (.v 4) (.n 1)) (.n 1)) (.v 0) (.c 1 (.v 0) (.a (.v 4) (.n 1)) .z)) rfl h (oA a 1)) (Nat.le_of_not_lt fun h=>bg [a,b,c,d,(a - 1)] (.c 1 (.a (.v 0) (.n 1)) (.a (.v 4) (.n 1)) (.c 1 (.a (.v 4) (.n 1)) (.v 0) .z)) rfl h (oB (Nat.le_of_not_lt fun q=>bg [a,b,c,d,(a - 1)] (.c 1 (.a (.v 2) (.n 1)) (.a (.v 3) (.v 0)) (.c 1 (.a (.v 3) (.v 1)) (.v 2) (.c 1 (.a (.v 0) (.n 1)) (.n 1) .z))) rfl h1 h2 q)))
theorem Aw(h0:1000000≤b)(h1:c≤6)(h2:(d+a)≤c)(h3:e≤d):a≤b:=aj [a,b,c,d,e] (.v 0) (.v 1) (.c 1 (.n 1000000) (.v 1) (.c 1 (.v 2) (.n 6) (.c 1 (.a (.v 3) (.v 0)) (.v 2) .z))) rfl h0 h1 h2
theorem zi(h0:1000000≤b)(h1:a≤c)(h2:d≤6)(h3:(c+e)≤d)(h4:0 < e)(h5:f = e):a≤b:=aj [a,b,c,d,e,f] (.v 0) (.v 1) (.c 1 (.n 1000000) (.v 1) (.c 1 (.v 0) (.v 2) (.c 1 (.v 3) (.n 6) (.c 1 (.a (.v 2) (.v 4)) (.v 3) .z)))) rfl h0 h1 h2 h3
theorem zK(h0:1000000≤c)(h1:b = d)(h2:(a+d)≤e)(h3:e≤6):(a+b)≤c:=aj [a,b,c,d,e] (.a (.v 0) (.v 1)) (.v 2) (.c 1 (.n 1000000) (.v 2) (.c 1 (.v 1) (.v 3) (.c 1 (.a (.v 0) (.v 3)) (.v 4) (.c 1 (.v 4) (.n 6) .z)))) rfl h0 (qE h1) h2 h3
theorem zj(h0:b≤6)(h1:(a+c)≤b):a≤6:=aj [a,b,c] (.v 0) (.n 6) (.c 1 (.v 1) (.n 6) (.c 1 (.a (.v 0) (.v 2)) (.v 1) .z)) rfl h0 h1
theorem AE(h0:1000000≤b)(h1:a≤500):(a+1)≤b:=aj [a,b] (.a (.v 0) (.n 1)) (.v 1) (.c 1 (.n 1000000) (.v 1) (.c 1 (.v 0) (.n 500) .z)) rfl h0 h1
theorem u8:(0:Int)≤(a:Int):=Int.natCast_nonneg a
theorem uF(h0:(a:Int) < (0:Int)):False:=Int.not_lt.mpr (Int.natCast_nonneg a) h0
theorem vg(h0:b≤20)(h1:((a+(80 * d))+200) < c):((a+1)+b) < c:=aj [a,b,c,d] (.a (.a (.a (.v 0) (.n 1)) (.v 1)) (.n 1)) (.v 2) (.c 1 (.v 1) (.n 20) (.c 1 (.a (.a (.a (.v 0) (.m 80 (.v 3))) (.n 200)) (.n 1)) (.v 2) .z)) rfl h0 h1
theorem xV(h0:(a+(c+1)) < b):a < b:=aj [a,b,c] (.a (.v 0) (.n 1)) (.v 1) (.c 1 (.a (.a (.v 0) (.a (.v 2) (.n 1))) (.n 1)) (.v 1) .z) rfl h0
theorem ye(h0:(a+(b+1)) < c):((a+1)+b) < c:=aj [a,b,c] (.a (.a (.a (.v 0) (.n 1)) (.v 1)) (.n 1)) (.v 2) (.c 1 (.a (.a (.v 0) (.a (.v 1) (.n 1))) (.n 1)) (.v 2) .z) rfl h0
theorem zS(h0:a < b)(h1:b≤50):((50+a)+1)≤1000:=aj [a,b] (.a (.a (.n 50) (.v 0)) (.n 1)) (.n 1000) (.c 1 (.a (.v 0) (.n 1)) (.v 1) (.c 1 (.v 1) (.n 50) .z)) rfl h0 h1
theorem tK(h0:a≤6)(h1:1000000≤b):a≤b:=aj [a,b] (.v 0) (.v 1) (.c 1 (.v 0) (.n 6) (.c 1 (.n 1000000) (.v 1) .z)) rfl h0 h1
theorem yY(h0:1000000≤b)(h1:a < c)(h2:c≤50):a≤b:=aj [a,b,c] (.v 0) (.v 1) (.c 1 (.n 1000000) (.v 1) (.c 1 (.a (.v 0) (.n 1)) (.v 2) (.c 1 (.v 2) (.n 50) .z))) rfl h0 h1 h2
theorem AI(h0:a≤1000)(h1:b =(a+1)):(0:Int)≤((- (1:Int))+(((a+1):Nat):Int)):=by show (0:Int)≤ -1+((a:Int)+1);rw [Int.add_comm,Int.add_neg_cancel_right];exact Int.natCast_nonneg a
theorem AQ:((a:Int)+(b:Int))=(((a+b):Nat):Int):=rfl
theorem zA(h0:a≤((b+1)+(2 * c))):(a+2)≤((b+1)+(2 *(c+1))):=aj [a,b,c] (.a (.v 0) (.n 2)) (.a (.a (.v 1) (.n 1)) (.m 2 (.a (.v 2) (.n 1)))) (.c 1 (.v 0) (.a (.a (.v 1) (.n 1)) (.m 2 (.v 2))) .z) rfl h0
theorem zT(h0:a≤6):(a:Int) < (7:Int):=Int.ofNat_lt.mpr (Nat.lt_succ_of_le h0)
theorem Ak(h0:a≤6):a≤1000:=aj [a] (.v 0) (.n 1000) (.c 1 (.v 0) (.n 6) .z) rfl h0
theorem zo:(- ((2:Int)^ 63))≤(a:Int):=Int.le_trans (by decide) (Int.natCast_nonneg a)
theorem yW(h0:1000000≤b)(h1:a < c)(h2:c≤6):a≤b:=aj [a,b,c] (.v 0) (.v 1) (.c 1 (.n 1000000) (.v 1) (.c 1 (.a (.v 0) (.n 1)) (.v 2) (.c 1 (.v 2) (.n 6) .z))) rfl h0 h1 h2
theorem Ai(h0:a≤1000)(h1:b =(a+1)):(a+1)≤16777216:=aj [a,b] (.a (.v 0) (.n 1)) (.n 16777216) (.c 1 (.v 0) (.n 1000) .z) rfl h0
theorem AT(h0:a≤1000)(h1:b =(a+1)):(Int.toNat ((- (1:Int))+(((a+1):Nat):Int)))= a:=by show ((-1:Int)+((a:Int)+1)).toNat = a;rw [Int.add_comm,Int.add_neg_cancel_right];rfl
theorem zM(h0:1000000≤b)(h1:a≤1000):a≤b:=aj [a,b] (.v 0) (.v 1) (.c 1 (.n 1000000) (.v 1) (.c 1 (.v 0) (.n 1000) .z)) rfl h0 h1
theorem zw(h0:1000000≤b)(h1:a≤1000):(a+1)≤b:=aj [a,b] (.a (.v 0) (.n 1)) (.v 1) (.c 1 (.n 1000000) (.v 1) (.c 1 (.v 0) (.n 1000) .z)) rfl h0 h1
theorem yZ(h0:c = b):((a:Int)+(b:Int))=(((a+c):Nat):Int):=by rw [h0];rfl
theorem Ah(h0:a < b)(h1:b≤50):(50+a)≤1000:=aj [a,b] (.a (.n 50) (.v 0)) (.n 1000) (.c 1 (.a (.v 0) (.n 1)) (.v 1) (.c 1 (.v 1) (.n 50) .z)) rfl h0 h1
theorem A4(h0:a≤100000):(a+(b * 0))≤16777216:=oL h0 rfl
theorem yC(h0:a =(b+1))(h1:b < 100):a≤1000:=aj [a,b] (.v 0) (.n 1000) (.c 1 (.v 0) (.a (.v 1) (.n 1)) (.c 1 (.a (.v 1) (.n 1)) (.n 100) .z)) rfl (qE h0) h1
theorem ug(h0:a < 100):(0:Int) < ((a:Int)+(1:Int)):=Int.ofNat_lt.mpr (Nat.succ_pos a)
theorem yj(h0:b =(c+1))(h1:(a:Int) < ((c:Int)+(1:Int))):a < b:=Nat.lt_of_lt_of_eq (Int.ofNat_lt.mp (show (a:Int) < ((c+1:Nat):Int) from h1)) h0.symm
theorem wN(h0:b = a):a≤(b+c):=aj [a,b,c] (.v 0) (.a (.v 1) (.v 2)) (.c 1 (.v 0) (.v 1) .z) rfl (qE h0.symm)
theorem xf(h0:a < (b+(d+1)))(h1:c =(e+1)):a < ((b+c)+d):=aj [a,b,c,d,e] (.a (.v 0) (.n 1)) (.a (.a (.v 1) (.v 2)) (.v 3)) (.c 1 (.a (.v 0) (.n 1)) (.a (.v 1) (.a (.v 3) (.n 1))) (.c 1 (.a (.v 4) (.n 1)) (.v 2) .z)) rfl h0 (qE h1.symm)
theorem xu(h0:a≤c)(h1:b = d):a≤(b+c):=aj [a,b,c,d] (.v 0) (.a (.v 1) (.v 2)) (.c 1 (.v 0) (.v 2) .z) rfl h0
theorem ux(h0:(b+1)≤a):a =((a - 1)+1):=Nat.le_antisymm (Nat.le_of_not_lt fun h=>bg [a,b,(a - 1)] (.c 1 (.a (.a (.v 2) (.n 1)) (.n 1)) (.v 0) (.c 1 (.v 0) (.a (.v 2) (.n 1)) .z)) rfl h (oA a 1)) (Nat.le_of_not_lt fun h=>bg [a,b,(a - 1)] (.c 1 (.a (.v 0) (.n 1)) (.a (.v 2) (.n 1)) (.c 1 (.a (.v 2) (.n 1)) (.v 0) .z)) rfl h (oB (Nat.le_of_not_lt fun q=>bg [a,b,(a - 1)] (.c 1 (.a (.v 1) (.n 1)) (.v 0) (.c 1 (.a (.v 0) (.n 1)) (.n 1) .z)) rfl h0 q)))
end
section
theorem wT{α:Type}{M:Model}{A:Around}{c:Prop}[Decidable c]{t e:Sem α}{Q:α→Shared→Prop}{E:Value→Shared→Prop}{s:Shared}(h:c)(hw:wpAny M A t Q E s):wpAny M A (if c then t else e) Q E s:=by rw [if_pos h];exact hw
theorem wE{α:Type}{M:Model}{A:Around}{c:Prop}[Decidable c]{t e:Sem α}{Q:α→Shared→Prop}{E:Value→Shared→Prop}{s:Shared}(h:¬c)(hw:wpAny M A e Q E s):wpAny M A (if c then t else e) Q E s:=by rw [if_neg h];exact hw
end
section
inductive AV where
 | none
 | bool (b:Bool)
 | int (i:Int)
 | str (s:Str)
 | bytes (b:Array UInt8)
 | tup (l:List AV)
 | lst (l:List AV)
 | dct (ks:List Str) (vs:List AV)
 | ref (i:Nat)
 | obj (C:Addr) (i:Nat)
 | nxt (i:Nat)
 | slc (l u s:Option Int)
 | rng (a b:Int)
 | vals (d:AV)
 | raw (v:Value)
 deriving Inhabited
set_option genInjectivity true in
inductive AO where
 | list (l:List AV)
 | dict (ks:List Str) (vs:List AV) (ep:Nat)
 | slots (C:Addr) (vs:List AV)
 | inst (ks:List Str) (vs:List AV)
 | set (S:Str→Bool) (n:Nat)
 | iter (l:Nat) (pos:Nat)
 | ns (m:Str→Option AV)
 | cell (v:Option AV)
structure Gd where
 prog:Program
 w:World
 K:Frag
 h₀:Heap
 os:OsState
 mg:Str→Option Value
 mb:Str→Option Value
noncomputable abbrev Gd.M(G:Gd):Model:=model G.prog G.w
structure Wd where
 al:Nat→Option Addr
 F:Addr→Option Obj
 H:Addr→Option Obj
 S:Addr→Bool
structure Wd.Le(W W':Wd):Prop where
 al:∀i a,W.al i = some a→W'.al i = some a
 F:∀a o,W.F a = some o→W'.F a = some o
 H:∀a o,W.H a = some o→W'.H a = some o
 S:∀a o,W.H a = some o→W'.S a = W.S a
structure Wd.Lf(W W':Wd):Prop where
 al:∀i a,W.al i = some a→W'.al i = some a
 F:∀a o,W.F a = some o→W'.F a = some o
theorem Wd.Le.lf{W W':Wd}(h:W.Le W'):W.Lf W':=⟨h.al,h.F⟩
theorem Wd.Le.refl(W:Wd):W.Le W:=⟨fun Z Y e=>e,fun Z Y e=>e,fun Z Y e=>e,fun Z Y V=>rfl⟩
theorem Wd.Le.trans{W W' W'':Wd}(x:W.Le W')(y:W'.Le W''):W.Le W'':=⟨fun i a e=>y.al i a (x.al i a e),fun a o e=>y.F a o (x.F a o e),fun a o e=>y.H a o (x.H a o e),fun a o e=>(y.S a o (x.H a o e)).trans (x.S a o e)⟩
inductive jM(T:String)(o:Obj)(vs:List Value):Prop
 | mk (c:o.cls = .type T) (d:o.dict = Option.none) (s:o.slots = #[]) (n:Nat) (e:o.data = .seq vs.toArray n)
inductive ew(G:Gd)(o:Obj)(ks:List Str)(vs:List Value)(ep:Nat):Prop
 | mk (x:o.ExactDict) (es:Array DictEntry) (e:o.data = .dict es ep) (k:KeysOf (strKind G.prog G.w) es) (p:Pairs (strKind G.prog G.w) es.toList (ks.zip vs)) (l:ks.length = vs.length) (n:ks.Nodup)
inductive isDict(G:Gd)(o:Obj)(ks:List Str)(vs:List Value):Prop
 | mk (x:o.ExactDict) (es:Array DictEntry) (ep:Nat) (e:o.data = .dict es ep) (k:KeysOf (strKind G.prog G.w) es) (p:Pairs (strKind G.prog G.w) es.toList (ks.zip vs)) (l:ks.length = vs.length) (n:ks.Nodup)
inductive dh(W:Wd)(T:String)(P:List Value→Prop)(v:Value):Prop
 | mk (a:Addr) (o:Obj) (vs:List Value) (e:v = .ref a) (f:W.F a = some o) (q:jM T o vs) (r:P vs)
inductive u1(G:Gd)(W:Wd)(ks:List Str)(P:List Value→Prop)(v:Value):Prop
 | mk (a:Addr) (o:Obj) (vs:List Value) (e:v = .ref a) (f:W.F a = some o) (q:a≠sysModules∧isDict G o ks vs) (r:P vs)
inductive eJ(W:Wd)(i:Nat)(v:Value):Prop
 | mk (a:Addr) (e:v = .ref a) (l:W.al i = some a)
inductive sZ(W:Wd)(C:Addr)(i:Nat)(v:Value):Prop
 | mk (a d:Addr) (o:Obj) (e:v = .ref a) (f:W.F a = some o) (c:o.cls = .ref C) (g:o.dict = some d) (h:o.data = .plain) (l:W.al i = some d)
inductive vk(W:Wd)(i:Nat)(v:Value):Prop
 | mk (a:Addr) (o:Obj) (it:Addr) (e:v = .ref a) (f:W.F a = some o) (c:o.cls = .type "method-wrapper") (g:o.data = .fields #[.builtin "list_iterator.__next__",.ref it]) (l:W.al i = some it)
inductive vb(W:Wd)(l u st:Option Int)(v:Value):Prop
 | mk (a:Addr) (o:Obj) (vl vu vs:Value) (e:v = .ref a) (f:W.F a = some o) (c:o.cls = .type "slice") (g:o.data = .fields #[vl,vu,vs]) (p:IsPart vl l) (q:IsPart vu u) (r:IsPart vs st)
inductive u3(W:Wd)(x y:Int)(v:Value):Prop
 | mk (a:Addr) (t t' t'':Nat) (e:v = .ref a) (f:W.F a = some {cls:= .type "range",dict:=Option.none,data:= .fields #[.int x t,.int y t',.int 1 t''],slots:=#[]})
inductive rl(W:Wd)(P:Value→Prop)(v:Value):Prop
 | mk (a:Addr) (o:Obj) (u:Value) (e:v = .ref a) (f:W.F a = some o) (c:o.cls = .type "dict_values") (g:o.data = .fields #[u]) (r:P u)
inductive qL(P:Value→Prop)(Q:List Value→Prop)(vs:List Value):Prop
 | mk (v:Value) (r:List Value) (e:vs = v::r) (p:P v) (q:Q r)
inductive SeqAt(h:Heap)(T:String)(P:List Value→Prop)(v:Value):Prop
 | mk (p:Addr) (vs:List Value) (n:Nat) (e:v = .ref p) (g:h.get? p = some {cls:= .type T,dict:=Option.none,data:= .seq vs.toArray n,slots:=#[]}) (r:P vs)
inductive yw(G:Gd)(h:Heap)(ks:List Str)(P:List Value→Prop)(v:Value):Prop
 | mk (p:Addr) (o:Obj) (vs:List Value) (e:v = .ref p) (g:h.get? p = some o) (q:isDict G o ks vs) (r:P vs)
mutual
noncomputable def RV(G:Gd)(W:Wd):AV→Value→Prop
 | .none,v=>v = .none
 | .bool b,v=>v = .bool b
 | .int i,v=>∃t,v = .int i t
 | .str s,v=>∃t,v = .str s t
 | .bytes b,v=>∃t,v = .bytes b t
 | .tup l,v=>dh W "tuple" (au G W l) v
 | .lst l,v=>dh W "list" (au G W l) v
 | .dct ks l,v=>u1 G W ks (au G W l) v
 | .ref i,v=>eJ W i v
 | .obj C i,v=>sZ W C i v
 | .nxt i,v=>vk W i v
 | .slc l u st,v=>vb W l u st v
 | .rng x y,v=>u3 W x y v
 | .vals d,v=>rl W (RV G W d) v
 | .raw u,v=>v = u
noncomputable def au(G:Gd)(W:Wd):List AV→List Value→Prop
 | [],vs=>vs = []
 | x::l,vs=>qL (RV G W x) (au G W l) vs
end
mutual
theorem RV.mono'{G:Gd}{W W':Wd}(h:W.Lf W'):∀{x:AV} {v:Value},RV G W x v→RV G W' x v
 | .none,_,e=>e
 | .bool _,_,e=>e
 | .int _,_,e=>e
 | .str _,_,e=>e
 | .bytes _,_,e=>e
 | .raw _,_,e=>e
 | .ref i,_,e=>by
  obtain ⟨a,e1,e2⟩:=e;exact eJ.mk a e1 (h.al _ _ e2)
 | .obj C i,_,e=>by
  obtain ⟨a,d,o,e1,e2,e3,e4,e5,e6⟩:=e;exact sZ.mk a d o e1 (h.F _ _ e2) e3 e4 e5 (h.al _ _ e6)
 | .nxt i,_,e=>by
  obtain ⟨a,o,it,e1,e2,e3,e4,e5⟩:=e;exact vk.mk a o it e1 (h.F _ _ e2) e3 e4 (h.al _ _ e5)
 | .tup l,_,e=>by
  obtain ⟨a,o,vs,e1,e2,e3,e4⟩:=e;exact dh.mk a o vs e1 (h.F _ _ e2) e3 (au.mono' h e4)
 | .lst l,_,e=>by
  obtain ⟨a,o,vs,e1,e2,e3,e4⟩:=e;exact dh.mk a o vs e1 (h.F _ _ e2) e3 (au.mono' h e4)
 | .dct ks l,_,e=>by
  obtain ⟨a,o,vs,e1,e2,e3,e4⟩:=e;exact u1.mk a o vs e1 (h.F _ _ e2) e3 (au.mono' h e4)
 | .slc ..,_,e=>by
  obtain ⟨a,o,x,y,z,e1,e2,e3,e4,e5,e6,e7⟩:=e;exact vb.mk a o x y z e1 (h.F _ _ e2) e3 e4 e5 e6 e7
 | .rng ..,_,e=>by
  obtain ⟨a,x,y,z,e1,e2⟩:=e;exact u3.mk a x y z e1 (h.F _ _ e2)
 | .vals d,_,e=>by
  obtain ⟨a,o,u,e1,e2,e3,e4,e5⟩:=e;exact rl.mk a o u e1 (h.F _ _ e2) e3 e4 (RV.mono' h e5)
theorem au.mono'{G:Gd}{W W':Wd}(h:W.Lf W'):∀{l:List AV} {vs:List Value},au G W l vs→au G W' l vs
 | [],_,e=>e
 | x::l,_,e=>by
  obtain ⟨v,r,e1,e2,e3⟩:=e;exact qL.mk v r e1 (RV.mono' h e2) (au.mono' h e3)
end
theorem RV.mono{G:Gd}{W W':Wd}(h:W.Le W'){x:AV}{v:Value}(e:RV G W x v):RV G W' x v:=e.mono' h.lf
theorem au.mono{G:Gd}{W W':Wd}(h:W.Le W'){x:List AV}{v:List Value}(e:au G W x v):au G W' x v:=e.mono' h.lf
theorem au.length{G:Gd}{W:Wd}:∀{l:List AV} {vs:List Value},au G W l vs→l.length = vs.length
 | [],_,e=>by obtain rfl:=e;rfl
 | _::_,_,e=>by obtain ⟨v,r,rfl,_,e⟩:=e;simp [au.length e]
theorem au.nil{G:Gd}{W:Wd}:au G W [] []:=rfl
theorem au.cons{G:Gd}{W:Wd}{x:AV}{l:List AV}{v:Value}{vs:List Value}(h:RV G W x v)(hs:au G W l vs):au G W (x::l) (v::vs):=by
 exact qL.mk v vs rfl h hs
theorem au.append{G:Gd}{W:Wd}:∀{l l':List AV} {vs vs':List Value},au G W l vs→au G W l' vs'→au G W (l++l') (vs++vs')
 | [],_,_,_,e,e'=>by obtain rfl:=e;exact e'
 | _::_,_,_,_,e,e'=>by
  obtain ⟨v,r,rfl,e1,e⟩:=e;exact au.cons e1 (au.append e e')
theorem au.get{G:Gd}{W:Wd}:∀{l:List AV} {vs:List Value},au G W l vs→∀{i:Nat} {x:AV},l[i]? = some x→∃v,vs[i]? = some v∧RV G W x v
 | [],_,_,i,x,h=>by simp at h
 | y::l,_,e,i,x,h=>by
  obtain ⟨v,r,rfl,e1,e⟩:=e;cases i with
  | zero=>simp at h;subst h;exact ⟨v,rfl,e1⟩
  | succ i=>simp at h;simpa using au.get e h
theorem au.get'{G:Gd}{W:Wd}:∀{l:List AV} {vs:List Value},au G W l vs→∀{i:Nat} {v:Value},vs[i]? = some v→∃x,l[i]? = some x∧RV G W x v
 | [],_,e,i,v,h=>by obtain rfl:=e;simp at h
 | y::l,_,e,i,v,h=>by
  obtain ⟨u,r,rfl,e1,e⟩:=e;cases i with
  | zero=>simp at h;subst h;exact ⟨y,rfl,e1⟩
  | succ i=>simp at h;simpa using au.get' e h
theorem au.of_get{G:Gd}{W:Wd}:∀{l:List AV} {vs:List Value},l.length = vs.length→(∀(i:Nat) x v,l[i]? = some x→vs[i]? = some v→RV G W x v)→au G W l vs
 | [],[],_,_=>au.nil
 | [],_::_,e,_=>by cases e
 | _::_,[],e,_=>by cases e
 | x::l,v::vs,e,h=>au.cons (h 0 x v rfl rfl) (au.of_get (Nat.succ.inj e) fun i x v hx hv=>h (i+1) x v (by simpa using hx) (by simpa using hv))
structure Fm where
 env:Env
 own:List Str
 names:List (Str×NameKind)
 out:Str→Option AV:=fun _=>Option.none
 frames:List Env:= []
noncomputable def Fm.kind(fm:Fm)(x:Str):Option NameKind:=fm.names.lookup x
set_option genInjectivity true in
inductive Key where
 | obj (i:Nat)
 | loc
 | cell (x:Str)
 deriving DecidableEq
structure St where
 loc:Str→Option AV
 hp:Nat→Option AO
noncomputable def St.get(fm:Fm)(st:St):Key→Option AO
 | .obj i=>st.hp i
 | .loc=>some (.ns fun x=>if fm.kind x = some .local then st.loc x else Option.none)
 | .cell x=>if x∈fm.own then some (.cell (st.loc x)) else Option.none
noncomputable def addrOf(W:Wd)(fm:Fm):Key→Option Addr
 | .obj i=>W.al i
 | .loc=>some fm.env.locals
 | .cell x=>if x∈fm.own then fm.env.cells.lookup x else Option.none
noncomputable def dP(G:Gd)(o:Obj)(S:Str→Bool)(n:Nat):Prop:=
 ∃es ep t,o.ExactSet∧o.data = .set es ep t∧ElemsOf (strKind G.prog G.w) es.toList∧(∀k,S k = true ↔∃e∈es.toList,(strKind G.prog G.w).is k e.2 = true)∧es.size < scanBound∧t.fits es.size = true∧es.size = n
noncomputable def ir:List DictEntry→List Str→List Value→Prop
 | [],ks,vs=>ks = []∧vs = []
 | e::es,ks,vs=>∃k t r us,ks = k::r∧vs = e.val::us∧e.key = .str k t∧ir es r us
inductive yq(T:String)(P:List Value→Prop)(o:Obj):Prop
 | mk (vs:List Value) (q:jM T o vs) (r:P vs)
inductive xp(G:Gd)(ks:List Str)(ep:Nat)(P:List Value→Prop)(o:Obj):Prop
 | mk (vs:List Value) (q:ew G o ks vs ep) (r:P vs)
inductive uY(W:Wd)(C:Addr)(P:List Value→Prop)(o:Obj):Prop
 | mk (dx:Addr) (od:Obj) (f:W.F dx = some od) (vs:List Value) (e:o =⟨.ref C,some dx,.plain,(vs.map some).toArray⟩) (r:P vs)
inductive yk(ks:List Str)(P:List Value→Prop)(o:Obj):Prop
 | mk (es:List DictEntry) (n:Nat) (vs:List Value) (e:o = dictOf es n) (k:ir es ks vs) (r:P vs)
inductive wg(W:Wd)(l pos:Nat)(o:Obj):Prop
 | mk (a:Addr) (e:W.al l = some a) (c:o.cls = .type "list_iterator") (d:o.dict = Option.none) (f:o.data = .fields #[.ref a,.int pos 0])
inductive By(m:Str→Option AV)(P:AV→Value→Prop)(o:Obj):Prop
 | mk (es:Array DictEntry) (ep:Nat) (e:o.data = .dict es ep) (k:StrKeys es) (h:∀x av,m x = some av→∃v,nsFind es x = some v∧P av v)
inductive x0(c:Option AV)(P:AV→Value→Prop)(o:Obj):Prop
 | mk (v:Option Value) (e:o.data = .cell v) (h:∀av,c = some av→∃u,v = some u∧P av u)
noncomputable def OR(G:Gd)(W:Wd):AO→Obj→Prop
 | .list l,o=>yq "list" (au G W l) o
 | .dict ks l ep,o=>xp G ks ep (au G W l) o
 | .slots C l,o=>uY W C (au G W l) o
 | .inst ks l,o=>yk ks (au G W l) o
 | .set S n,o=>dP G o S n
 | .iter l pos,o=>wg W l pos o
 | .ns m,o=>By m (RV G W) o
 | .cell c,o=>x0 c (RV G W) o
theorem OR.mono'{G:Gd}{W W':Wd}(h:W.Lf W'){ao:AO}{o:Obj}(x:OR G W ao o):OR G W' ao o:=by
 cases ao with
 | list l=>obtain ⟨vs,a,b⟩:=x;exact ⟨vs,a,b.mono' h⟩
 | dict ks l ep=>obtain ⟨vs,a,b⟩:=x;exact ⟨vs,a,b.mono' h⟩
 | slots C l=>obtain ⟨a,b,c,vs,d,e⟩:=x;exact ⟨a,b,h.F _ _ c,vs,d,e.mono' h⟩
 | inst ks l=>obtain ⟨es,n,vs,a,b,c⟩:=x;exact ⟨es,n,vs,a,b,c.mono' h⟩
 | set S n=>exact x
 | iter l p=>obtain ⟨a,b,c,d,e⟩:=x;exact ⟨a,h.al _ _ b,c,d,e⟩
 | ns m=>obtain ⟨es,ep,a,b,c⟩:=x;exact ⟨es,ep,a,b,fun y av e=>by obtain ⟨v,p,q⟩:=c y av e;exact ⟨v,p,q.mono' h⟩⟩
 | cell c=>obtain ⟨v,a,b⟩:=x;exact ⟨v,a,fun av e=>by obtain ⟨u,p,q⟩:=b av e;exact ⟨u,p,q.mono' h⟩⟩
theorem OR.mono{G:Gd}{W W':Wd}(h:W.Le W'){ao:AO}{o:Obj}(x:OR G W ao o):OR G W' ao o:=x.mono' h.lf
structure qP(fm:Fm):Prop where
 fn:fm.env.scope.kind = .function
 gl:fm.env.globals = mainGlobals
 bl:fm.env.builtins = builtinsNs
 names:fm.env.scope.names = fm.names
 ownK:∀x∈fm.own,fm.kind x = some .cell
inductive vr(G:Gd)(W:Wd)(fm:Fm)(x:Str)(av:AV):Prop
 | mk (c:Addr) (o:Obj) (v:Value) (h:fm.env.cells.lookup x = some c) (k:W.H c = some o) (d:o.data = .cell (some v)) (r:RV G W av v)
structure rQ(G:Gd)(W:Wd)(fm:Fm):Prop where
 out:∀x av,fm.out x = some av→vr G W fm x av
 fr:∀e∈fm.frames,e.scope.kind≠ .module∧∃L,e.frame = some L∧(L = fm.env.locals∨∃o es ep,W.H L = some o∧W.S L = true∧o.data = .dict es ep)
theorem rQ.mono{G:Gd}{W W':Wd}(h:W.Le W'){fm:Fm}(x:rQ G W fm):rQ G W' fm:=
 ⟨fun y av e=>by obtain ⟨c,o,v,p,q,r,z⟩:=x.out y av e;exact ⟨c,o,v,p,h.H _ _ q,r,z.mono h⟩,
  fun e he=>by obtain ⟨a,L,b,c⟩:=x.fr e he;exact ⟨a,L,b,c.imp id (by rintro ⟨o,es,ep,p,q,r⟩;exact ⟨o,es,ep,h.H _ _ p,(h.S _ _ p).trans q,r⟩)⟩⟩
noncomputable def sg(W:Wd)(a:Addr)(o o':Obj):Prop:=o' = o∨(W.S a = true∧o' ={o with slots:=o'.slots})
theorem sg.data{W:Wd}{a:Addr}{o o':Obj}(h:sg W a o o'):o'.data = o.data:=h.elim (fun e=>by rw [e]) fun e=>by rw [e.2]
theorem sg.exact{W:Wd}{a:Addr}{o o':Obj}(h:sg W a o o')(hS:W.S a = false):o' = o:=h.elim id fun e=>by rw [hS] at e;cases e.1
inductive qA(G:Gd)(W:Wd)(fm:Fm)(h:Heap)(k:Key)(ao:AO):Prop
 | mk (a:Addr) (o:Obj) (p:addrOf W fm k = some a) (f:W.F a = Option.none∧W.H a = Option.none) (g:h.get? a = some o) (r:OR G W ao o)
structure Rep(G:Gd)(W:Wd)(fm:Fm)(st:St)(s:Shared):Prop where
 frozen:∀a o,W.F a = some o→s.heap.get? a = some o
 held:∀a o,W.H a = some o→∃o',s.heap.get? a = some o'∧sg W a o o'
 base:∀a o,G.h₀.get? a = some o→W.F a = some o
 live:∀k ao,st.get fm k = some ao→qA G W fm s.heap k ao
 inj:∀k k' a,addrOf W fm k = some a→addrOf W fm k' = some a→k = k'
 lt:∀k a,addrOf W fm k = some a→∃o,s.heap.get? a = some o
 fin:∃n,∀i,n≤i→W.al i = Option.none
 gens:s.gens = #[]
 os:s.os = G.os
 outs:rQ G W fm
 ok:qP fm
 FH:∀a o,W.F a = some o→W.H a = Option.none
 alH:∀i a,W.al i = some a→W.H a = Option.none
theorem Rep.toks{G:Gd}{W:Wd}{fm:Fm}{st:St}{s:Shared}(R:Rep G W fm st s)(t:Nat):Rep G W fm st {s with toks:=t}:=
 ⟨R.frozen,R.held,R.base,R.live,R.inj,R.lt,R.fin,R.gens,R.os,R.outs,R.ok,R.FH,R.alH⟩
theorem Rep.keeps{G:Gd}{W:Wd}{fm:Fm}{st:St}{s:Shared}(R:Rep G W fm st s){h':Heap}{t:Nat}
  (hk:∀a o,s.heap.get? a = some o→h'.get? a = some o):Rep G W fm st {s with heap:=h',toks:=t}:=
 ⟨fun a o e=>hk _ _ (R.frozen a o e),fun a o e=>by obtain ⟨o',h,r⟩:=R.held a o e;exact ⟨o',hk _ _ h,r⟩,R.base,fun k ao e=>by obtain ⟨a,o,p,q,r,z⟩:=R.live k ao e;exact ⟨a,o,p,q,hk _ _ r,z⟩,R.inj,
  fun k a e=>by obtain ⟨o,q⟩:=R.lt k a e;exact ⟨o,hk _ _ q⟩,R.fin,R.gens,R.os,R.outs,R.ok,R.FH,R.alH⟩
theorem Rep.extBut{G:Gd}{W:Wd}{fm:Fm}{st:St}{s:Shared}(R:Rep G W fm st s){h':Heap}{t:Nat}{x:Addr}
  (hk:Heap.ExtBut x s.heap h') (hF:W.F x = Option.none) (hH:W.H x = Option.none) (hx:∀k,addrOf W fm k≠some x):Rep G W fm st {s with heap:=h',toks:=t}:=
 ⟨fun a o e=>hk _ _ (fun q=>by subst q;rw [hF] at e;cases e) (R.frozen a o e),fun a o e=>by obtain ⟨o',h,r⟩:=R.held a o e;exact ⟨o',hk _ _ (fun q=>by subst q;rw [hH] at e;cases e) h,r⟩,R.base,
  fun k ao e=>by obtain ⟨a,o,p,q,r,z⟩:=R.live k ao e;exact ⟨a,o,p,q,hk _ _ (fun y=>hx k (y▸p)) r,z⟩,R.inj,
  fun k a e=>by obtain ⟨o,q⟩:=R.lt k a e;exact ⟨o,hk _ _ (fun y=>hx k (y▸e)) q⟩,R.fin,R.gens,R.os,R.outs,R.ok,R.FH,R.alH⟩
theorem Rep.upd{G:Gd}{W:Wd}{fm:Fm}{st st':St}{s:Shared}(R:Rep G W fm st s){h':Heap}{t:Nat}{k:Key}{ao ao':AO}{x:Addr}{o':Obj}
  (hl:st.get fm k = some ao) (hx:addrOf W fm k = some x) (hk:Heap.ExtBut x s.heap h') (ho:h'.get? x = some o') (hr:OR G W ao' o')
  (h1:st'.get fm k = some ao') (h2:∀k' ao'',k'≠k→st'.get fm k' = some ao''→st.get fm k' = some ao''):Rep G W fm st' {s with heap:=h',toks:=t}:=by
 obtain ⟨a,o,p,q,r,z⟩:=R.live k ao hl;rw [hx] at p;cases p;refine ⟨fun b y e=>hk _ _ (fun w=>by subst w;rw [q.1] at e;cases e) (R.frozen b y e),fun b y e=>by obtain ⟨o',h,r⟩:=R.held b y e;exact ⟨o',hk _ _ (fun w=>by subst w;rw [q.2] at e;cases e) h,r⟩,R.base,fun k' b' e=>?_,R.inj,fun k a e=>(if hax:a = x then ⟨o',hax▸ho⟩ else by obtain ⟨o,q⟩:=R.lt k a e;exact ⟨o,hk _ _ hax q⟩),R.fin,R.gens,R.os,R.outs,R.ok,R.FH,R.alH⟩
 by_cases hkk:k' = k
 ·subst hkk;rw [h1] at e;cases e;exact ⟨x,o',hx,q,ho,hr⟩
 ·obtain ⟨b,y,p',q',r',z'⟩:=R.live k' b' (h2 k' b' hkk e);exact ⟨b,y,p',q',hk _ _ (fun w=>hkk (R.inj k' k x (w▸p') hx)) r',z'⟩
theorem Rep.weaken{G:Gd}{W:Wd}{fm:Fm}{st st':St}{s:Shared}(R:Rep G W fm st s)
  (h:∀k ao',st'.get fm k = some ao'→∃ao,st.get fm k = some ao∧∀o,OR G W ao o→OR G W ao' o):Rep G W fm st' s:=
 ⟨R.frozen,R.held,R.base,fun k ao e=>by obtain ⟨ao₀,e₀,i⟩:=h k ao e;exact by obtain ⟨a,o,p,q,r,z⟩:=R.live k ao₀ e₀;exact ⟨a,o,p,q,r,i o z⟩,R.inj,R.lt,R.fin,R.gens,R.os,R.outs,R.ok,R.FH,R.alH⟩
noncomputable def Wd.freeze(W:Wd)(a:Addr)(o:Obj):Wd:={W with F:=fun b=>if b = a then some o else W.F b}
theorem Rep.freshF{G:Gd}{W:Wd}{fm:Fm}{st:St}{s:Shared}(R:Rep G W fm st s){a:Addr}(h:s.heap.get? a = Option.none):W.F a = Option.none:=by
 cases e:W.F a with
 | none=>rfl
 | some o=>have:=R.frozen a o e;rw [h] at this;cases this
theorem Rep.freshH{G:Gd}{W:Wd}{fm:Fm}{st:St}{s:Shared}(R:Rep G W fm st s){a:Addr}(h:s.heap.get? a = Option.none):W.H a = Option.none:=by
 cases e:W.H a with
 | none=>rfl
 | some o=>obtain ⟨_,this,_⟩:=R.held a o e;rw [h] at this;cases this
theorem Rep.freshK{G:Gd}{W:Wd}{fm:Fm}{st:St}{s:Shared}(R:Rep G W fm st s){a:Addr}(h:s.heap.get? a = Option.none)(k:Key):addrOf W fm k≠some a:=
 fun e=>by obtain ⟨o,q⟩:=R.lt k a e;rw [h] at q;cases q
theorem aw(h:Heap):h.get? h.objs.size = Option.none:=by
 cases e:h.get? h.objs.size with
 | none=>rfl
 | some o=>exact absurd (Heap.lt_size e) (Nat.lt_irrefl _)
theorem Wd.le_freeze{W:Wd}{a:Addr}(o:Obj)(h:W.F a = Option.none):W.Le (W.freeze a o):=
 ⟨fun Z Y e=>e,fun b o' e=>by unfold Wd.freeze;dsimp only;rw [if_neg (fun q=>by subst q;rw [h] at e;cases e)];exact e,fun Z Y e=>e,fun Z Y V=>rfl⟩
theorem aB(W:Wd)(fm:Fm)(a:Addr)(o:Obj)(k:Key):addrOf (W.freeze a o) fm k = addrOf W fm k:=by cases k <;> rfl
set_option tactic.hygienic true in
theorem Rep.freezeNew{G:Gd}{W:Wd}{fm:Fm}{st:St}{s:Shared}(R:Rep G W fm st s){h':Heap}{t:Nat}{a:Addr}{o:Obj}
  (hk:∀a o,s.heap.get? a = some o→h'.get? a = some o) (ha:s.heap.get? a = Option.none) (ho:h'.get? a = some o):
  W.Le (W.freeze a o)∧Rep G (W.freeze a o) fm st {s with heap:=h',toks:=t}:=by
 have le:=Wd.le_freeze o (R.freshF ha);refine ⟨le,fun b y e=>?_,fun b y e=>by obtain ⟨o',h,r⟩:=R.held b y e;exact ⟨o',hk _ _ h,r⟩,fun b y e=>le.F _ _ (R.base b y e),fun k ao e=>?_,fun k k' b e e'=>R.inj k k' b (aB ..▸e) (aB ..▸e'),
  fun k b e=>(by obtain ⟨o,q⟩:=R.lt k b (aB ..▸e);exact ⟨o,hk _ _ q⟩),R.fin,R.gens,R.os,R.outs.mono le,R.ok,fun b y e=>?_,R.alH⟩
 rotate_right
 ·show W.H b = Option.none;unfold Wd.freeze at e;dsimp only at e
  split at e
  ·rename_i q;subst q;exact R.freshH ha
  ·exact R.FH b y e
 ·unfold Wd.freeze at e;dsimp only at e
  split at e
  ·rename_i q;cases e;subst q;exact ho
  ·exact hk _ _ (R.frozen b y e)
 ·obtain ⟨b,y,p,q,r,z⟩:=R.live k ao e;refine ⟨b,y,(aB W fm a o k).trans p,?_,hk _ _ r,z.mono le⟩;exact ⟨(if_neg (fun (w:b = a)=>R.freshK ha k (w▸p))).trans q.1,q.2⟩
noncomputable def Wd.more(W:Wd)(i:Nat)(a:Addr):Wd:={W with al:=fun j=>if j = i then some a else W.al j}
theorem Wd.le_more{W:Wd}{i:Nat}(a:Addr)(h:W.al i = Option.none):W.Le (W.more i a):=
 ⟨fun j b e=>by unfold Wd.more;dsimp only;rw [if_neg (fun q=>by subst q;rw [h] at e;cases e)];exact e,fun Z Y e=>e,fun Z Y e=>e,fun Z Y V=>rfl⟩
noncomputable def St.put(st:St)(i:Nat)(ao:AO):St:={st with hp:=fun j=>if j = i then some ao else st.hp j}
theorem Rep.allocNew{G:Gd}{W:Wd}{fm:Fm}{st:St}{s:Shared}(R:Rep G W fm st s){h':Heap}{t:Nat}{a:Addr}{o:Obj}
  (hk:∀a o,s.heap.get? a = some o→h'.get? a = some o) (ha:s.heap.get? a = Option.none) (ho:h'.get? a = some o):
  ∃i,st.hp i = Option.none∧W.Le (W.more i a)∧∀ao,OR G (W.more i a) ao o→Rep G (W.more i a) fm (st.put i ao) {s with heap:=h',toks:=t}:=by
 obtain ⟨n,hn⟩:=R.fin;have hal:W.al n = Option.none:=hn n (Nat.le_refl _);have le:=Wd.le_more a hal;have hF:=And.intro (R.freshF ha) (R.freshH ha);refine ⟨n,?_,le,fun ao hao=>?_⟩
 ·cases e:st.hp n with
  | none=>rfl
  | some y=>
   obtain ⟨b,_,p,_⟩:=R.live (.obj n) y e;rw [show addrOf W fm (.obj n)= W.al n from rfl,hal] at p;cases p
 have addr:∀k,k≠ .obj n→addrOf (W.more n a) fm k = addrOf W fm k:=fun k hk'=>by
  cases k with
  | obj i=>show (if i = n then some a else W.al i)= W.al i;rw [if_neg (fun (q:i = n)=>hk' (q▸rfl))]
  | loc=>rfl
  | cell x=>rfl
 have addrN:addrOf (W.more n a) fm (.obj n)= some a:=by show (if n = n then some a else W.al n)= _;rw [if_pos rfl]
 refine ⟨fun b y e=>hk _ _ (R.frozen b y e),fun b y e=>by obtain ⟨o',h,r⟩:=R.held b y e;exact ⟨o',hk _ _ h,r⟩,R.base,fun k y e=>?_,fun k k' b e e'=>?_,fun k b e=>?_,⟨n+1,fun i hi=>?_⟩,R.gens,R.os,R.outs.mono le,R.ok,R.FH,fun i b e=>?_⟩
 rotate_right
 ·show W.H b = Option.none;have e':(if i = n then some a else W.al i)= some b:=e
  split at e'
  ·cases e';exact hF.2
  ·exact R.alH i b e'
 ·by_cases hkn:k = .obj n
  ·subst hkn;have:(st.put n ao).get fm (.obj n)= some ao:=by show (if n = n then some ao else st.hp n)= _;rw [if_pos rfl]
   rw [this] at e;cases e;exact ⟨a,o,addrN,hF,ho,hao⟩
  ·have:(st.put n ao).get fm k = st.get fm k:=by
    cases k with
    | obj i=>show (if i = n then some ao else st.hp i)= st.hp i;rw [if_neg (fun (q:i = n)=>hkn (q▸rfl))]
    | loc=>rfl
    | cell x=>rfl
   rw [this] at e;obtain ⟨b,z,p,q,r,w⟩:=R.live k y e;exact ⟨b,z,(addr k hkn).trans p,q,hk _ _ r,w.mono le⟩
 ·by_cases h1:k = .obj n <;> by_cases h2:k' = .obj n
  ·rw [h1,h2]
  ·subst h1;rw [addrN] at e;cases e;rw [addr k' h2] at e';exact absurd e' (R.freshK ha k')
  ·subst h2;rw [addrN] at e';cases e';rw [addr k h1] at e;exact absurd e (R.freshK ha k)
  ·rw [addr k h1] at e;rw [addr k' h2] at e';exact R.inj k k' b e e'
 ·by_cases h1:k = .obj n
  ·subst h1;rw [addrN] at e;cases e;exact ⟨o,ho⟩
  ·rw [addr k h1] at e;obtain ⟨o',q⟩:=R.lt k b e;exact ⟨o',hk _ _ q⟩
 ·exact (if_neg (by omega)).trans (hn i (by change Nat.le_of_succ_le))
set_option tactic.hygienic true in
theorem Rep.freezeOld{G:Gd}{W:Wd}{fm:Fm}{st st':St}{s:Shared}(R:Rep G W fm st s){i:Nat}{ao:AO}(hl:st.hp i = some ao)
  (hd:st'.hp i = Option.none) (h:∀j,j≠i→st'.hp j = st.hp j∨st'.hp j = Option.none) (hloc:st'.loc = st.loc):
  ∃a o,W.al i = some a∧W.F a = Option.none∧W.H a = Option.none∧OR G W ao o∧W.Le (W.freeze a o)∧Rep G (W.freeze a o) fm st' s:=by
 obtain ⟨a,o,p,q,r,z⟩:=R.live (.obj i) ao hl;have le:=Wd.le_freeze o q.1;refine ⟨a,o,p,q.1,q.2,z,le,fun b y e=>?_,R.held,fun b y e=>le.F _ _ (R.base b y e),fun k y e=>?_,fun k k' b e e'=>R.inj k k' b (aB ..▸e) (aB ..▸e'),
  fun k b e=>R.lt k b (aB ..▸e),R.fin,R.gens,R.os,R.outs.mono le,R.ok,fun b y e=>?_,R.alH⟩
 rotate_right
 ·show W.H b = Option.none;unfold Wd.freeze at e;dsimp only at e
  split at e
  ·rename_i w;subst w;exact q.2
  ·exact R.FH b y e
 ·unfold Wd.freeze at e;dsimp only at e
  split at e
  ·rename_i w;cases e;subst w;exact r
  ·exact R.frozen b y e
 ·have hki:k≠ .obj i:=fun w=>by subst w;rw [show st'.get fm (.obj i)= st'.hp i from rfl,hd] at e;cases e
  have e':st.get fm k = some y:=by
   cases k with
   | obj j=>
    rcases h j (fun w=>hki (w▸rfl)) with w | w
    ·rw [show st'.get fm (.obj j)= st'.hp j from rfl,w] at e;exact e
    ·rw [show st'.get fm (.obj j)= st'.hp j from rfl,w] at e;cases e
   | loc=>unfold St.get at e ⊢;rw [hloc] at e;exact e
   | cell x=>unfold St.get at e ⊢;rw [hloc] at e;exact e
  obtain ⟨b,z',p',q',r',w'⟩:=R.live k y e';refine ⟨b,z',(aB W fm a o k).trans p',?_,r',w'.mono le⟩;exact ⟨(if_neg (fun (w:b = a)=>hki (R.inj k (.obj i) a (w▸p') p))).trans q'.1,q'.2⟩
noncomputable def Wd.hold(W:Wd)(a:Addr)(o:Obj):Wd:={W with H:=fun b=>if b = a then some o else W.H b,S:=fun b=>if b = a then false else W.S b}
noncomputable def Wd.drop(W:Wd)(a:Addr):Wd:={W with H:=fun b=>if b = a then Option.none else W.H b}
theorem Wd.le_hold{W:Wd}{a:Addr}(o:Obj)(h:W.H a = Option.none):W.Le (W.hold a o):=
 ⟨fun Z Y e=>e,fun Z Y e=>e,fun b o' e=>by unfold Wd.hold;dsimp only;rw [if_neg (fun q=>by subst q;rw [h] at e;cases e)];exact e,fun b o' e=>if_neg (fun q=>by subst q;rw [h] at e;cases e)⟩
theorem Wd.le_drop{W W':Wd}{a:Addr}(h:W.H a = Option.none)(le:W.Le W'):W.Le (W'.drop a):=
 ⟨le.al,le.F,fun b o e=>by unfold Wd.drop;dsimp only;rw [if_neg (fun q=>by subst q;rw [h] at e;cases e)];exact le.H _ _ e,le.S⟩
theorem Wd.lf_drop(W:Wd)(a:Addr):W.Lf (W.drop a):=⟨fun Z Y e=>e,fun Z Y e=>e⟩
theorem bT(W:Wd)(fm:Fm)(a:Addr)(o:Obj)(k:Key):addrOf (W.hold a o) fm k = addrOf W fm k:=by cases k <;> rfl
theorem bn(W:Wd)(fm:Fm)(a:Addr)(k:Key):addrOf (W.drop a) fm k = addrOf W fm k:=by cases k <;> rfl
set_option tactic.hygienic true in
theorem Rep.hold{G:Gd}{W:Wd}{fm:Fm}{st:St}{s:Shared}(R:Rep G W fm st s){a:Addr}{o:Obj}(ho:s.heap.get? a = some o)(hF:W.F a = Option.none)(hH:W.H a = Option.none)(hx:∀k,addrOf W fm k≠some a):Rep G (W.hold a o) fm st s:=by
 have le:=Wd.le_hold o hH;refine ⟨R.frozen,fun b y e=>?_,R.base,fun k ao e=>?_,fun k k' b e e'=>R.inj k k' b (bT ..▸e) (bT ..▸e'),fun k b e=>R.lt k b (bT ..▸e),R.fin,R.gens,R.os,R.outs.mono le,R.ok,fun b y e=>(if_neg (fun (w:b = a)=>by subst w;rw [show (W.hold b o).F b = W.F b from rfl,hF] at e;cases e)).trans (R.FH b y e),fun i b e=>(if_neg (fun (w:b = a)=>hx (.obj i) (w▸e))).trans (R.alH i b e)⟩
 ·unfold Wd.hold at e;dsimp only at e
  split at e
  ·rename_i w;cases e;subst w;exact ⟨_,ho,.inl rfl⟩
  ·rename_i w;obtain ⟨o',h,r⟩:=R.held b y e;exact ⟨o',h,r.imp id fun r=>⟨(if_neg w).trans r.1,r.2⟩⟩
 ·obtain ⟨b,y,p,q,r,z⟩:=R.live k ao e;exact ⟨b,y,(bT W fm a o k).trans p,⟨q.1,(if_neg (fun (w:b = a)=>hx k (w▸p))).trans q.2⟩,r,z.mono le⟩
theorem Rep.drop{G:Gd}{W:Wd}{fm:Fm}{st:St}{s:Shared}(R:Rep G W fm st s){a:Addr}(hc:∀x av c,fm.out x = some av→fm.env.cells.lookup x = some c→c≠a)(hS:W.S a = false):Rep G (W.drop a) fm st s:=by
 refine ⟨R.frozen,fun b y e=>?_,R.base,fun k ao e=>?_,fun k k' b e e'=>R.inj k k' b (bn ..▸e) (bn ..▸e'),fun k b e=>R.lt k b (bn ..▸e),R.fin,R.gens,R.os,⟨fun x av e=>?_,fun e he=>?_⟩,R.ok,fun b y e=>by show (if b = a then Option.none else W.H b)= Option.none;split <;> first | rfl | exact R.FH b y e,fun i b e=>by show (if b = a then Option.none else W.H b)= Option.none;split <;> first | rfl | exact R.alH i b e⟩
 ·unfold Wd.drop at e;dsimp only at e
  split at e
  ·cases e
  ·exact R.held b y e
 ·obtain ⟨b,y,p,q,r,z⟩:=R.live k ao e;refine ⟨b,y,(bn W fm a k).trans p,⟨q.1,?_⟩,r,z.mono' (W.lf_drop a)⟩;show (if b = a then Option.none else W.H b)= Option.none
  split
  ·rfl
  ·exact q.2
 ·obtain ⟨c,o,v,p,q,r,z⟩:=R.outs.out x av e;exact ⟨c,o,v,p,(if_neg (hc x av c e p)).trans q,r,z.mono' (W.lf_drop a)⟩
 ·obtain ⟨x,L,y,z⟩:=R.outs.fr e he;refine ⟨x,L,y,z.imp id fun z=>?_⟩;obtain ⟨o,es,ep,p,q,r⟩:=z;refine ⟨o,es,ep,(if_neg ?_).trans p,q,r⟩;rintro rfl;rw [hS] at q;cases q
theorem Rep.heldX{G:Gd}{W:Wd}{fm:Fm}{st:St}{s:Shared}(R:Rep G W fm st s){a:Addr}{o:Obj}(h:W.H a = some o)(hS:W.S a = false):s.heap.get? a = some o:=by
 obtain ⟨o',h1,h2⟩:=R.held a o h;rw [← h2.exact hS];exact h1
end
section
set_option tactic.hygienic true in
theorem ge{M:Model}{Γ:Ctx}{p:Pos}{t:Sem Fin}{fs:List PySem.Frame}{s s':Shared}{e:End}(h:Runs M Γ p t fs s e s'):s.toks≤s'.toks:=by
 induction h <;> first | exact Nat.le_refl _ | (rename_i h1;exact h1) | (rename_i h1 h2;exact lT h1 h2) | (rename_i h1;exact lT (Nat.le_succ _) h1)
theorem nV{M:Model}{Γ:Ctx}{p:Pos}{g:Nat}{r:Resume}{s s':Shared}{res:GenResult}(h:Wakes M Γ p g r s res s'):s.toks≤s'.toks:=by
 unfold Wakes at h
 split at h
 ·exact h.elim
 ·split at h
  ·obtain ⟨e₁,s₁,h1,_,_,rfl⟩:=h;have:=ge h1;exact this
  ·obtain ⟨_,rfl⟩:=h;exact Nat.le_refl _
  ·obtain ⟨_,rfl⟩:=h;exact Nat.le_refl _
 ·obtain ⟨e₁,s₁,h1,_,_,rfl⟩:=h;have:=ge h1;exact this
 ·obtain ⟨_,rfl⟩:=h;exact Nat.le_refl _
 ·obtain ⟨_,rfl⟩:=h;exact Nat.le_refl _
open Sem (wp)
theorem wp_toks{α:Type}{M:Model}{Γ:Ctx}(n:Nat):∀(t:Sem α) (Q:α→Pos→Shared→Prop) (E:Value→Pos→Shared→Prop) (p:Pos) (s:Shared),n≤s.toks→wp M Γ t Q E p s→
  wp M Γ t (fun a p s'=>n≤s'.toks∧Q a p s') (fun a p s'=>n≤s'.toks∧E a p s') p s:=by
 intro t
 induction t with
 | pure a=>intro Q E p s hn h;exact ⟨hn,h⟩
 | raise e=>intro Q E p s hn h;exact ⟨hn,h⟩
 | unsupported w=>intro Q E p s hn h;exact h
 | finish w=>intro Q E p s hn h;exact h
 | rule tag k ih=>intro Q E p s hn h;exact ih _ _ _ _ _ hn h
 | «at» p' k ih=>intro Q E p s hn h;exact ih _ _ _ _ _ hn h
 | load a part k ih=>intro Q E p s hn h;obtain ⟨o,h1,h2⟩:=h;exact ⟨o,h1,ih _ _ _ _ _ hn h2⟩
 | update a part f k ih=>intro Q E p s hn h;exact ⟨h.1,ih _ _ _ _ _ hn h.2⟩
 | alloc o k ih=>intro Q E p s hn h;exact ih _ _ _ _ _ hn h
 | loadIfAlive a k ih=>intro Q E p s hn h;exact ih _ _ _ _ _ hn h
 | point l k ih=>intro Q E p s hn h;exact ih _ _ _ _ _ hn h
 | register a k ih=>intro Q E p s hn h;exact h
 | fresh k ih=>intro Q E p s hn h;exact ih _ _ _ _ _ (Nat.le_succ_of_le hn) h
 | ask k ih=>intro Q E p s hn h;exact ih _ _ _ _ _ hn h
 | choose src n k ih=>intro Q E p s hn h;exact ⟨h.1,ih _ _ _ _ _ hn h.2⟩
 | os req l k ih=>intro Q E p s hn h;exact ih _ _ _ _ _ hn h
 | call c hd g l k ih=>
  intro Q E p s hn h;obtain ⟨r,s',h1,h2⟩:=h;exact ⟨r,s',h1,ih _ _ _ _ _ (lT hn (ge h1)) h2⟩
 | handled own k ih=>intro Q E p s hn h;exact ih _ _ _ _ _ hn h
 | newGen c k ih=>intro Q E p s hn h;exact ih _ _ _ _ _ hn h
 | genState g k ih=>intro Q E p s hn h;obtain ⟨st,h1,h2⟩:=h;exact ⟨st,h1,ih _ _ _ _ _ hn h2⟩
 | resume g r l k ih=>intro Q E p s hn h;obtain ⟨res,s',h1,h2⟩:=h;exact ⟨res,s',h1,ih _ _ _ _ _ (lT hn (nV h1)) h2⟩
 | yield v g l k ih=>intro Q E p s hn h;exact h
 | stack k ih=>intro Q E p s hn h;exact ih _ _ _ _ _ hn h
 | fork c k ih=>intro Q E p s hn h;exact h
 | thread k ih=>intro Q E p s hn h;exact ih _ _ _ _ _ hn h
 | await=>intro Q E p s hn h;exact h
theorem wpAny_toks{α:Type}{M:Model}{A:Around}{t:Sem α}{Q:α→Shared→Prop}{E:Value→Shared→Prop}{s:Shared}(n:Nat)(hn:n≤s.toks)(h:wpAny M A t Q E s):wpAny M A t (fun a s'=>n≤s'.toks∧Q a s') (fun a s'=>n≤s'.toks∧E a s') s:=
 fun Γ p hΓ=>wp_toks n t _ _ p s hn (h Γ p hΓ)
end
section
theorem bH{b:Bool}{A B:Prop}(h:b = true)(hA:A):if b = true then A else B:=by rw [if_pos h];exact hA
theorem bN{b:Bool}{A B:Prop}(h:b = false)(hB:B):if b = true then A else B:=by rw [h];exact hB
theorem qP.kind{fm:Fm}(h:qP fm){x:Str}{k:Option NameKind}(e:fm.kind x = k):fm.env.kindOf x = k:=by unfold Env.kindOf;rw [h.names];exact e
structure Gd.Ok(G:Gd):Prop where
 gl:G.h₀.Ns mainGlobals G.mg
 bl:G.h₀.Ns builtinsNs G.mb
 boot:∀x:Str,x≠Str.ofString "__name__" →G.mb x = bootBuiltins x
 K:G.K.In G.h₀
 nl:G.h₀.NoLimit
 seer:G.h₀.NoSeer
 tree:G.prog.given.tree = Option.none
structure Cx where
 n:Nat
 calm:Bool:=true
structure z0(e:Env):Prop where
 gen:e.scope.isGenerator = false
 co:e.scope.isCoroutine = false
 bl:e.builtins = builtinsNs
 gl:e.globals = mainGlobals
structure Cx.In(cx:Cx)(fm:Fm)(A:Around):Prop where
 calm:cx.calm = true→A.handled = Option.none
 depth:A.depth+8 * cx.n+400 < recursionLimit
 units:A.units+80 * cx.n+200 < cLine
 frames:A.frames = some fm.frames∧∃e l,fm.frames = e::l∧z0 e
structure aF(W:Wd)(fm:Fm)(a:Addr):Prop where
 F:W.F a = Option.none
 H:W.H a = Option.none
 k:∀k,addrOf W fm k≠some a
theorem Rep.free{G:Gd}{W:Wd}{fm:Fm}{st:St}{s:Shared}(R:Rep G W fm st s){a:Addr}(h:s.heap.get? a = Option.none):aF W fm a:=⟨R.freshF h,R.freshH h,R.freshK h⟩
inductive vm(W:Wd)(fm:Fm)(e:Value)(cls:Value)(s:Shared):Prop
 | mk (a:Addr) (o:Obj) (vs:Array Value) (he:e = .ref a) (ho:s.heap.get? a = some o) (hc:o.cls = cls) (hd:o.data = .fields vs) (hz:1 < vs.size) (hf:aF W fm a)
  (tb:vs[1]? = some .none∨∃T oT ts,vs[1]? = some (.ref T)∧T≠a∧s.heap.get? T = some oT∧oT.data = .fields ts∧ts[3]? = some .none∧aF W fm T)
inductive dZ{α β:Type}(G:Gd)(W:Wd)(fm:Fm)(R:Wd→β→α→Prop)(Q:β→St→Prop)(a:α)(s':Shared):Prop
 | mk (W':Wd) (st':St) (b:β) (le:W.Le W') (rep:Rep G W' fm st' s') (r:R W' b a) (q:Q b st')
inductive QE(G:Gd)(W:Wd)(fm:Fm)(X:Value→St→Prop)(e:Value)(s':Shared):Prop
 | mk (W':Wd) (st':St) (cls:Value) (le:W.Le W') (rep:Rep G W' fm st' s') (fl:vm W' fm e cls s') (x:X cls st')
noncomputable def J{α β:Type}(G:Gd)(cx:Cx)(fm:Fm)(X:Value→St→Prop)(W₀:Wd)(t:Sem α)(R:Wd→β→α→Prop)(st:St)(Q:β→St→Prop):Prop:=
 ∀W s A,cx.In fm A→W₀.Le W→Rep G W fm st s→0 < s.toks→wpAny G.M A t (dZ G W fm R Q) (QE G W fm X) s
section
variable {α β γ δ:Type}{G:Gd}{cx:Cx}{fm:Fm}{X:Value→St→Prop}{W₀:Wd}{st:St}{Q:AV→St→Prop}
theorem QE.le{W W':Wd}(h:W.Le W'){e:Value}{s:Shared}(x:QE G W' fm X e s):QE G W fm X e s:=
 by obtain ⟨W'',st',cls,a,b,c,d⟩:=x;exact ⟨W'',st',cls,h.trans a,b,c,d⟩
theorem dZ.le{W W':Wd}(h:W.Le W'){R:Wd→β→α→Prop}{Q:β→St→Prop}{a:α}{s:Shared}(x:dZ G W' fm R Q a s):dZ G W fm R Q a s:=
 by obtain ⟨W'',st',b,p,q,c,d⟩:=x;exact ⟨W'',st',b,h.trans p,q,c,d⟩
theorem Bl{M:Model}{A:Around}{t:Sem α}{Q:α→Shared→Prop}{E:Value→Shared→Prop}{s:Shared}(hT:0 < s.toks)(h:wpAny M A t Q E s):wpAny M A t (fun a s'=>0 < s'.toks∧Q a s') (fun e s'=>0 < s'.toks∧E e s') s:=wpAny_toks 1 hT h
theorem gN{M:Model}{A:Around}{t:Sem α}{Q Q':α→Shared→Prop}{E:Value→Shared→Prop}{s:Shared}(hT:0 < s.toks)(h:wpAny M A t Q' E s)(hQ:∀a s',0 < s'.toks→Q' a s'→Q a s'):wpAny M A t Q E s:=wpAny_mono (Bl hT h) (fun a s' x=>hQ a s' x.1 x.2) fun Z Y x=>x.2
theorem i9{M:Model}{A:Around}{t:Sem α}{Q Q':α→Shared→Prop}{E E':Value→Shared→Prop}{s:Shared}(hT:0 < s.toks)(h:wpAny M A t Q' E' s)(hQ:∀a s',0 < s'.toks→Q' a s'→Q a s')(hE:∀e s',0 < s'.toks→E' e s'→E e s'):wpAny M A t Q E s:=wpAny_mono (Bl hT h) (fun a s' x=>hQ a s' x.1 x.2) fun e s' x=>hE e s' x.1 x.2
theorem J.le{W₁:Wd}{t:Sem α}{R:Wd→β→α→Prop}{Q:β→St→Prop}(h:W₀.Le W₁)(x:J G cx fm X W₀ t R st Q):J G cx fm X W₁ t R st Q:=
 fun W s A hA hW hR hT=>x W s A hA (h.trans hW) hR hT
theorem J.mono{t:Sem α}{R:Wd→β→α→Prop}{Q Q':β→St→Prop}{X':Value→St→Prop}(x:J G cx fm X' W₀ t R st Q')(hQ:∀b st,Q' b st→Q b st)(hX:∀c st,X' c st→X c st):J G cx fm X W₀ t R st Q:=
 fun W s A hA hW hR hT=>wpAny_mono (x W s A hA hW hR hT) (fun a s' h=>by obtain ⟨W',st',b,p,q,r,z⟩:=h;exact ⟨W',st',b,p,q,r,hQ _ _ z⟩) fun e s' h=>by obtain ⟨W',st',c,p,q,r,z⟩:=h;exact ⟨W',st',c,p,q,r,hX _ _ z⟩
theorem J.pure{a:α}{b:β}{R:Wd→β→α→Prop}{Q:β→St→Prop}(hr:∀W,W₀.Le W→R W b a)(h:Q b st):J G cx fm X W₀ (Pure.pure a) R st Q:=
 fun W s A Z hW hR Y=>wpAny_pure ⟨W,st,b,.refl W,hR,hr W hW,h⟩
theorem J.bind{m:Sem α}{f:α→Sem γ}{R₁:Wd→β→α→Prop}{R₂:Wd→δ→γ→Prop}{Q:δ→St→Prop}
  (h:J G cx fm X W₀ m R₁ st fun b st₁=>∀W₁ a,W₀.Le W₁→R₁ W₁ b a→J G cx fm X W₁ (f a) R₂ st₁ Q):J G cx fm X W₀ (m >>= f) R₂ st Q:=by
 intro W s A hA hW hR hT;refine wpAny_bind (gN hT (h W s A hA hW hR hT) fun a s₁ hT₁ x=>?_);obtain ⟨W₁,st₁,b,p,q,r,z⟩:=x;exact wpAny_mono (z W₁ a (hW.trans p) r W₁ s₁ A hA (.refl _) q hT₁) (fun Z Y y=>y.le p) fun Z Y y=>y.le p
theorem J.holding{vs:List Value}{t:Sem α}{R:Wd→β→α→Prop}{Q:β→St→Prop}(h:J G cx fm X W₀ t R st Q):J G cx fm X W₀ (PySem.holding vs t) R st Q:=
 fun W s A hA hW hR hT=>wpAny_holding (h W s A hA hW hR hT)
theorem J.standAt{pos:Pos}{f:Unit→Sem γ}{R:Wd→δ→γ→Prop}{Q:δ→St→Prop}(h:J G cx fm X W₀ (f ()) R st Q):J G cx fm X W₀ (PySem.standAt pos >>= f) R st Q:=
 fun W s A hA hW hR hT=>wpAny_bind (wpAny_standAt (h W s A hA hW hR hT))
theorem J.operate{vs:List Value}{t:Sem Value}{R:Wd→β→Value→Prop}{Q:β→St→Prop}(h:J G cx fm X W₀ t R st Q):J G cx fm X W₀ (PySem.operate vs t) R st Q:=
 fun W s A hA hW hR hT Γ p hΓ=>by rw [Sem.wp_operate];exact h W s A hA hW hR hT Γ p hΓ
theorem J.of_eq{t t':Sem α}{R:Wd→β→α→Prop}{Q:β→St→Prop}(e:t = t')(h:J G cx fm X W₀ t' R st Q):J G cx fm X W₀ t R st Q:=e▸h
end
noncomputable abbrev bot:Wd:=⟨fun Z=>Option.none,fun Z=>Option.none,fun Z=>Option.none,fun Z=>false⟩
theorem bot_le(W:Wd):bot.Le W:=⟨fun Z Y e=>(nomatch e),fun Z Y e=>(nomatch e),fun Z Y e=>(nomatch e),fun Z Y e=>(nomatch e)⟩
noncomputable abbrev RB:Wd→Bool→Bool→Prop:=fun Z b a=>a = b
noncomputable abbrev RU:Wd→Unit→Unit→Prop:=fun Z Y V=>True
noncomputable def Ev(G:Gd)(cx:Cx)(fm:Fm)(X:Value→St→Prop)(e:PySem.Expr)(st:St)(Q:AV→St→Prop):Prop:=J G cx fm X bot (eval e fm.env) (RV G) st Q
noncomputable def bj(G:Gd)(cx:Cx)(fm:Fm)(X:Value→St→Prop)(e:PySem.Expr)(st:St)(Q:Bool→St→Prop):Prop:=J G cx fm X bot (isTrue e fm.env (eval e fm.env)) RB st Q
inductive AF where
 | next | brk | cont
 | ret (v:AV)
noncomputable def RF(G:Gd)(W:Wd):AF→Flow→Prop
 | .next,f=>f = .next
 | .brk,f=>f = .brk
 | .cont,f=>f = .cont
 | .ret x,f=>∃v,f = .ret v∧RV G W x v
noncomputable def an(G:Gd)(cx:Cx)(fm:Fm)(X:Value→St→Prop)(s:Stmt)(st:St)(Q:AF→St→Prop):Prop:=J G cx fm X bot (exec s fm.env) (RF G) st Q
noncomputable def Ex(G:Gd)(cx:Cx)(fm:Fm)(X:Value→St→Prop)(ss:List Stmt)(st:St)(Q:AF→St→Prop):Prop:=J G cx fm X bot (execs ss fm.env) (RF G) st Q
section
variable {G:Gd}{cx:Cx}{fm:Fm}{X:Value→St→Prop}{W₀:Wd}{st:St}{Q:AV→St→Prop}
theorem J.from{α β:Type}{t:Sem α}{R:Wd→β→α→Prop}{Q:β→St→Prop}(h:J G cx fm X bot t R st Q):J G cx fm X W₀ t R st Q:=h.le (bot_le _)
set_option tactic.hygienic true in
theorem Ex.nil{Q:AF→St→Prop}(h:Q .next st):Ex G cx fm X [] st Q:=J.pure (b:=AF.next) (fun Z Y=>rfl) h
noncomputable abbrev y0(G:Gd)(cx:Cx)(fm:Fm)(X:Value→St→Prop)(ss:List Stmt)(Q:AF→St→Prop):AF→St→Prop:=fun f st₁=>match f with | .next=>Ex G cx fm X ss st₁ Q | f=>Q f st₁
theorem Ex.cons{s:Stmt}{ss:List Stmt}{Q:AF→St→Prop}
  (h:an G cx fm X s st (y0 G cx fm X ss Q)):Ex G cx fm X (s::ss) st Q:=by
 unfold Ex;rw [execs_cons];refine J.bind (J.mono h (fun f st₁ z W₁ a Z r=>?_) fun Z Y z=>z);cases f with
 | next=>cases r;exact J.from z
 | brk=>cases r;exact J.pure (b:=AF.brk) (fun Z Y=>rfl) z
 | cont=>cases r;exact J.pure (b:=AF.cont) (fun Z Y=>rfl) z
 | ret x=>obtain ⟨v,rfl,hv⟩:=r;exact J.pure (b:=AF.ret x) (fun W hW=>⟨v,rfl,hv.mono hW⟩) z
theorem an.brk{pos:Pos}{Q:AF→St→Prop}(h:Q .brk st):an G cx fm X (.Break pos) st Q:=J.standAt (J.pure (b:=AF.brk) (fun Z Y=>rfl) h)
theorem an.cont{pos:Pos}{Q:AF→St→Prop}(h:Q .cont st):an G cx fm X (.Continue pos) st Q:=J.standAt (J.pure (b:=AF.cont) (fun Z Y=>rfl) h)
noncomputable abbrev AL(Q:AF→St→Prop):AV→St→Prop:=fun v st₁=>Q (.ret v) st₁
theorem an.ret{e:PySem.Expr}{pos:Pos}{Q:AF→St→Prop}(h:Ev G cx fm X e st (AL Q)):an G cx fm X (.Return (some e) pos) st Q:=by
 unfold an;rw [exec_Return_some];exact J.standAt (J.bind (J.mono (J.from h) (fun x st₁ z W₁ a Z r=>J.pure (b:=AF.ret x) (fun W hW=>⟨a,rfl,r.mono hW⟩) z) fun Z Y z=>z))
theorem an.if_{test:PySem.Expr}{body orelse:List Stmt}{pos:Pos}{Q:AF→St→Prop}
  (h:bj G cx fm X test st fun b st₁=>if b then Ex G cx fm X body st₁ Q else Ex G cx fm X orelse st₁ Q):an G cx fm X (.If test body orelse pos) st Q:=by
 unfold an;rw [exec_If];refine J.standAt (J.bind (J.mono (J.from h) (fun b st₁ z W₁ a Z r=>?_) fun Z Y z=>z));cases r;cases b <;> exact J.from z
noncomputable def St.setLoc(st:St)(x:Str)(v:AV):St:={st with loc:=fun y=>if y = x then some v else st.loc y}
inductive wr(G:Gd)(W:Wd)(fm:Fm)(st:St)(s:Shared):Prop
 | mk (o:Obj) (es:Array DictEntry) (ep:Nat) (g:s.heap.get? fm.env.locals = some o) (f:W.F fm.env.locals = Option.none∧W.H fm.env.locals = Option.none) (d:o.data = .dict es ep) (k:StrKeys es) (h:∀x av,fm.kind x = some .local→st.loc x = some av→∃v,nsFind es x = some v∧RV G W av v)
theorem Rep.locals{W:Wd}{s:Shared}(R:Rep G W fm st s):wr G W fm st s:=by
 obtain ⟨a,o,p,q,r,es,ep,z1,z2,z3⟩:=R.live .loc _ rfl;cases p;exact ⟨o,es,ep,r,q,z1,z2,fun x av hk hx=>z3 x av ((if_pos hk).trans hx)⟩
theorem Rep.ns{W:Wd}{s:Shared}(R:Rep G W fm st s):∃m,s.heap.Ns fm.env.locals m∧∀x av,fm.kind x = some .local→st.loc x = some av→∃v,m x = some v∧RV G W av v:=by
 obtain ⟨o,es,ep,h1,_,h2,h3,h4⟩:=R.locals;exact ⟨nsFind es,⟨o,es,ep,h1,h2,h3,fun Z=>rfl⟩,h4⟩
theorem eW{x:Str}{av:AV}(hl:fm.kind x = some .local)(hv:st.loc x = some av)(h:Q av st):
  J G cx fm X W₀ (loadName fm.env x) (RV G) st Q:=by
 intro W s A hA hW hR hT;obtain ⟨m,hn,hm⟩:=hR.ns;obtain ⟨v,e,r⟩:=hm x av hl hv;exact wpAny_loadName_local hR.ok.fn (hR.ok.kind hl) hn e ⟨W,st,av,.refl _,hR,r,h⟩
theorem jP{x:Str}{av:AV}(hl:fm.kind x = some .cell)(ho:x∈fm.own)(hv:st.loc x = some av)(h:Q av st):
  J G cx fm X W₀ (loadName fm.env x) (RV G) st Q:=by
 intro W s A hA hW hR hT;obtain ⟨a,o,p,q,r,v,z1,z2⟩:=hR.live (.cell x) (.cell (st.loc x)) (if_pos ho);obtain ⟨u,rfl,hu⟩:=z2 av hv;rw [show addrOf W fm (.cell x)= fm.env.cells.lookup x from if_pos ho] at p;exact wpAny_loadName_cell hR.ok.fn (hR.ok.kind hl) p ⟨o,r,z1⟩ ⟨W,st,av,.refl _,hR,hu,h⟩
theorem q6{x:Str}{av:AV}(hl:fm.kind x = some .cell)(hv:fm.out x = some av)(h:Q av st):
  J G cx fm X W₀ (loadName fm.env x) (RV G) st Q:=by
 intro W s A hA hW hR hT;obtain ⟨c,o,v,p,q,r,z⟩:=hR.outs.out x av hv;obtain ⟨o',h1,h2⟩:=hR.held _ _ q;exact wpAny_loadName_cell hR.ok.fn (hR.ok.kind hl) p ⟨o',h1,h2.data.trans r⟩ ⟨W,st,av,.refl _,hR,z,h⟩
theorem Rep.keep{W:Wd}{s:Shared}(R:Rep G W fm st s):∀b o,G.h₀.get? b = some o→s.heap.get? b = some o:=fun b o e=>R.frozen _ _ (R.base b o e)
theorem kF{x:Str}{v:Value}(O:G.Ok)(hl:fm.kind x = some .globalImplicit)
  (hn:G.mg x = Option.none) (hv:G.mb x = some v) (h:Q (.raw v) st):J G cx fm X W₀ (loadName fm.env x) (RV G) st Q:=by
 intro W s A hA hW hR hT;unfold loadName;simp only [Env.blockKind,hR.ok.fn,hR.ok.kind hl,ScopeKind.isAnnotationScope,Bool.false_and,Bool.false_eq_true,if_false];exact Calls.loadGlobal_builtin (hR.ok.gl▸O.gl.keeps hR.keep) hn (hR.ok.bl▸O.bl.keeps hR.keep) hv ⟨W,st,.raw v,.refl _,hR,rfl,h⟩
theorem Ev.name{x:Str}{pos:Pos}(h:J G cx fm X bot (loadName fm.env x) (RV G) st Q)(hd:(x ==("__debug__" :Str))= false:=by decide):Ev G cx fm X (.Name x pos) st Q:=by
 unfold Ev;rw [eval_Name _ _ _ hd];exact J.standAt h
set_option tactic.hygienic true in
theorem lr{x:Str}{v:Value}{av:AV}{Q:Unit→St→Prop}(hl:fm.kind x = some .local)(hv:RV G W₀ av v)(h:Q () (st.setLoc x av)):
  J G cx fm X W₀ (storeName fm.env x v) RU st Q:=by
 intro W s A hA hW hR hT;obtain ⟨o,es,ep,h1,h1',h2,h3,h4⟩:=hR.locals;refine wpAny_storeName_local (hR.ok.kind hl) ⟨o,es,ep,h1,h2,h3,fun Z=>rfl⟩ (fun h' hn hs=>?_) (by rw [hR.ok.fn];rfl)
 obtain ⟨o',es',ep',g1,g2,g3,g4⟩:=hn;refine ⟨W,st.setLoc x av,(),.refl _,hR.upd (k:= .loc) (ao':= .ns fun y=>if fm.kind y = some .local then (st.setLoc x av).loc y else Option.none) (o':=o') rfl rfl hs.extBut g1
  ⟨es',ep',g2,g3,fun y av' e=>?_⟩ rfl fun k' ao'' hk' e=>?_,trivial,h⟩
 ·rw [g4 y];dsimp only at e ⊢
  split at e
  ·rename_i hy;unfold St.setLoc at e;dsimp only at e
   split at e
   ·cases e;rename_i q;rw [if_pos q];exact ⟨v,rfl,hv.mono hW⟩
   ·rename_i q;rw [if_neg q];exact h4 y av' hy e
  ·cases e
 ·cases k' with
  | obj i=>exact e
  | loc=>exact absurd rfl hk'
  | cell y=>
   by_cases q:y∈fm.own
   ·have hne:y≠x:=fun z=>by have:=hR.ok.ownK y q;rw [z,hl] at this;cases this
    rw [show (st.setLoc x av).get fm (.cell y)= some (.cell ((st.setLoc x av).loc y)) from if_pos q] at e;rw [show st.get fm (.cell y)= some (.cell (st.loc y)) from if_pos q];rw [show (st.setLoc x av).loc y = st.loc y from if_neg hne] at e;exact e
   ·rw [show (st.setLoc x av).get fm (.cell y)= Option.none from if_neg q] at e;cases e
set_option tactic.hygienic true in
theorem ni{x:Str}{v:Value}{av:AV}{Q:Unit→St→Prop}(hl:fm.kind x = some .cell)(ho:x∈fm.own)(hv:RV G W₀ av v)(h:Q () (st.setLoc x av)):
  J G cx fm X W₀ (storeName fm.env x v) RU st Q:=by
 intro W s A hA hW hR hT;obtain ⟨a,o,p,q,r,u,z1,z2⟩:=hR.live (.cell x) (.cell (st.loc x)) (if_pos ho);have hp:=p;rw [show addrOf W fm (.cell x)= fm.env.cells.lookup x from if_pos ho] at p;refine wpAny_storeName_cell hR.ok.fn (hR.ok.kind hl) p ⟨o,r,z1⟩ fun h' hc hs=>?_;obtain ⟨o',g1,g2⟩:=hc;have key:∀y,y≠x→(st.setLoc x av).loc y = st.loc y:=fun y hy=>if_neg hy;refine ⟨W,st.setLoc x av,(),.refl _,hR.upd (t:=s.toks) (k:= .cell x) (ao':= .cell (some av)) (o':=o') (if_pos ho) hp hs.extBut g1
  ⟨some v,g2,fun av' e=>by cases e;exact ⟨v,rfl,hv.mono hW⟩⟩ ?_ fun k' ao'' hk' e=>?_,trivial,h⟩
 ·show (if x∈fm.own then some (AO.cell ((st.setLoc x av).loc x)) else Option.none)= _;rw [if_pos ho];congr 2;exact if_pos rfl
 ·cases k' with
  | obj i=>exact e
  | loc=>
   rw [← e];show some (AO.ns _)= some (AO.ns _)
   congr 2;funext y
   split
   ·rename_i hy;exact (key y fun z=>by rw [z,hl] at hy;cases hy).symm
   ·rfl
  | cell y=>
   have hne:y≠x:=fun z=>hk' (by rw [z])
   by_cases q:y∈fm.own
   ·rw [show (st.setLoc x av).get fm (.cell y)= some (.cell ((st.setLoc x av).loc y)) from if_pos q,key y hne] at e;rw [show st.get fm (.cell y)= some (.cell (st.loc y)) from if_pos q];exact e
   ·rw [show (st.setLoc x av).get fm (.cell y)= Option.none from if_neg q] at e;cases e
end
end
section
section
variable {G:Gd}{cx:Cx}{fm:Fm}{X:Value→St→Prop}{W₀:Wd}{st:St}{Q:AV→St→Prop}
@[simp] theorem jZ {W : Wd} {v : Value} : RV G W .none v = (v = .none) := rfl
@[simp] theorem df {W : Wd} {b : Bool} {v : Value} : RV G W (.bool b) v = (v = .bool b) := rfl
@[simp] theorem AP {W : Wd} {i : Int} {v : Value} : RV G W (.int i) v = ∃ t, v = .int i t := rfl
@[simp] theorem kz {W : Wd} {x : Str} {v : Value} : RV G W (.str x) v = ∃ t, v = .str x t := rfl
@[simp] theorem qX {W : Wd} {x : Array UInt8} {v : Value} : RV G W (.bytes x) v = ∃ t, v = .bytes x t := rfl
@[simp] theorem qC {W : Wd} {u : Value} {v : Value} : RV G W (.raw u) v = (v = u) := rfl
theorem Ev.cint{i:Int}{k:Nat}{pos:Pos}(h:Q (.int i) st):Ev G cx fm X (.Constant (.int i) k pos) st Q:=
 fun W s A Z Y hR V=>wpAny_Constant_int ⟨W,st,.int i,.refl _,hR.toks _,by simp,h⟩
theorem Ev.cstr{x:Str}{k:Nat}{pos:Pos}(h:Q (.str x) st):Ev G cx fm X (.Constant (.str x) k pos) st Q:=
 fun W s A Z Y hR V=>Calls.Constant_str ⟨W,st,.str x,.refl _,hR.toks _,by simp,h⟩
theorem Ev.cbytes{x:List UInt8}{k:Nat}{pos:Pos}(h:Q (.bytes x.toArray) st):Ev G cx fm X (.Constant (.bytes x) k pos) st Q:=
 fun W s A Z Y hR V U D N=>⟨W,st,.bytes x.toArray,.refl _,hR.toks _,by simp,h⟩
theorem Ev.cnone{k:Nat}{pos:Pos}(h:Q .none st):Ev G cx fm X (.Constant .none k pos) st Q:=
 J.pure (b:=AV.none) (fun Z Y=>by simp) h
theorem Ev.cbool{b:Bool}{k:Nat}{pos:Pos}(h:Q (.bool b) st):Ev G cx fm X (.Constant (.bool b) k pos) st Q:=
 J.pure (b:=AV.bool b) (fun Z Y=>by simp) h
noncomputable def ji(G:Gd)(cx:Cx)(fm:Fm)(X:Value→St→Prop)(op:Operator)(a b:AV)(st:St)(Q:AV→St→Prop):Prop:=
 ∀W₀ v u,RV G W₀ a v→RV G W₀ b u→J G cx fm X W₀ (binaryOp op v u) (RV G) st Q
noncomputable def i6(G:Gd)(cx:Cx)(fm:Fm)(X:Value→St→Prop)(op:Operator)(a b:AV)(st:St)(Q:AV→St→Prop):Prop:=
 ∀W₀ v u,RV G W₀ a v→RV G W₀ b u→J G cx fm X W₀ (inplaceOp op v u) (RV G) st Q
noncomputable def dH(G:Gd)(cx:Cx)(fm:Fm)(X:Value→St→Prop)(op:CmpOp)(a b:AV)(st:St)(Q:AV→St→Prop):Prop:=
 ∀W₀ v u,RV G W₀ a v→RV G W₀ b u→J G cx fm X W₀ (compareOp op v u) (RV G) st Q
noncomputable def jU(G:Gd)(cx:Cx)(fm:Fm)(X:Value→St→Prop)(a:AV)(st:St)(Q:Bool→St→Prop):Prop:=
 ∀W₀ v,RV G W₀ a v→J G cx fm X W₀ (truthy v) RB st Q
noncomputable abbrev xL(G:Gd)(cx:Cx)(fm:Fm)(X:Value→St→Prop)(op:Operator)(a:AV)(Q:AV→St→Prop):AV→St→Prop:=fun b st₂=>ji G cx fm X op a b st₂ Q
noncomputable abbrev Ag(G:Gd)(cx:Cx)(fm:Fm)(X:Value→St→Prop)(r:PySem.Expr)(op:Operator)(Q:AV→St→Prop):AV→St→Prop:=fun a st₁=>Ev G cx fm X r st₁ (xL G cx fm X op a Q)
noncomputable abbrev xh(G:Gd)(cx:Cx)(fm:Fm)(X:Value→St→Prop)(Q:Bool→St→Prop):AV→St→Prop:=fun a st₁=>jU G cx fm X a st₁ Q
noncomputable abbrev vC(G:Gd)(cx:Cx)(fm:Fm)(X:Value→St→Prop)(op:CmpOp)(a:AV)(Q:AV→St→Prop):AV→St→Prop:=fun b st₂=>dH G cx fm X op a b st₂ Q
noncomputable abbrev xR(G:Gd)(cx:Cx)(fm:Fm)(X:Value→St→Prop)(r:PySem.Expr)(op:CmpOp)(Q:AV→St→Prop):AV→St→Prop:=fun a st₁=>Ev G cx fm X r st₁ (vC G cx fm X op a Q)
theorem Ev.binop{l r:PySem.Expr}{op:Operator}{pos:Pos}
  (h:Ev G cx fm X l st (Ag G cx fm X r op Q)):Ev G cx fm X (.BinOp l op r pos) st Q:=by
 unfold Ev;rw [eval_BinOp];refine J.bind (J.mono (J.from h) (fun a st₁ h₁ W₁ v Z ra=>?_) fun Z Y z=>z);refine J.bind (J.holding (J.mono (J.from h₁) (fun b st₂ h₂ W₂ u le rb=>?_) fun Z Y z=>z));exact J.standAt (J.operate (h₂ W₂ v u (ra.mono le) rb))
theorem Ev.cmp{l r:PySem.Expr}{op:CmpOp}{pos:Pos}
  (h:Ev G cx fm X l st (xR G cx fm X r op Q)) (hm:behindInMarks op r = false:=by with_unfolding_all rfl):Ev G cx fm X (.Compare l [op] [r] pos) st Q:=by
 unfold Ev;rw [eval_Compare1,markedBehindIn_of_false hm];refine J.bind (J.mono (J.from h) (fun a st₁ h₁ W₁ v Z ra=>?_) fun Z Y z=>z);refine J.bind (J.holding (J.mono (J.from h₁) (fun b st₂ h₂ W₂ u le rb=>?_) fun Z Y z=>z));exact J.standAt (J.operate (h₂ W₂ v u (ra.mono le) rb))
theorem bj.cmp{l r:PySem.Expr}{op:CmpOp}{pos:Pos}{Q:Bool→St→Prop}
  (h:Ev G cx fm X l st (xR G cx fm X r op (xh G cx fm X Q))) (hm:behindInMarks op r = false:=by with_unfolding_all rfl):bj G cx fm X (.Compare l [op] [r] pos) st Q:=by
 unfold bj;rw [isTrue_Compare1,markedBehindIn_of_false hm];refine J.bind (J.mono (J.from h) (fun a st₁ h₁ W₁ v Z ra=>?_) fun Z Y z=>z);refine J.bind (J.holding (J.mono (J.from h₁) (fun b st₂ h₂ W₂ u le rb=>?_) fun Z Y z=>z));refine J.standAt (J.bind (J.operate (J.mono (h₂ W₂ v u (ra.mono le) rb) (fun c st₃ h₃ W₃ x le₃ rc=>?_) fun Z Y z=>z)));exact J.holding (h₃ W₃ x rc)
theorem bj.plain{e:PySem.Expr}{Q:Bool→St→Prop}(h:Ev G cx fm X e st (xh G cx fm X Q))
  (he:∀env whole,isTrue e env whole =(do let v ← whole;PySem.standAt e.pos;PySem.holding [v] (truthy v)):=by intro _ _;rfl):bj G cx fm X e st Q:=by
 unfold bj;rw [he];exact J.bind (J.mono (J.from h) (fun a st₁ h₁ W₁ v Z ra=>J.standAt (J.holding (h₁ W₁ v ra))) fun Z Y z=>z)
noncomputable abbrev uX(Q:Bool→St→Prop):Bool→St→Prop:=fun b st₁=>Q (! b) st₁
theorem bj.not{e:PySem.Expr}{pos:Pos}{Q:Bool→St→Prop}(h:bj G cx fm X e st (uX Q)):bj G cx fm X (.UnaryOp .Not e pos) st Q:=by
 refine J.of_eq (t':=do return !(← isTrue e fm.env (eval e fm.env))) rfl ?_
 exact J.bind (J.mono (J.from h) (fun b st₁ h₁ W₁ v Z ra=>J.pure (b:=! b) (fun Z Y=>by cases ra;rfl) h₁) fun Z Y z=>z)
noncomputable def aE(G:Gd)(cx:Cx)(fm:Fm)(X:Value→St→Prop)(op:PySem.BoolOp)(es:List PySem.Expr)(st:St)(Q:Bool→St→Prop):Prop:=J G cx fm X bot (allTrue op es fm.env) RB st Q
theorem bj.boolop{op:PySem.BoolOp}{es:List PySem.Expr}{pos:Pos}{Q:Bool→St→Prop}(h:aE G cx fm X op es st Q):bj G cx fm X (.BoolOp op es pos) st Q:=h
theorem aE.andNil{Q:Bool→St→Prop}(h:Q true st):aE G cx fm X .And [] st Q:=J.pure (b:=true) (fun Z Y=>rfl) h
theorem aE.orNil{Q:Bool→St→Prop}(h:Q false st):aE G cx fm X .Or [] st Q:=J.pure (b:=false) (fun Z Y=>rfl) h
theorem aE.and{e:PySem.Expr}{es:List PySem.Expr}{Q:Bool→St→Prop}(h:bj G cx fm X e st fun b st₁=>if b then aE G cx fm X .And es st₁ Q else Q false st₁):aE G cx fm X .And (e::es) st Q:=by
 refine J.of_eq (t':=do match PySem.BoolOp.And,← isTrue e fm.env (eval e fm.env) with | .And,false=>Pure.pure false | .Or,true=>Pure.pure true | _,_=>allTrue .And es fm.env) rfl ?_
 refine J.bind (J.mono (J.from h) (fun b st₁ h₁ W₁ v Z ra=>?_) fun Z Y z=>z);cases ra;cases b with
 | false=>exact J.pure (b:=false) (fun Z Y=>rfl) h₁
 | true=>exact J.from h₁
theorem aE.or{e:PySem.Expr}{es:List PySem.Expr}{Q:Bool→St→Prop}(h:bj G cx fm X e st fun b st₁=>if b then Q true st₁ else aE G cx fm X .Or es st₁ Q):aE G cx fm X .Or (e::es) st Q:=by
 refine J.of_eq (t':=do match PySem.BoolOp.Or,← isTrue e fm.env (eval e fm.env) with | .And,false=>Pure.pure false | .Or,true=>Pure.pure true | _,_=>allTrue .Or es fm.env) rfl ?_
 refine J.bind (J.mono (J.from h) (fun b st₁ h₁ W₁ v Z ra=>?_) fun Z Y z=>z);cases ra;cases b with
 | false=>exact J.from h₁
 | true=>exact J.pure (b:=true) (fun Z Y=>rfl) h₁
theorem Ev.ifexp{test body orelse:PySem.Expr}{pos:Pos}(h:bj G cx fm X test st fun b st₁=>if b then Ev G cx fm X body st₁ Q else Ev G cx fm X orelse st₁ Q):Ev G cx fm X (.IfExp test body orelse pos) st Q:=by
 unfold Ev;rw [eval_IfExp];refine J.bind (J.mono (J.from h) (fun b st₁ h₁ W₁ v Z ra=>?_) fun Z Y z=>z);cases ra;cases b <;> exact J.from h₁
noncomputable def bS(G:Gd)(cx:Cx)(fm:Fm)(X:Value→St→Prop)(pos:Pos)(op:PySem.BoolOp)(es:List PySem.Expr)(st:St)(Q:AV→St→Prop):Prop:=J G cx fm X bot (boolOp pos op (evalEach es fm.env)) (RV G) st Q
theorem Ev.boolop{op:PySem.BoolOp}{es:List PySem.Expr}{pos:Pos}(h:bS G cx fm X pos op es st Q):Ev G cx fm X (.BoolOp op es pos) st Q:=h
theorem bS.last{op:PySem.BoolOp}{e:PySem.Expr}{pos:Pos}(h:Ev G cx fm X e st Q):bS G cx fm X pos op [e] st Q:=h
theorem bS.and{e e':PySem.Expr}{es:List PySem.Expr}{pos:Pos}(h:Ev G cx fm X e st fun a st₁=>jU G cx fm X a st₁ fun b st₂=>if b then bS G cx fm X pos .And (e'::es) st₂ Q else Q a st₂):bS G cx fm X pos .And (e::e'::es) st Q:=by
 refine J.of_eq (t':=do
  let v ← eval e fm.env
  PySem.standAt pos
  let t ← PySem.holding [v] (truthy v)
  match PySem.BoolOp.And,t with
  | .And,false | .Or,true=>Pure.pure v
  | _,_=>boolOp pos .And (evalEach (e'::es) fm.env)) rfl ?_
 refine J.bind (J.mono (J.from h) (fun a st₁ h₁ W₁ v Z ra=>J.standAt (J.bind (J.holding (J.mono (h₁ W₁ v ra) (fun b st₂ h₂ W₂ c le rb=>?_) fun Z Y z=>z)))) fun Z Y z=>z);cases rb;cases b with
 | false=>exact J.pure (b:=a) (fun W hW=>(ra.mono le).mono hW) h₂
 | true=>exact J.from h₂
theorem bS.or{e e':PySem.Expr}{es:List PySem.Expr}{pos:Pos}(h:Ev G cx fm X e st fun a st₁=>jU G cx fm X a st₁ fun b st₂=>if b then Q a st₂ else bS G cx fm X pos .Or (e'::es) st₂ Q):bS G cx fm X pos .Or (e::e'::es) st Q:=by
 refine J.of_eq (t':=do
  let v ← eval e fm.env
  PySem.standAt pos
  let t ← PySem.holding [v] (truthy v)
  match PySem.BoolOp.Or,t with
  | .And,false | .Or,true=>Pure.pure v
  | _,_=>boolOp pos .Or (evalEach (e'::es) fm.env)) rfl ?_
 refine J.bind (J.mono (J.from h) (fun a st₁ h₁ W₁ v Z ra=>J.standAt (J.bind (J.holding (J.mono (h₁ W₁ v ra) (fun b st₂ h₂ W₂ c le rb=>?_) fun Z Y z=>z)))) fun Z Y z=>z);cases rb;cases b with
 | true=>exact J.pure (b:=a) (fun W hW=>(ra.mono le).mono hW) h₂
 | false=>exact J.from h₂
theorem Rep.nl{W:Wd}{s:Shared}(O:G.Ok)(R:Rep G W fm st s):s.heap.NoLimit:=O.nl.keeps R.keep
theorem Rep.pylong{W:Wd}{s:Shared}{A:Around}(O:G.Ok)(hA:cx.In fm A)(R:Rep G W fm st s):PySem.PylongRoom G.M A s:=by
 obtain ⟨hf',e,l,hf,he⟩:=hA.frames;rw [hf] at hf';exact PySem.PylongRoom.of (R.nl O) (Nat.lt_of_le_of_lt (show A.depth+Builtin.pylongFrames≤A.depth+8 * cx.n+400 by unfold Builtin.pylongFrames;change Bs) hA.depth) (SeerAt.of (O.seer.keeps R.keep) O.tree hf' he.gen he.co he.bl he.gl)
theorem Bin.addInt{a b:Int}(h:Q (.int (a+b)) st):ji G cx fm X .Add (.int a) (.int b) st Q:=by
 intro W₀ v u hv hu W s A hA hW hR hT;obtain ⟨t,rfl⟩:=hv;obtain ⟨t',rfl⟩:=hu;exact P.add_int ⟨W,st,_,.refl _,hR.toks _,by simp,h⟩
theorem IBin.addInt{a b:Int}(h:Q (.int (a+b)) st):i6 G cx fm X .Add (.int a) (.int b) st Q:=by
 intro W₀ v u hv hu W s A hA hW hR hT;obtain ⟨t,rfl⟩:=hv;obtain ⟨t',rfl⟩:=hu;exact P.iadd_int ⟨W,st,_,.refl _,hR.toks _,by simp,h⟩
theorem IBin.subInt{a b:Int}(h:Q (.int (a - b)) st):i6 G cx fm X .Sub (.int a) (.int b) st Q:=by
 intro W₀ v u hv hu W s A hA hW hR hT;obtain ⟨t,rfl⟩:=hv;obtain ⟨t',rfl⟩:=hu;exact P.isub_int ⟨W,st,_,.refl _,hR.toks _,by simp,h⟩
theorem Bin.divInt{a b:Int}(O:G.Ok)(hb:b≠0)(h:Q (.int (a.fdiv b)) st):ji G cx fm X .FloorDiv (.int a) (.int b) st Q:=by
 intro W₀ v u hv hu W s A hA hW hR hT;obtain ⟨t,rfl⟩:=hv;obtain ⟨t',rfl⟩:=hu;exact floordiv_int hb ⟨W,st,_,.refl _,hR.toks _,by simp,h⟩ (.inr (hR.pylong O hA))
theorem Bin.modInt{a b:Int}(hb:b≠0)(h:Q (.int (a.fmod b)) st):ji G cx fm X .Mod (.int a) (.int b) st Q:=by
 intro W₀ v u hv hu W s A hA hW hR hT;obtain ⟨t,rfl⟩:=hv;obtain ⟨t',rfl⟩:=hu;exact mod_int' hb ⟨W,st,_,.refl _,hR.toks _,by simp,h⟩
theorem Cmp.eqInt{a b:Int}(h:Q (.bool (a == b)) st):dH G cx fm X .Eq (.int a) (.int b) st Q:=by
 intro W₀ v u hv hu W s A hA hW hR hT;obtain ⟨t,rfl⟩:=hv;obtain ⟨t',rfl⟩:=hu;exact P.eq_int ⟨W,st,_,.refl _,hR,by simp,h⟩
theorem Cmp.neInt{a b:Int}(h:Q (.bool (a != b)) st):dH G cx fm X .NotEq (.int a) (.int b) st Q:=by
 intro W₀ v u hv hu W s A hA hW hR hT;obtain ⟨t,rfl⟩:=hv;obtain ⟨t',rfl⟩:=hu;exact P.ne_int ⟨W,st,_,.refl _,hR,by simp,h⟩
theorem Cmp.ltInt{a b:Int}(h:Q (.bool (decide (a < b))) st):dH G cx fm X .Lt (.int a) (.int b) st Q:=by
 intro W₀ v u hv hu W s A hA hW hR hT;obtain ⟨t,rfl⟩:=hv;obtain ⟨t',rfl⟩:=hu;exact P.lt_int ⟨W,st,_,.refl _,hR,by simp,h⟩
theorem Tru.int{a:Int}{Q:Bool→St→Prop}(h:Q (a != 0) st):jU G cx fm X (.int a) st Q:=by
 intro W₀ v hv W s A hA hW hR hT;obtain ⟨t,rfl⟩:=hv;exact P.truthy_int ⟨W,st,_,.refl _,hR,rfl,h⟩
theorem Tru.bool{a:Bool}{Q:Bool→St→Prop}(h:Q a st):jU G cx fm X (.bool a) st Q:=by
 intro W₀ v hv W s A hA hW hR hT;simp only [df] at hv;subst hv;exact wpAny_truthy_bool ⟨W,st,_,.refl _,hR,rfl,h⟩
theorem Tru.none{Q:Bool→St→Prop}(h:Q false st):jU G cx fm X .none st Q:=by
 intro W₀ v hv W s A hA hW hR hT;simp only [jZ] at hv;subst hv;exact truthy_none ⟨W,st,_,.refl _,hR,rfl,h⟩
inductive yR(Q:AV→St→Prop)(a:AV)(st₁:St):Prop
 | mk (i:Int) (ha:a = .int i) (h:Q (.int (-i)) st₁)
theorem Ev.neg{e:PySem.Expr}{pos:Pos}(h:Ev G cx fm X e st (yR Q)):Ev G cx fm X (.UnaryOp .USub e pos) st Q:=by
 refine J.of_eq (t':=do let v ← eval e fm.env;PySem.standAt pos;PySem.holding [v] (unaryOp .USub v)) rfl ?_
 refine J.bind (J.mono (J.from h) (fun a st₁ h₁ W₁ v Z ra=>J.standAt (J.holding ?_)) fun Z Y z=>z);obtain ⟨i,rfl,h₁⟩:=h₁;obtain ⟨t,rfl⟩:=ra;intro W s A hA hW hR hT;exact P.neg_int ⟨W,st₁,_,.refl _,hR.toks _,by simp,h₁⟩
theorem str_beq(x y:Str):(x.cps.toList == y.cps.toList)= decide (x = y):=by
 cases x;cases y;rw [Bool.eq_iff_iff];simp
theorem Cmp.eqStr{a b:Str}(h:Q (.bool (decide (a = b))) st):dH G cx fm X .Eq (.str a) (.str b) st Q:=by
 intro W₀ v u hv hu W s A hA hW hR hT;obtain ⟨t,rfl⟩:=hv;obtain ⟨t',rfl⟩:=hu;exact P.eq_str ⟨W,st,_,.refl _,hR,by rw [df,str_beq],h⟩
theorem fV{a b:Str}(h:(a.length == 0)= true):a++b = b:=by
 have:a.cps = #[]:=by cases a;simpa [Str.length] using h
 cases a;cases b;simp at this;subst this;apply Str.ext';simp [Str.cps_append]
theorem fD{a b:Str}(h:(b.length == 0)= true):a++b = a:=by
 have:b.cps = #[]:=by cases b;simpa [Str.length] using h
 cases a;cases b;simp at this;subst this;apply Str.ext';simp [Str.cps_append]
set_option tactic.hygienic true in
theorem gA{W:Wd}{s:Shared}{a b:Str}{t t':Tok}(hR:Rep G W fm st s)(hz:a.length+b.length≤sizeLine)(h:Q (.str (a++b)) st):
  (if a.length == 0 then Made.val (.str b t') else if b.length == 0 then Made.val (.str a t) else Made.str (a++b)).post (dZ G W fm (RV G) Q) s:=by
 split
 ·rename_i e;exact ⟨W,st,.str (a++b),.refl _,hR,by rw [fV e];simp,h⟩
 ·split
  ·rename_i e;exact ⟨W,st,.str (a++b),.refl _,hR,by rw [fD e];simp,h⟩
  ·exact ⟨by rw [Str.length_append];exact hz,W,st,.str (a++b),.refl _,hR.toks _,by simp,h⟩
theorem Bin.addStr{a b:Str}(hz:a.length+b.length≤sizeLine)(h:Q (.str (a++b)) st):ji G cx fm X .Add (.str a) (.str b) st Q:=by
 intro W₀ v u hv hu W s A hA hW hR hT;obtain ⟨t,rfl⟩:=hv;obtain ⟨t',rfl⟩:=hu;exact P.add_str (gA hR hz h)
theorem IBin.addStr{a b:Str}(hz:a.length+b.length≤sizeLine)(h:Q (.str (a++b)) st):i6 G cx fm X .Add (.str a) (.str b) st Q:=by
 intro W₀ v u hv hu W s A hA hW hR hT;obtain ⟨t,rfl⟩:=hv;obtain ⟨t',rfl⟩:=hu;exact P.iadd_str (gA hR hz h)
theorem bK:((sizeLine:Nat):Int) < 2 ^ 63:=by rw [sizeLine_eq];decide
theorem Tru.str{a:Str}{Q:Bool→St→Prop}(hz:a.length≤sizeLine)(h:Q (a.length != 0) st):jU G cx fm X (.str a) st Q:=by
 intro W₀ v hv W s A hA hW hR hT;obtain ⟨t,rfl⟩:=hv;have:=bK;exact P.truthy_str (by omega) ⟨W,st,_,.refl _,hR.toks _,by show ((a.length:Int) != 0)=(a.length != 0);rw [Bool.eq_iff_iff];simp,h⟩
theorem RV.noneB{W:Wd}{a:AV}{v:Value}{b:Bool}(ha:match a with | .none=>b = true | .raw _=>False | _=>b = false)(h:RV G W a v):(v = .none∧b = true)∨(v≠ .none∧b = false):=by
 cases a with
 | none=>exact .inl ⟨h,ha⟩
 | raw _=>exact ha.elim
 | bool _=>exact .inr ⟨fun e=>(nomatch h.symm.trans e),ha⟩
 | _=>exact .inr ⟨fun e=>by (subst e;rcases h;contradiction),ha⟩
theorem sL{a:AV}{b:Bool}(ha:match a with | .none=>b = false | .raw _=>False | _=>b = true):match (generalizing:=false) a with | .none=>(! b)= true | .raw _=>False | _=>(! b)= false:=by
 cases a <;> first | exact ha.elim | exact congrArg not ha
theorem RV.ofBool{W:Wd}{b c:Bool}(h:c = b):RV G W (.bool b) (.bool c):=congrArg Value.bool h
theorem Cmp.isNone{a:AV}{b:Bool}(ha:match a with | .none=>b = true | .raw _=>False | _=>b = false)(h:Q (.bool b) st):dH G cx fm X .Is a .none st Q:=by
 intro W₀ v u hv hu W s A hA hW hR hT;simp only [jZ] at hu;subst hu;rcases hv.noneB ha with ⟨rfl,rfl⟩ | ⟨hn,rfl⟩
 ·exact wpAny_is_self rfl ⟨W,st,_,.refl _,hR,RV.ofBool rfl,h⟩
 ·exact is_none_ne hn ⟨W,st,_,.refl _,hR,RV.ofBool rfl,h⟩
theorem Cmp.isNotNone{a:AV}{b:Bool}(ha:match a with | .none=>b = false | .raw _=>False | _=>b = true)(h:Q (.bool b) st):dH G cx fm X .IsNot a .none st Q:=by
 intro W₀ v u hv hu W s A hA hW hR hT;simp only [jZ] at hu;subst hu;rcases hv.noneB (sL ha) with ⟨rfl,hb⟩ | ⟨hn,hb⟩
 ·exact wpAny_isNot_self rfl ⟨W,st,_,.refl _,hR,RV.ofBool (by rw [Bool.not_eq_true'] at hb;rw [hb]),h⟩
 ·exact isnot_none_ne hn ⟨W,st,_,.refl _,hR,RV.ofBool (by rw [Bool.not_eq_false'] at hb;rw [hb]),h⟩
theorem Cmp.isBool{a b:Bool}(h:Q (.bool (a == b)) st):dH G cx fm X .Is (.bool a) (.bool b) st Q:=by
 intro W₀ v u hv hu W s A hA hW hR hT;simp only [df] at hv hu;subst hv hu;exact wpAny_is_plain (by cases a <;> cases b <;> rfl) ⟨W,st,_,.refl _,hR,by cases a <;> cases b <;> simp <;> rfl,h⟩
end
end
section
section
variable {G:Gd}{cx:Cx}{fm:Fm}{X:Value→St→Prop}{W₀ W:Wd}{st:St}{s:Shared}{Q:AV→St→Prop}
noncomputable def AO.lis:AO→Option (List AV)
 | .list l=>some l
 | _=>Option.none
noncomputable def AO.dic:AO→Option (List Str×List AV)
 | .dict ks vs _=>some (ks,vs)
 | _=>Option.none
noncomputable def aM(st:St):AV→Option (List AV)
 | .lst l=>some l
 | .ref i=>(st.hp i).bind AO.lis
 | _=>Option.none
noncomputable def fB(st:St):AV→Option (List Str×List AV)
 | .dct ks vs=>some (ks,vs)
 | .ref i=>(st.hp i).bind AO.dic
 | _=>Option.none
theorem ai{i:Nat}{l:List AV}(h:st.hp i = some (.list l)):aM st (.ref i)= some l:=by show (st.hp i).bind AO.lis = _;rw [h];rfl
theorem bv{i:Nat}{ks:List Str}{l:List AV}{ep:Nat}(h:st.hp i = some (.dict ks l ep)):fB st (.ref i)= some (ks,l):=by show (st.hp i).bind AO.dic = _;rw [h];rfl
@[simp] theorem vo {l : List AV} : aM st (.lst l) = some l := rfl
@[simp] theorem vp {ks : List Str} {l : List AV} : fB st (.dct ks l) = some (ks, l) := rfl
theorem jM.obj{T:String}{o:Obj}{vs:List Value}(h:jM T o vs):∃n,o ={cls:= .type T,dict:=Option.none,data:= .seq vs.toArray n,slots:=#[]}:=by
 obtain ⟨a,b,c,n,d⟩:=h;obtain ⟨x,y,z,w⟩:=o;dsimp only at a b c d;subst a b c d;exact ⟨n,rfl⟩
inductive LstAt(h:Heap)(P:List Value→Prop)(v:Value):Prop
 | mk (p:Addr) (vs:List Value) (n:Nat) (e:v = .ref p) (g:IsL h p vs.toArray n) (r:P vs)
theorem Rep.lst(R:Rep G W fm st s){a:AV}{v:Value}{l:List AV}(ha:RV G W a v)(hl:aM st a = some l):LstAt s.heap (au G W l) v:=by
 cases a with
 | lst l'=>
  cases hl;obtain ⟨p,o,vs,rfl,hF,hs,hv⟩:=ha;obtain ⟨n,rfl⟩:=hs.obj;exact ⟨p,vs,n,rfl,R.frozen _ _ hF,hv⟩
 | ref i=>
  obtain ⟨o',e,hl⟩:=Option.bind_eq_some_iff.mp hl;cases o' with
  | list l'=>
   cases hl;obtain ⟨p,rfl,hp⟩:=ha;obtain ⟨p',o,h1,h2,h3,vs,h4,h5⟩:=R.live (.obj i) _ e;rw [show addrOf W fm (.obj i)= W.al i from rfl,hp] at h1;cases h1;obtain ⟨n,rfl⟩:=h4.obj;exact ⟨p,vs,n,rfl,h3,h5⟩
  | _=>cases hl
 | _=>cases hl
theorem Rep.tup(R:Rep G W fm st s){v:Value}{l:List AV}(ha:RV G W (.tup l) v):SeqAt s.heap "tuple" (au G W l) v:=by
 obtain ⟨p,o,vs,rfl,hF,hs,hv⟩:=ha;obtain ⟨n,rfl⟩:=hs.obj;exact ⟨p,vs,n,rfl,R.frozen _ _ hF,hv⟩
theorem ew.isDict{o:Obj}{ks:List Str}{vs:List Value}{ep:Nat}(h:ew G o ks vs ep):isDict G o ks vs:=by obtain ⟨a,b,c,d,e,f,g⟩:=h;exact ⟨a,b,_,c,d,e,f,g⟩
theorem isDict.dictOf{h:Heap}{a:Addr}{o:Obj}{ks:List Str}{vs:List Value}(hd:isDict G o ks vs)(ho:h.get? a = some o):h.DictOf (strKind G.prog G.w) a (ks.zip vs):=by
 obtain ⟨e1,es,ep,e2,e3,e4,e5,e6⟩:=hd;refine ⟨o,es,ep,ho,e1,e2,e3,e4,?_⟩;rw [List.map_fst_zip (qE e5)];exact e6
theorem Rep.dct(R:Rep G W fm st s){a:AV}{v:Value}{ks:List Str}{l:List AV}(ha:RV G W a v)(hl:fB st a = some (ks,l)):
  yw G s.heap ks (au G W l) v:=by
 cases a with
 | dct ks' l'=>
  cases hl;obtain ⟨p,o,vs,rfl,hF,hs,hv⟩:=ha;exact ⟨p,o,vs,rfl,R.frozen _ _ hF,hs.2,hv⟩
 | ref i=>
  obtain ⟨o',e,hl⟩:=Option.bind_eq_some_iff.mp hl;cases o' with
  | dict ks' l' ep'=>
   cases hl;obtain ⟨p,rfl,hp⟩:=ha;obtain ⟨p',o,h1,h2,h3,vs,h4,h5⟩:=R.live (.obj i) _ e;rw [show addrOf W fm (.obj i)= W.al i from rfl,hp] at h1;cases h1;exact ⟨p,o,vs,rfl,h3,h4.isDict,h5⟩
  | _=>cases hl
 | _=>cases hl
noncomputable def ah(G:Gd)(cx:Cx)(fm:Fm)(X:Value→St→Prop)(pos:Pos)(es:List PySem.Expr)(st:St)(Q:List AV→St→Prop):Prop:=J G cx fm X bot (spliced (backTo pos (starEach es fm.env))) (au G) st Q
theorem ah.nil{pos:Pos}{Q:List AV→St→Prop}(h:Q [] st):ah G cx fm X pos [] st Q:=J.pure (b:= []) (fun Z Y=>au.nil) h
noncomputable abbrev Aq(a:AV)(Q:List AV→St→Prop):List AV→St→Prop:=fun as st₂=>Q (a::as) st₂
noncomputable abbrev Bz(G:Gd)(cx:Cx)(fm:Fm)(X:Value→St→Prop)(pos:Pos)(es:List PySem.Expr)(Q:List AV→St→Prop):AV→St→Prop:=fun a st₁=>ah G cx fm X pos es st₁ (Aq a Q)
theorem ah.cons{pos:Pos}{e:PySem.Expr}{es:List PySem.Expr}{Q:List AV→St→Prop}(h:Ev G cx fm X e st (Bz G cx fm X pos es Q))
  (hs:∀env,starEach (e::es) env =(false,eval e env)::starEach es env:=by intro _;rfl):ah G cx fm X pos (e::es) st Q:=by
 unfold ah;rw [hs];show J G cx fm X bot (spliced ((false,eval e fm.env)::backTo pos (starEach es fm.env))) (au G) st Q;rw [spliced];refine J.bind (J.mono (J.from h) (fun a st₁ h₁ W₁ v Z ra=>?_) fun Z Y z=>z);simp only [Bool.false_eq_true,if_false];refine J.bind (R₁:=fun W (b:List Value) a=>a = [v]) (J.pure (b:= [v]) (fun Z Y=>rfl) fun W₂ here le hh=>?_);subst hh;refine J.bind (J.holding (J.mono (J.from h₁) (fun as st₂ h₂ W₃ vs le₃ rs=>?_) fun Z Y z=>z));exact J.pure (b:=a::as) (fun W hW=>au.cons (((ra.mono le).mono le₃).mono hW) (rs.mono hW)) h₂
structure Af(Q:AV→St→Prop)(as:List AV)(st₁:St):Prop where
 z:as.length≤sizeLine
 q:Q (.lst as) st₁
structure wo(Q:AV→St→Prop)(as:List AV)(st₁:St):Prop where
 z:as.length≤sizeLine
 q:∀i,st₁.hp i = Option.none→Q (.ref i) (st₁.put i (.list as))
structure tupQ(Q:AV→St→Prop)(as:List AV)(st₁:St):Prop where
 z:as.length≤sizeLine
 q:Q (.tup as) st₁
theorem Ev.listF{es:List PySem.Expr}{pos:Pos}(h:ah G cx fm X pos es st (Af Q)):Ev G cx fm X (.List es pos) st Q:=by
 refine J.of_eq (t':=do PySem.standAt pos;newList (← spliced (backTo pos (starEach es fm.env)))) rfl ?_
 refine J.standAt (J.bind (J.mono (J.from h) (fun as st₁ h₁ W₁ vs Z rs=>?_) fun Z Y z=>z));intro W s A hA hW hR hT;have hz:vs.length≤sizeLine:=rs.length▸h₁.1;refine wpAny_newObj_type ?_ (by simpa [sizeOk] using hz)
 obtain ⟨le,hR'⟩:=hR.freezeNew (t:=s.toks) (h':=s.heap.push {cls:= .type "list",data:= .seq vs.toArray}) (fun Z Y e=>Heap.get?_push_of_some _ e) (aw _) (Heap.get?_push_size _ rfl);refine ⟨_,st₁,.lst as,le,hR',?_,h₁.2⟩;exact dh.mk _ _ vs rfl (if_pos rfl) ⟨rfl,rfl,rfl,_,rfl⟩ ((rs.mono hW).mono le)
theorem Ev.listM{es:List PySem.Expr}{pos:Pos}(h:ah G cx fm X pos es st (wo Q)):Ev G cx fm X (.List es pos) st Q:=by
 refine J.of_eq (t':=do PySem.standAt pos;newList (← spliced (backTo pos (starEach es fm.env)))) rfl ?_
 refine J.standAt (J.bind (J.mono (J.from h) (fun as st₁ h₁ W₁ vs Z rs=>?_) fun Z Y z=>z));intro W s A hA hW hR hT;have hz:vs.length≤sizeLine:=rs.length▸h₁.1;refine wpAny_newObj_type ?_ (by simpa [sizeOk] using hz)
 obtain ⟨i,hi,le,hR'⟩:=hR.allocNew (t:=s.toks) (h':=s.heap.push {cls:= .type "list",data:= .seq vs.toArray}) (fun Z Y e=>Heap.get?_push_of_some _ e) (aw _) (Heap.get?_push_size _ rfl);refine ⟨_,_,.ref i,le,hR' (.list as) ⟨vs,⟨rfl,rfl,rfl,_,rfl⟩,(rs.mono hW).mono le⟩,?_,h₁.2 i hi⟩;exact eJ.mk _ rfl (if_pos rfl)
theorem Ev.tuple{es:List PySem.Expr}{x1:_}{pos:Pos}(h:ah G cx fm X pos es st (tupQ Q)):Ev G cx fm X (.Tuple es x1 pos) st Q:=by
 refine J.of_eq (t':=do PySem.standAt pos;newTuple (← spliced (backTo pos (starEach es fm.env)))) rfl ?_
 refine J.standAt (J.bind (J.mono (J.from h) (fun as st₁ h₁ W₁ vs Z rs=>?_) fun Z Y z=>z));intro W s A hA hW hR hT;have hz:vs.length≤sizeLine:=rs.length▸h₁.1;refine wpAny_newObj_type ?_ (by simpa [sizeOk] using hz)
 obtain ⟨le,hR'⟩:=hR.freezeNew (t:=s.toks) (h':=s.heap.push {cls:= .type "tuple",data:= .seq vs.toArray}) (fun Z Y e=>Heap.get?_push_of_some _ e) (aw _) (Heap.get?_push_size _ rfl);refine ⟨_,st₁,.tup as,le,hR',?_,h₁.2⟩;exact dh.mk _ _ vs rfl (if_pos rfl) ⟨rfl,rfl,rfl,_,rfl⟩ ((rs.mono hW).mono le)
noncomputable def cZ(G:Gd)(cx:Cx)(fm:Fm)(X:Value→St→Prop)(value slice:PySem.Expr)(a i:AV)(st:St)(Q:AV→St→Prop):Prop:=
 ∀W₀ v u,RV G W₀ a v→RV G W₀ i u→J G cx fm X W₀ (subscriptTail value slice v u) (RV G) st Q
noncomputable abbrev xA(G:Gd)(cx:Cx)(fm:Fm)(X:Value→St→Prop)(value slice:PySem.Expr)(a:AV)(Q:AV→St→Prop):AV→St→Prop:=fun i st₂=>cZ G cx fm X value slice a i st₂ Q
noncomputable abbrev subQ(G:Gd)(cx:Cx)(fm:Fm)(X:Value→St→Prop)(value slice:PySem.Expr)(Q:AV→St→Prop):AV→St→Prop:=fun a st₁=>Ev G cx fm X slice st₁ (xA G cx fm X value slice a Q)
theorem Ev.sub{value slice:PySem.Expr}{pos:Pos}(h:Ev G cx fm X value st (subQ G cx fm X value slice Q)):Ev G cx fm X (.Subscript value slice pos) st Q:=by
 unfold Ev;rw [eval_Subscript];refine J.bind (J.mono (J.from h) (fun a st₁ h₁ W₁ v Z ra=>?_) fun Z Y z=>z);refine J.bind (J.holding (J.mono (J.from h₁) (fun i st₂ h₂ W₂ u le ri=>?_) fun Z Y z=>z));exact J.standAt (h₂ W₂ v u (ra.mono le) ri)
noncomputable def idx(i:Int)(n:Nat):Int:=if i < 0 then i+n else i
theorem Sub.lst{value slice:PySem.Expr}{a:AV}{l:List AV}{i:Int}{x:AV}(hl:aM st a = some l)(h0:0≤idx i l.length)(hx:l[(idx i l.length).toNat]? = some x)(hz:l.length≤sizeLine)(h:Q x st)
  (hs:∀o i,subscripted slice false o i = PySem.operate [o,i] (getItem o i):=by intro _ _;with_unfolding_all rfl):cZ G cx fm X value slice a (.int i) st Q:=by
 intro W₀ v u hv hu W s A hA hW hR hT;obtain ⟨p,vs,n,rfl,hL,rs⟩:=hR.lst (hv.mono hW) hl;obtain ⟨t,rfl⟩:=hu;obtain ⟨y,hy,ry⟩:=rs.get hx;have hlen:=rs.length;have hlt:(idx i l.length).toNat < l.length:=(gS hx).1;have:=bK;refine tail_any hL.isList.typeIs slot_list_getitem.lookup ?_ (hs _ _)
 by_cases hi:i < 0
 ·have e:idx i l.length = i+l.length:=if_pos hi;rw [e] at h0 hlt hy;exact wpAny_getItem_list_neg hL.isList hi (by simp;change BC) (by change Bw) (by simpa [← hlen] using hy) ⟨W,st,x,.refl _,hR,ry,h⟩
 ·have e:idx i l.length = i:=if_neg hi;rw [e] at h0 hlt hy;exact wpAny_getItem_list hL.isList (by assumption) (by change Br) (by simpa using hy) ⟨W,st,x,.refl _,hR,ry,h⟩
theorem Sub.dct{value slice:PySem.Expr}{a:AV}{ks:List Str}{l:List AV}{k:Str}{x:AV}{i:Nat}(hl:fB st a = some (ks,l))(hk:ks[i]? = some k)(hx:l[i]? = some x)(h:Q x st)
  (hs:∀o i,subscripted slice false o i = PySem.operate [o,i] (getItem o i):=by intro _ _;with_unfolding_all rfl):cZ G cx fm X value slice a (.str k) st Q:=by
 intro W₀ v u hv hu W s A hA hW hR hT;obtain ⟨p,o,vs,rfl,ho,hd,rs⟩:=hR.dct (hv.mono hW) hl;obtain ⟨t,rfl⟩:=hu;obtain ⟨y,hy,ry⟩:=rs.get hx;have hD:=hd.dictOf ho;have hval:valueAt (ks.zip vs) k = some y:=valueAt_of_get (by obtain ⟨_,es,ep,_,_,_,e5,e6⟩:=hd;rw [List.map_fst_zip (qE e5)];exact e6) (i:=i) (by rw [List.getElem?_zip_eq_some];exact ⟨hk,hy⟩)
 exact tail_any hD.typeIs slot_dict_getitem.lookup (wpAny_getItem_of (strKind_is G.prog G.w k t) hD.mapOf hval ⟨W,st,x,.refl _,hR.toks _,ry,h⟩) (hs _ _)
end
end
section
section
variable {G:Gd}{cx:Cx}{fm:Fm}{X:Value→St→Prop}{W₀ W:Wd}{st:St}{s:Shared}{Q:AV→St→Prop}
theorem Rep.pushF(R:Rep G W fm st s)(o:Obj)(t:Nat)(hf:o.isFreed = false:=by rfl):W.Le (W.freeze s.heap.objs.size o)∧Rep G (W.freeze s.heap.objs.size o) fm st {s with heap:=s.heap.push o,toks:=t}:=
 R.freezeNew (fun Z Y e=>Heap.get?_push_of_some _ e) (aw _) (Heap.get?_push_size _ hf)
theorem Rep.pushM(R:Rep G W fm st s)(o:Obj)(t:Nat)(hf:o.isFreed = false:=by rfl):∃i,st.hp i = Option.none∧W.Le (W.more i s.heap.objs.size)∧∀ao,OR G (W.more i s.heap.objs.size) ao o→Rep G (W.more i s.heap.objs.size) fm (st.put i ao) {s with heap:=s.heap.push o,toks:=t}:=
 R.allocNew (fun Z Y e=>Heap.get?_push_of_some _ e) (aw _) (Heap.get?_push_size _ hf)
theorem Rep.pushJ(R:Rep G W fm st s)(o:Obj)(t:Nat):Rep G W fm st {s with heap:=s.heap.push o,toks:=t}:=R.keeps fun Z Y e=>Heap.get?_push_of_some _ e
noncomputable def aU(G:Gd)(cx:Cx)(fm:Fm)(X:Value→St→Prop)(pos:Pos)(es:List PySem.Expr)(st:St)(Q:List AV→St→Prop):Prop:=
 ∀f,J G cx fm X bot (evalArgs f true (backTo pos (starEach es fm.env)) []) (fun W as a=>a.kw = []∧au G W as a.pos) st Q
theorem aU.nil{pos:Pos}{Q:List AV→St→Prop}(h:Q [] st):aU G cx fm X pos [] st Q:=fun f W s A hA hW hR Z=>PySem.evalArgs_none ⟨W,st,[],.refl _,hR,⟨rfl,au.nil⟩,h⟩
theorem aU.cons{pos:Pos}{e:PySem.Expr}{es:List PySem.Expr}{Q:List AV→St→Prop}(h:ah G cx fm X pos (e::es) st Q)(hs:∀env,starEach (e::es) env =(false,eval e env)::starEach es env:=by intro _;rfl):
  aU G cx fm X pos (e::es) st Q:=by
 intro f W s A hA hW hR hT;unfold ah at h;have h:=h W s A hA hW hR hT;rw [hs] at h ⊢;exact Calls.evalArgs_plain (wpAny_mono h (fun vs s' z=>by obtain ⟨W',st',as,p,q,r,x⟩:=z;exact ⟨W',st',as,p,q,⟨rfl,r⟩,x⟩) fun Z Y z=>z)
noncomputable def fJ(st:St):AV→Option (List AV)
 | .tup l=>some l
 | a=>aM st a
inductive uM(h:Heap)(P:List Value→Prop)(v:Value):Prop
 | mk (p:Addr) (T:String) (vs:List Value) (n:Nat) (t:T = "list" ∨T = "tuple") (e:v = .ref p) (g:h.get? p = some {cls:= .type T,dict:=Option.none,data:= .seq vs.toArray n,slots:=#[]}) (r:P vs)
theorem Rep.seq(R:Rep G W fm st s){a:AV}{v:Value}{l:List AV}(ha:RV G W a v)(hl:fJ st a = some l):uM s.heap (au G W l) v:=by
 cases a with
 | tup l'=>cases hl;obtain ⟨p,vs,n,e1,e2,e3⟩:=R.tup ha;exact ⟨p,_,vs,n,.inr rfl,e1,e2,e3⟩
 | _=>obtain ⟨p,vs,n,e1,e2,e3⟩:=R.lst ha hl;exact ⟨p,_,vs,n,.inl rfl,e1,e2,e3⟩
theorem qH{A:Around}{E:Value→Shared→Prop}{a:AV}{v:Value}{l:List AV}{Q:List Value→Shared→Prop}(R:Rep G W fm st s)(ha:RV G W a v)(hl:fJ st a = some l)(hz:l.length≤sizeLine)
  (h:∀vs h',au G W l vs→Rep G W fm st {s with heap:=h'}→Q vs {s with heap:=h'}):StarOf G.M A E v Q s:=by
 obtain ⟨p,T,vs,n,hT,rfl,hp,rs⟩:=R.seq ha hl;have hT':s.TypeIs (.ref p) T:=⟨_,hp,rfl⟩;have z:wpAny G.M A (collect (.ref p)) Q E s:=by
  refine wpAny_collect_seq p hT hp rfl rfl (fun h' hk=>?_) (by simpa [rs.length] using hz)
  exact h vs h' rs (R.keeps (t:=s.toks) hk)
 unfold StarOf notIterableAtAll;rcases hT with rfl | rfl
 ·exact wpAny_bind (wpAny_specialOf hT' PySem.F.slot_list_iter.lookup (wpAny_pure ⟨rfl,z⟩))
 ·exact wpAny_bind (wpAny_specialOf hT' PySem.F.slot_tuple_iter.lookup (wpAny_pure ⟨rfl,z⟩))
inductive yg(G:Gd)(cx:Cx)(fm:Fm)(X:Value→St→Prop)(pos:Pos)(es:List PySem.Expr)(Q:List AV→St→Prop)(a:AV)(st₁:St):Prop
 | mk (l:List AV) (h1:fJ st₁ a = some l) (h2:l.length≤sizeLine) (h3:ah G cx fm X pos es st₁ fun as st₂=>Q (l++as) st₂)
inductive vA(Q:List AV→St→Prop)(a:AV)(st₁:St):Prop
 | mk (l:List AV) (h1:fJ st₁ a = some l) (h2:l.length≤sizeLine) (h3:Q l st₁)
theorem ah.star{pos p:Pos}{e:PySem.Expr}{es:List PySem.Expr}{Q:List AV→St→Prop}(h:Ev G cx fm X e st (yg G cx fm X pos es Q)):
  ah G cx fm X pos (.Starred e p::es) st Q:=by
 intro W s A hA hW hR hT;refine items_star (gN hT (h W s A hA (bot_le _) hR hT) fun v s₁ hT₁ z=>?_);obtain ⟨W₁,st₁,a,le,R₁,ra,l,hl,hz,h₁⟩:=z;refine qH R₁ ra hl hz fun vs h' rs R₂=>?_;refine wpAny_mono (h₁ W₁ _ A hA (bot_le _) R₂ hT₁) (fun us s₂ z=>?_) fun Z Y z=>z.le le;obtain ⟨W₂,st₂,as,le₂,R₃,rs',hq⟩:=z;exact ⟨W₂,st₂,l++as,le.trans le₂,R₃,(rs.mono le₂).append rs',hq⟩
theorem aU.lone{pos p:Pos}{e:PySem.Expr}{Q:List AV→St→Prop}(h:Ev G cx fm X e st (vA Q)):aU G cx fm X pos [.Starred e p] st Q:=by
 intro f W s A hA hW hR hT;refine ks_lone (wpAny_mono (h W s A hA (bot_le _) hR hT) (fun v s₁ z=>?_) fun Z Y z=>z);obtain ⟨W₁,st₁,a,le,R₁,ra,l,hl,hz,h₁⟩:=z;exact qH R₁ ra hl hz fun vs h' rs R₂=>⟨W₁,st₁,l,le,R₂,⟨rfl,rs⟩,h₁⟩
noncomputable def bB(G:Gd)(cx:Cx)(fm:Fm)(X:Value→St→Prop)(f:Value)(as:List AV)(st:St)(Q:AV→St→Prop):Prop:=
 ∀W₀ vs,au G W₀ as vs→J G cx fm X W₀ (call f vs) (RV G) st Q
theorem cG{M:Model}{A:Around}{E:Value→Shared→Prop}{pos:Pos}{f:Value}{first:List Value}{args:List (Bool×Sem Value)}{Q:Value→Shared→Prop}
  (h:wpAny M A (evalArgs f true args []) (fun a s₁=>a.kw = []∧∃k,(∀Q',Q' k s₁→wpAny M A (keeperOf f) Q' E s₁)∧wpAny M A (call f (first++a.pos)) Q E s₁) E s):wpAny M A (callWith pos f first args []) Q E s:=by
 unfold callWith;refine wpAny_bind (wpAny_holding (wpAny_mono h (fun a s₁ h₁=>wpAny_bind (wpAny_standAt ?_)) fun Z Y x=>x));obtain ⟨hkw,k,hk,hc⟩:=h₁;rw [hkw];refine wpAny_bind (hk _ ?_);have tail:∀{t:Sem Value},wpAny M A t Q E s₁→wpAny M A (t >>= fun r=>holding [r] point >>= fun Z=>Pure.pure r) Q E s₁:=
  fun ht=>wpAny_bind (wpAny_mono ht (fun r s₂ hr=>wpAny_bind (wpAny_holding (wpAny_point (wpAny_pure hr)))) fun Z Y x=>x)
 have marked (mk:Value):wpAny M A (callMarked mk f (first++a.pos) []) Q E s₁:=by unfold callMarked;exact Calls.wpAny_keep hc
 dsimp only;generalize (args.any (·.1) || ([]:List (Option Str×Sem Value)).any (·.1.isNone))= b;cases k <;> cases b <;> dsimp only <;> first
  | exact tail hc
  | exact tail (marked _)
  | exact tail (wpAny_operating hc)
  | (split <;> first | exact tail hc | exact tail (marked _))
noncomputable def aa(G:Gd)(f:Value):Prop:=∀(M:Model) (A:Around) (E:Value→Shared→Prop) (s:Shared),(∀b o,G.h₀.get? b = some o→s.heap.get? b = some o)→∃k,∀Q',Q' k s→wpAny M A (keeperOf f) Q' E s
theorem aa.builtin(id:String):aa G (.builtin id):=fun Z Y V U D=>⟨.machine,fun Z h=>wpAny_pure h⟩
theorem aa.type(id:String):aa G (.type id):=fun Z Y V U D=>⟨.machine,fun Z h=>wpAny_pure h⟩
theorem CW.mk{pos:Pos}{f:Value}{first:List AV}{fv:List Value}{es:List PySem.Expr}(kp:aa G f)(rf:au G W₀ first fv)
  (h:aU G cx fm X pos es st fun as st₁=>bB G cx fm X f (first++as) st₁ Q):J G cx fm X W₀ (callWith pos f fv (backTo pos (starEach es fm.env)) []) (RV G) st Q:=by
 intro W s A hA hW hR hT;refine cG (gN hT (h f W s A hA (bot_le _) hR hT) fun a s₁ hT₁ z=>?_);obtain ⟨W₁,st₁,as,le,R₁,⟨hkw,rs⟩,h₁⟩:=z;obtain ⟨k,hk⟩:=kp G.M A (QE G W fm X) s₁ R₁.keep;refine ⟨hkw,k,hk,?_⟩;exact wpAny_mono (h₁ W₁ _ (((rf.mono hW).mono le).append rs) W₁ s₁ A hA (.refl _) R₁ hT₁) (fun Z Y y=>y.le le) fun Z Y y=>y.le le
noncomputable abbrev uw(G:Gd)(cx:Cx)(fm:Fm)(X:Value→St→Prop)(f:Value)(first:List AV)(Q:AV→St→Prop):List AV→St→Prop:=fun as st₂=>bB G cx fm X f (first++as) st₂ Q
inductive AB(G:Gd)(cx:Cx)(fm:Fm)(X:Value→St→Prop)(pos:Pos)(args:List PySem.Expr)(Q:AV→St→Prop)(a:AV)(st₁:St):Prop
 | mk (f:Value) (ha:a = .raw f) (kp:aa G f) (h:aU G cx fm X pos args st₁ (uw G cx fm X f [] Q))
theorem Ev.call{func:PySem.Expr}{args:List PySem.Expr}{pos:Pos}(h:Ev G cx fm X func st (AB G cx fm X pos args Q))
  (hc:∀env,eval (.Call func args [] pos) env =(do callWith pos (← eval func env) [] (backTo pos (starEach args env)) (backToKw pos (keywordEach [] env))):=by intro _;rfl):Ev G cx fm X (.Call func args [] pos) st Q:=by
 unfold Ev;rw [hc];refine J.bind (J.mono (J.from h) (fun a st₁ h₁ W₁ v Z ra=>?_) fun Z Y z=>z);obtain ⟨f,rfl,kp,h₁⟩:=h₁;simp only [qC] at ra;subst ra;exact CW.mk kp (first:= []) au.nil h₁
noncomputable def nj(G:Gd)(cx:Cx)(fm:Fm)(X:Value→St→Prop)(a:AV)(name:Str)(f:Value)(first:List AV)(st:St):Prop:=
 ∀W s A E pl (Q:Value×List Value→Shared→Prop) v,cx.In fm A→Rep G W fm st s→RV G W a v→(∀fv t,au G W first fv→Q (f,fv) {s with toks:=t})→wpAny G.M A (getMethod v name pl) Q E s
inductive Az(G:Gd)(cx:Cx)(fm:Fm)(X:Value→St→Prop)(name:Str)(pos:Pos)(args:List PySem.Expr)(Q:AV→St→Prop)(a:AV)(st₁:St):Prop
 | mk (f:Value) (first:List AV) (kp:aa G f) (m:nj G cx fm X a name f first st₁) (h:aU G cx fm X pos args st₁ (uw G cx fm X f first Q))
theorem Ev.mcall{o:PySem.Expr}{name:Str}{apos pos:Pos}{args:List PySem.Expr}
  (h:Ev G cx fm X o st (Az G cx fm X name pos args Q))
  (hb:∀env w,attributeBase o name env w = w:=by intro _ _;rfl) (hf:∀env,methodCallForm (args.length+0) (backTo pos (starEach args env)) [] = true:=by intro _;rfl) (hp:(apos.endLine == pos.line)= true:=by rfl):
  Ev G cx fm X (.Call (.Attribute o name apos) args [] pos) st Q:=by
 refine J.of_eq (t':=do
  let ov ← attributeBase o name fm.env (eval o fm.env)
  PySem.standAt apos.atName
  methodCall o name apos pos fm.env ov (args.length+([]:List Keyword).length) (backTo pos (starEach args fm.env)) (backToKw pos (keywordEach [] fm.env))) rfl ?_
 rw [hb];refine J.bind (J.mono (J.from h) (fun a st₁ h₁ W₁ v Z ra=>J.standAt ?_) fun Z Y z=>z);obtain ⟨f,first,kp,hm,h₁⟩:=h₁;intro W s A hA hW hR hT;unfold methodCall;refine wpAny_bind (wpAny_holding ?_);show wpAny _ _ (calleeOf (methodCallForm (args.length+0) (backTo pos (starEach args fm.env)) []) o fm.env v name) _ _ s;rw [hf];refine (gN (Q':=fun r s'=>∃fv t,au G W first fv∧r =(f,fv)∧s' ={s with toks:=t}) hT (hm W s A _ _ _ v hA hR (ra.mono hW) fun fv t rf=>⟨fv,t,rf,rfl,rfl⟩) fun r s' hT' hz=>?_:wpAny _ _ (getMethod v name _) _ _ s);obtain ⟨fv,t,rf,rfl,rfl⟩:=hz;show wpAny _ _ (methodCallPos (methodCallForm (args.length+0) (backTo pos (starEach args fm.env)) []) o fm.env apos pos >>= _) _ _ _;rw [hf];have e:methodCallPos true o fm.env apos pos = Pure.pure pos:=by unfold methodCallPos;rw [hp];rfl
 rw [e];exact wpAny_bind (wpAny_pure (CW.mk (W₀:=W) kp rf h₁ W _ A hA (.refl _) (hR.toks t) hT'))
end
end
section
section
variable {G:Gd}{cx:Cx}{fm:Fm}{X:Value→St→Prop}{W₀ W:Wd}{st:St}{s:Shared}{Q:AV→St→Prop}
theorem OR.soft{ao:AO}{o o':Obj}(hk:(∃m,ao = .ns m)∨∃c,ao = .cell c)(hd:o'.data = o.data)(h:OR G W ao o):OR G W ao o':=by
 rcases hk with ⟨m,rfl⟩ | ⟨c,rfl⟩
 ·obtain ⟨es,ep,a,b,c⟩:=h;exact ⟨es,ep,hd.trans a,b,c⟩
 ·obtain ⟨v,a,b⟩:=h;exact ⟨v,hd.trans a,b⟩
noncomputable def nz(fm:Fm):List Addr:=fm.frames.filterMap (·.frame)
theorem Rep.frs(R:Rep G W fm st s){L:Addr}(h:L∈nz fm):(L = fm.env.locals∨∃o es ep,W.H L = some o∧W.S L = true∧o.data = .dict es ep)∧∃o es ep,s.heap.get? L = some o∧o.data = .dict es ep:=by
 obtain ⟨e,he,hf⟩:=List.mem_filterMap.mp h;obtain ⟨_,L',h1,h2⟩:=R.outs.fr e he;rw [hf] at h1;cases h1;refine ⟨h2,?_⟩;rcases h2 with rfl | ⟨o,es,ep,p,q,r⟩
 ·obtain ⟨o,es,ep,h1,_,h2,_⟩:=R.locals;exact ⟨o,es,ep,h1,h2⟩
 ·obtain ⟨o',h1,h2⟩:=R.held _ _ p;exact ⟨o',es,ep,h1,h2.data.trans r⟩
theorem Rep.left(R:Rep G W fm st s){bad:List Addr}{h':Heap}(hbad:∀b∈bad,aF W fm b∨b∈Mine.nz fm)(h1:∀b o,b∉bad→s.heap.get? b = some o→h'.get? b = some o)
  (h2:∀b o,s.heap.get? b = some o→(∀vs,o.data≠ .fields vs)→∃sl,h'.get? b = some {o with slots:=sl}):Rep G W fm st {s with heap:=h'}:=by
 have dictNo:∀{o:Obj} {es ep},o.data = .dict es ep→∀vs,o.data≠ .fields vs:=fun e vs q=>by rw [e] at q;cases q
 refine ⟨fun a o e=>?_,fun a o e=>?_,R.base,fun k ao e=>?_,R.inj,fun k a e=>?_,R.fin,R.gens,R.os,R.outs,R.ok,R.FH,R.alH⟩
 ·refine h1 a o (fun q=>?_) (R.frozen a o e);rcases hbad a q with f | f
  ·rw [f.F] at e;cases e
  ·rcases (R.frs f).1 with rfl | ⟨o',es,ep,p,_⟩
   ·obtain ⟨_,_,_,_,hF,_⟩:=R.locals;rw [hF.1] at e;cases e
   ·rw [R.FH a o e] at p;cases p
 ·obtain ⟨o₁,g1,g2⟩:=R.held a o e
  by_cases q:a∈bad
  ·rcases hbad a q with f | f
   ·rw [f.H] at e;cases e
   ·obtain ⟨f1,o₂,es,ep,f2,f3⟩:=R.frs f;rw [g1] at f2;cases f2;rcases f1 with rfl | ⟨o',es',ep',p1,p2,p3⟩
    ·obtain ⟨_,_,_,_,hF,_⟩:=R.locals;rw [hF.2] at e;cases e
    ·obtain ⟨sl,hs⟩:=h2 a o₁ g1 (dictNo f3);refine ⟨_,hs,.inr ⟨p2,?_⟩⟩;rcases g2 with rfl | ⟨_,g2⟩
     ·rfl
     ·rw [g2]
  ·exact ⟨o₁,h1 a o₁ q g1,g2⟩
 ·obtain ⟨a,o,p,q,r,z⟩:=R.live k ao e
  by_cases hb:a∈bad
  ·rcases hbad a hb with f | f
   ·exact absurd p (f.k k)
   ·obtain ⟨f1,o₂,es,ep,f2,f3⟩:=R.frs f;rw [r] at f2;cases f2;rcases f1 with rfl | ⟨o',es',ep',p1,_⟩
    ·have hk:k = .loc:=R.inj k .loc _ p rfl;subst hk;obtain ⟨sl,hs⟩:=h2 _ o r (dictNo f3);exact ⟨_,_,p,q,hs,OR.soft (o:=o) (o':={o with slots:=sl}) (by cases e;exact .inl ⟨_,rfl⟩) rfl z⟩
    ·rw [q.2] at p1;cases p1
  ·exact ⟨a,o,p,q,h1 a o hb r,z⟩
 ·obtain ⟨o,ho⟩:=R.lt k a e
  by_cases hb:a∈bad
  ·rcases hbad a hb with f | f
   ·exact absurd e (f.k k)
   ·obtain ⟨_,o₂,es,ep,f2,f3⟩:=R.frs f;obtain ⟨sl,hs⟩:=h2 _ o₂ f2 (dictNo f3);exact ⟨_,hs⟩
  ·exact ⟨o,h1 a o hb ho⟩
theorem fK(R:Rep G W fm st s){base:Heap}(hb:∀L∈Mine.nz fm,base.get? L = Option.none):s.heap.FunFrames base fm.frames:=by
 have key:∀l:List Env,(∀e∈l,e∈fm.frames)→s.heap.FunFrames base l:=fun l=>by
  induction l with
  | nil=>intro _;exact trivial
  | cons e r ih=>
   intro h;have he:=h e (.head _);obtain ⟨hk,L,hf,_⟩:=R.outs.fr e he;have hL:L∈Mine.nz fm:=List.mem_filterMap.mpr ⟨e,he,hf⟩;obtain ⟨_,o,es,ep,h1,h2⟩:=R.frs hL;exact ⟨hk,⟨L,o,hf,hb L hL,h1,fun vs q=>by rw [h2] at q;cases q⟩,ih fun e' h'=>h e' (.tail _ h')⟩
 exact key _ fun Z h=>h
structure Fm.IsFn(fm:Fm):Prop where
 frame:fm.env.frame = some fm.env.locals
 top:∃l,fm.frames = fm.env::l
theorem lI{A:Around}{E:Value→Shared→Prop}{e cls:Value}{Q:Unit→Shared→Prop}(hf:fm.IsFn)(hA:cx.In fm A)(R:Rep G W fm st s)(fl:vm W fm e cls s)
  (h:∀h',Rep G W fm st {s with heap:=h'}→vm W fm e cls {s with heap:=h'}→Q () {s with heap:=h'}):
  wpAny G.M A (noteFrame e fm.env) (fun Z s'=>wpAny G.M A (setFlight e Option.none) Q E s') E s:=by
 obtain ⟨a,o,vs,rfl,ho,hcls,hd,hsz,fra,hv⟩:=fl;obtain ⟨l,hl⟩:=hf.top;have hfr:A.frames = some (fm.env::l):=by rw [hA.frames.1,hl]
 have nofr:∀{x:Addr},aF W fm x→x∉Mine.nz fm:=fun f hm=>by
  rcases (R.frs hm).1 with e | ⟨o',_,_,p,_⟩
  ·exact f.k .loc (by rw [e];rfl)
  ·rw [f.H] at p;cases p
 have fin:∀(bad:List Addr) (s₁:Shared),(∀b∈bad,b = a∨aF W fm b∨b∈Mine.nz fm)→a∈bad→(∀L∈Mine.nz fm,L∈bad)→(∀b o,b∉bad→s.heap.get? b = some o→s₁.heap.get? b = some o)→(∀b o,s.heap.get? b = some o→(∀vs,o.data≠ .fields vs)→s₁.heap.get? b = some o)→(∀b,s.heap.get? b = Option.none→s₁.heap.get? b = Option.none)→
   ∀h',Heap.Left (hideAll s₁.heap bad) (fm.env::l) a o.cls s₁.heap h'→Q () {s with heap:=h'}:=fun bad s₁ hb hab hfb k1 k2 k3 h' hL=>by
  obtain ⟨x1,x2,⟨oe,vs',T,oT,ts,y1,y2,y3,y4,y5,y6,y7,y8,y9⟩,x4⟩:=hL;have hbad:∀b∈bad,aF W fm b∨b∈Mine.nz fm:=fun b hm=>(hb b hm).elim (fun q=> .inl (q▸fra)) id;have g2:∀b o,s.heap.get? b = some o→(∀vs,o.data≠ .fields vs)→∃sl,h'.get? b = some {o with slots:=sl}:=fun b o hbo hnf=>x4 b o (k2 b o hbo hnf) hnf;have RR:Rep G W fm st {s with heap:=h'}:=R.left hbad (fun b o hnb hbo=>x1 b o (hideAll_get _ (k1 b o hnb hbo) hnb)) g2;refine h h' RR ⟨a,oe,vs',rfl,y1,y2.trans hcls,y3,(Array.getElem?_eq_some_iff.mp y4).1,fra,.inr ⟨T,oT,ts,y4,y6,y7,y8,y9,?_⟩⟩;cases hT:s.heap.get? T with
  | none=>exact R.free hT
  | some oT₀=>
   by_cases hm:T∈bad
   ·rcases hb T hm with q | q | q
    ·exact absurd q y6
    ·exact q
    ·obtain ⟨_,o₂,es,ep,f2,f3⟩:=R.frs q;obtain ⟨sl,hs⟩:=g2 T o₂ f2 (fun vs q=>by rw [f3] at q;cases q)
     rw [y7] at hs;cases hs;rw [f3] at y8;cases y8
   ·rw [hideAll_get _ (k1 T oT₀ hm hT) hm] at y5;cases y5
 have hFrameBad:∀{bad:List Addr} {h₁:Heap},(∀L∈Mine.nz fm,L∈bad)→∀L∈Mine.nz fm,(hideAll h₁ bad).get? L = Option.none:=fun hb L hL=>hideAll_none _ (hb L hL);unfold noteFrame;simp only [hf.frame];rcases hv with hv | ⟨T,oT,ts,hv,hTa,hT,hdT,h3,frT⟩
 ·refine wpAny_bind (wpAny_field ho hd hv ?_);refine wE (by decide) ?_
  exact wpAny_newEntry (base:=hideAll s.heap (a::Mine.nz fm)) hfr (hl▸fK R (hFrameBad fun L hL=> .tail _ hL)) hf.frame ho (fun b o e=>of_hideAll _ e) (hideAll_none _ (.head _)) hd hsz
   (fin (a::Mine.nz fm) s (fun b hb=>(mC hb).imp id .inr) (.head _) (fun L hL=> .tail _ hL) (fun Z Y V e=>e) (fun Z Y e V=>e) fun Z e=>e)
 ·refine wpAny_bind (wpAny_field ho hd hv ?_);refine wT (show (Value.ref T != Value.none)= true from by simp) ?_
  refine wpAny_bind (wpAny_field hT hdT h3 ?_);refine wE (show ¬((Value.none == rawInt fm.env.locals)= true) from by simp [rawInt]) ?_
  refine wpAny_bind (wpAny_setField hT hdT (Array.getElem?_eq_some_iff.mp h3).1 ?_);have other:∀b,b≠T→(s.heap.update T (Obj.mapFields (·.setIfInBounds 3 Value.none))).get? b = s.heap.get? b:=fun b hb=>Heap.get?_update_other _ _ (Ne.symm hb);have noRecord:∀b o,s.heap.get? b = some o→(∀vs,o.data≠ .fields vs)→b≠T:=fun b o hb hnf q=>by
   rw [q,hT] at hb;injection hb with hb;subst hb;exact hnf ts hdT
  have hFF:(s.heap.update T (Obj.mapFields (·.setIfInBounds 3 Value.none))).FunFrames (hideAll (s.heap.update T (Obj.mapFields (·.setIfInBounds 3 Value.none))) (a::T::Mine.nz fm)) fm.frames:=
   (fK R (hFrameBad fun L hL=> .tail _ (.tail _ hL))).of_keeps fun b o hb hnf=>⟨o,(other b (noRecord b o hb hnf)).trans hb,rfl⟩
  exact wpAny_newEntry (base:=hideAll (s.heap.update T (Obj.mapFields (·.setIfInBounds 3 Value.none))) (a::T::Mine.nz fm)) hfr (hl▸hFF) hf.frame ((other a (Ne.symm hTa)).trans ho) (fun b o e=>of_hideAll _ e) (hideAll_none _ (.head _)) hd hsz
   (fin (a::T::Mine.nz fm) {s with heap:=s.heap.update T (Obj.mapFields (·.setIfInBounds 3 Value.none))} (fun b hb=>by
     rcases mC hb with e | hb
     ·exact .inl e
     ·rcases mC hb with e | hb
      ·exact .inr (.inl (e▸frT))
      ·exact .inr (.inr hb)) (.head _) (fun L hL=> .tail _ (.tail _ hL)) (fun b o hb e=>(other b fun q=>hb (q▸ .tail _ (.head _))).trans e) (fun b o e hnf=>(other b (noRecord b o e hnf)).trans e)
    fun b e=>(other b fun q=>by rw [q,hT] at e;cases e).trans e)
theorem nD{A:Around}{E:Value→Shared→Prop}{e cls:Value}{Q:Unit→Shared→Prop}(R:Rep G W fm st s)(fl:vm W fm e cls s)
  (h:∀h',Rep G W fm st {s with heap:=h'}→vm W fm e cls {s with heap:=h'}→Q () {s with heap:=h'}):wpAny G.M A (setFlight e Option.none) Q E s:=by
 have fl':=fl;obtain ⟨a,o,vs,rfl,ho,hcls,hd,hsz,fra,hv⟩:=fl;rcases hv with hv | ⟨T,oT,ts,hv,hTa,hT,hdT,h3,frT⟩
 ·unfold setFlight;refine wpAny_bind (wpAny_field ho hd hv ?_);refine wE (by decide) ?_
  exact wpAny_pure (h s.heap R fl')
 ·refine wpAny_setFlight_none ho hd hv hT hdT (Array.getElem?_eq_some_iff.mp h3).1 (h _ ?_ ?_)
  ·exact R.extBut (t:=s.toks) (Heap.SameBut.update ..).extBut frT.F frT.H frT.k
  ·have hd₃:=Obj.data_mapFields hdT (·.setIfInBounds 3 Value.none);refine ⟨a,o,vs,rfl,(Heap.get?_update_other _ _ hTa).trans ho,hcls,hd,hsz,fra,.inr ⟨T,_,_,hv,hTa,Heap.get?_update_self _ hT (Obj.isFreed_of_fields hd₃),hd₃,?_,frT⟩⟩;have:=(Array.getElem?_eq_some_iff.mp h3).1;simp [this]
end
end
section
open Classical in
noncomputable def fe(fm:Fm)(a:Addr):Prop:=a = fm.env.locals∨∃x∈fm.own,fm.env.cells.lookup x = some a
open Classical in
noncomputable def Wd.holdFrame(W:Wd)(fm:Fm)(h:Heap):Wd:=
 {W with H:=fun a=>if fe fm a then h.get? a else W.H a,S:=fun a=>if a = fm.env.locals then true else W.S a}
section
variable {G:Gd}{cx:Cx}{fm:Fm}{X:Value→St→Prop}{W₀ W:Wd}{st:St}{s:Shared}{Q:AV→St→Prop}
theorem bd{a:Addr}(h:fe fm a):∃k,addrOf W fm k = some a∧(∃ao,st.get fm k = some ao)∧∀i,k≠ .obj i:=by
 rcases h with rfl | ⟨x,hx,e⟩
 ·exact ⟨.loc,rfl,⟨_,rfl⟩,fun i=>nofun⟩
 ·exact ⟨.cell x,(if_pos hx).trans e,⟨_,if_pos hx⟩,fun i=>nofun⟩
theorem bp{W:Wd}{h:Heap}{a:Addr}(q:fe fm a):(W.holdFrame fm h).H a = h.get? a:=if_pos q
theorem aC{W:Wd}{h:Heap}{a:Addr}(q:¬fe fm a):(W.holdFrame fm h).H a = W.H a:=if_neg q
theorem Rep.le_holdFrame(R:Rep G W fm st s):W.Le (W.holdFrame fm s.heap):=
 ⟨fun Z Y e=>e,fun Z Y e=>e,fun a o e=>by
  by_cases q:fe fm a
  ·obtain ⟨k,h1,⟨ao,h2⟩,_⟩:=bd (W:=W) (st:=st) q;obtain ⟨b,_,p,q',_⟩:=R.live k ao h2;rw [h1] at p;cases p;rw [q'.2] at e;cases e
  ·rw [aC q];exact e,fun a o e=>if_neg fun q=>by
  obtain ⟨k,h1,⟨ao,h2⟩,_⟩:=bd (W:=W) (st:=st) (fm:=fm) (a:=a) (.inl q);obtain ⟨b,_,p,q',_⟩:=R.live k ao h2;rw [h1] at p;cases p;rw [q'.2] at e;cases e⟩
theorem qG{k:Key}{ao:AO}(hk:∀i,k≠ .obj i)(h:st.get fm k = some ao):(∃m,ao = .ns m)∨∃c,ao = .cell c:=by
 cases k with
 | obj i=>exact absurd rfl (hk i)
 | loc=>cases h;exact .inl ⟨_,rfl⟩
 | cell x=>
  by_cases q:x∈fm.own
  ·rw [show st.get fm (.cell x)= some (.cell (st.loc x)) from if_pos q] at h;cases h;exact .inr ⟨_,rfl⟩
  ·rw [show st.get fm (.cell x)= Option.none from if_neg q] at h;cases h
noncomputable def ak(names:List (Str×NameKind)):List Str:=names.filterMap fun p=>if p.2 = .cell then some p.1 else Option.none
theorem bI:∀(names:List (Str×NameKind)) (n:Nat) (acc:List (Str×Addr)) (x:Str),(x∈ak names∨(acc.lookup x).isSome = true)→((cellsFrom n names acc).lookup x).isSome = true:=by
 intro zl
 induction zl with
 | nil=>
  intro _ _ x h;rcases h with h | h <;> first | exact h | simp [ak] at h
 | cons zq r ih=>
  obtain ⟨y,k⟩:=zq;intro n acc x h;unfold cellsFrom
  by_cases hk:k = .cell
  ·subst hk;simp only [beq_self_eq_true,if_true];refine ih _ _ x ?_;rcases h with h | h
   ·simp only [ak,List.filterMap_cons,if_true,List.mem_cons] at h;rcases h with h | h
    ·right;subst h;simp
    ·left;exact h
   ·right
    rw [List.lookup_cons]
    split <;> first | rfl | exact h
  ·have:(k == NameKind.cell)= false:=by simpa using hk
   simp only [this,Bool.false_eq_true,if_false];refine ih _ _ x ?_;rcases h with h | h
   ·left;simpa [ak,hk] using h
   ·right;exact h
noncomputable def bZ(ps:List (Str×AV)):Str→Option AV:=fun x=>ps.reverse.lookup x
set_option tactic.hygienic true in
theorem qh(kindOf:Str→Option NameKind):∀(ps:List (Str×AV)) (binds:List (Str×Value)) (m:Str→Option Value) (l:Str→Option AV),ps.map (·.1)= binds.map (·.1)→au G W (ps.map (·.2)) (binds.map (·.2))→
  (∀x av,kindOf x = some .local→l x = some av→∃v,m x = some v∧RV G W av v)→∀x av,kindOf x = some .local→(match ps.reverse.lookup x with | some y=>some y | Option.none=>l x)= some av→∃v,bindL kindOf binds m x = some v∧RV G W av v:=by
 intro zl
 induction zl with
 | nil=>
  intro zm;cases zm with
  | nil=>
   intro m l _ _ h x av hk e;exact h x av hk e
  | cons _ _=>
   intro _ _ e _ _ _ _ _ _;cases e
 | cons zq ps ih=>
  obtain ⟨y,a⟩:=zq;intro zm;cases zm with
  | nil=>
   intro _ _ e _ _ _ _ _ _;cases e
  | cons zr bs=>
   obtain ⟨z,v⟩:=zr;intro m l e rs h x av hk e';simp only [List.map_cons,List.cons.injEq] at e;obtain ⟨rfl,e⟩:=e;obtain ⟨v',r,e1,ra,rs⟩:=rs;cases e1;unfold bindL;refine ih bs _ (fun q=>if q = y then some a else l q) e rs ?_ x av hk ?_
   ·intro q aq hq eq
    split at eq
    ·rename_i hqy;cases eq;subst hqy;rw [if_pos hq];exact ⟨v,if_pos rfl,ra⟩
    ·rename_i hqy
     split
     ·obtain ⟨v2,e2,r2⟩:=h q aq hq eq;exact ⟨v2,(if_neg hqy).trans e2,r2⟩
     ·exact h q aq hq eq
   ·rw [List.reverse_cons,List.lookup_append] at e';cases hlk:ps.reverse.lookup x with
    | some q=>rw [hlk] at e';exact e'
    | none=>
     rw [hlk] at e';simp only [Option.none_or,List.lookup_cons,List.lookup_nil] at e'
     by_cases hxy:x = y
     ·subst hxy;simpa using e'
     ·have:(x == y)= false:=by simpa using hxy
      rw [this] at e';simpa [hxy] using e'
set_option tactic.hygienic true in
theorem pn(kindOf:Str→Option NameKind):∀(ps:List (Str×AV)) (binds:List (Str×Value)) (m:Str→Option Value) (l:Str→Option AV),ps.map (·.1)= binds.map (·.1)→au G W (ps.map (·.2)) (binds.map (·.2))→
  (∀x av,kindOf x = some .cell→l x = some av→∃v,m x = some v∧RV G W av v)→∀x av,kindOf x = some .cell→(match ps.reverse.lookup x with | some y=>some y | Option.none=>l x)= some av→∃v,bindC kindOf binds m x = some v∧RV G W av v:=by
 intro zl
 induction zl with
 | nil=>
  intro zm;cases zm with
  | nil=>
   intro m l _ _ h x av hk e;exact h x av hk e
  | cons _ _=>
   intro _ _ e _ _ _ _ _ _;cases e
 | cons zq ps ih=>
  obtain ⟨y,a⟩:=zq;intro zm;cases zm with
  | nil=>
   intro _ _ e _ _ _ _ _ _;cases e
  | cons zr bs=>
   obtain ⟨z,v⟩:=zr;intro m l e rs h x av hk e';simp only [List.map_cons,List.cons.injEq] at e;obtain ⟨rfl,e⟩:=e;obtain ⟨v',r,e1,ra,rs⟩:=rs;cases e1;unfold bindC;refine ih bs _ (fun q=>if q = y then some a else l q) e rs ?_ x av hk ?_
   ·intro q aq hq eq
    split at eq
    ·rename_i hqy;cases eq;subst hqy;rw [if_neg (by rw [hq];decide)];exact ⟨v,if_pos rfl,ra⟩
    ·rename_i hqy
     split
     ·exact h q aq hq eq
     ·obtain ⟨v2,e2,r2⟩:=h q aq hq eq;exact ⟨v2,(if_neg hqy).trans e2,r2⟩
   ·rw [List.reverse_cons,List.lookup_append] at e';cases hlk:ps.reverse.lookup x with
    | some q=>rw [hlk] at e';exact e'
    | none=>
     rw [hlk] at e';simp only [Option.none_or,List.lookup_cons,List.lookup_nil] at e'
     by_cases hxy:x = y
     ·subst hxy;simpa using e'
     ·have:(x == y)= false:=by simpa using hxy
      rw [this] at e';simpa [hxy] using e'
noncomputable def fS(G:Gd)(fd:FuncData)(as:List AV)(ps:List (Str×AV)):Prop:=
 ∀fm st W s A E vs (Q:List (Str×Value)→Shared→Prop),Rep G W fm st s→au G W as vs→
  (∀W' s' binds,W.Le W'→Rep G W' fm st s'→ps.map (·.1)= binds.map (·.1)→au G W' (ps.map (·.2)) (binds.map (·.2))→Q binds s')→wpAny G.M A (bindArgs fd ⟨vs,[]⟩) Q E s
structure cA(G:Gd)(f:Addr)(fd:FuncData)(body:List Stmt):Prop where
 at_:∃o,G.h₀.get? f = some o∧o.data = .func fd
 co:fd.scope.isCoroutine = false
 gen:fd.scope.isGenerator = false
 body:fd.body = .stmts body
 gl:fd.globals = mainGlobals
 bl:fd.builtins = builtinsNs
 cl:fd.closure = []
 kind:fd.scope.kind = .function
 code:G.h₀.CodeRec fd.code fd.qualname
structure sK(env:Env)(scope:Scope):Prop where
 scope:env.scope = scope
 gl:env.globals = mainGlobals
 bl:env.builtins = builtinsNs
 fr:env.frame = some env.locals
noncomputable def qe(Q E:Value→Shared→Prop)(r:Result)(s':Shared):Prop:=match r with
 | .ok (.ret v)=>Q v s'
 | .ok _=>False
 | .error e=>E e s'
noncomputable def jB:AF→AV
 | .ret v=>v
 | _=> .none
noncomputable def gW:Flow→Value
 | .ret v=>v
 | _=> .none
theorem RF.val{W:Wd}{af:AF}{fl:Flow}(rf:RF G W af fl):RV G W (jB af) (gW fl):=by
 cases af with
 | ret a=>obtain ⟨v,rfl,hv⟩:=rf;exact hv
 | next=>cases rf;simp [jB,gW]
 | brk=>cases rf;simp [jB,gW]
 | cont=>cases rf;simp [jB,gW]
set_option tactic.hygienic true in
theorem aS{names:List (Str×NameKind)}{x:Str}(hn:(names.map (·.1)).Nodup)(h:x∈ak names):names.lookup x = some .cell:=by
 induction names with
 | nil=>simp [ak] at h
 | cons p r ih=>
  obtain ⟨y,k⟩:=p;simp only [List.map_cons,List.nodup_cons] at hn;rw [List.lookup_cons]
  by_cases hxy:x = y
  ·subst hxy;simp only [beq_self_eq_true];simp only [ak,List.filterMap_cons] at h
   split at h
   ·rename_i hk;exact absurd (List.mem_map.mpr (by
     obtain ⟨p,hp,e⟩:=List.mem_filterMap.mp h
     split at e
     ·cases e;exact ⟨p,hp,rfl⟩
     ·cases e)) hn.1
   ·rename_i b hk
    split at hk
    ·rename_i hk2;rw [hk2]
    ·cases hk
  ·have:(x == y)= false:=by simpa using hxy
   rw [this];refine ih hn.2 ?_;simp only [ak,List.filterMap_cons] at h ⊢
   split at h
   ·exact h
   ·rename_i b hk;rcases mC h with e | e
    ·split at hk
     ·cases hk;exact absurd e hxy
     ·cases hk
    ·exact e
theorem Rep.back{fm':Fm}{st₂:St}{s₁ s₂:Shared}{W₁ W₂:Wd}(R₁:Rep G W₁ fm st s₁)(R₂:Rep G W₂ fm' st₂ s₂)(le₂:(W₁.holdFrame fm s₁.heap).Le W₂):
  W₁.Le {W₂ with H:=W₁.H,S:=W₁.S}∧Rep G {W₂ with H:=W₁.H,S:=W₁.S} fm ⟨st.loc,st₂.hp⟩ s₂:=by
 have le_c:=R₁.le_holdFrame
 let Wr:Wd:={W₂ with H:=W₁.H,S:=W₁.S}
 have lf:W₂.Lf Wr:=⟨fun Z Y e=>e,fun Z Y e=>e⟩;have heldF:∀a,fe fm a→∃o,W₂.H a = some o∧s₁.heap.get? a = some o:=fun a q=>by
  obtain ⟨k,h1,⟨ao,h2⟩,_⟩:=bd (W:=W₁) (st:=st) q;obtain ⟨b,o,p,_,r,_⟩:=R₁.live k ao h2;rw [h1] at p;cases p;exact ⟨o,le₂.H _ _ (by rw [bp q];exact r),r⟩
 have le_r:W₁.Le Wr:=⟨fun i a e=>le₂.al _ _ e,fun a o e=>le₂.F _ _ e,fun Z Y e=>e,fun Z Y V=>rfl⟩;have H_up:∀a o,W₁.H a = some o→W₂.H a = some o:=fun a o e=>le₂.H _ _ (le_c.H _ _ e);have H_dn:∀a,W₂.H a = Option.none→W₁.H a = Option.none:=fun a e=>by
  cases q:W₁.H a with
  | none=>rfl
  | some o=>rw [H_up a o q] at e;cases e
 have frk:∀k a,(∀i,k≠ .obj i)→addrOf Wr fm k = some a→fe fm a∧addrOf W₁ fm k = some a:=fun k a hk e=>by
  cases k with
  | obj i=>exact absurd rfl (hk i)
  | loc=>cases e;exact ⟨.inl rfl,rfl⟩
  | cell y=>
   by_cases hy:y∈fm.own
   ·have hc:=(if_pos hy).symm.trans e;exact ⟨.inr ⟨y,hy,hc⟩,(if_pos hy).trans hc⟩
   ·rw [show addrOf Wr fm (.cell y)= Option.none from if_neg hy] at e;cases e
 refine ⟨le_r,?_⟩;refine ⟨R₂.frozen,fun a o e=>(by obtain ⟨o',h,r⟩:=R₂.held _ _ (H_up a o e);exact ⟨o',h,r.imp id fun r=>⟨((le₂.S _ _ (le_c.H _ _ e)).trans (le_c.S _ _ e)).symm.trans r.1,r.2⟩⟩),R₂.base,fun k ao e=>?_,fun k k' a e e'=>?_,fun k a e=>?_,R₂.fin,R₂.gens,R₂.os,R₁.outs.mono le_r,R₁.ok,fun a o e=>H_dn a (R₂.FH a o e),fun i a e=>H_dn a (R₂.alH i a e)⟩
 ·have key:∀k,(∀i,k≠ .obj i)→st.get fm k = some ao→qA G Wr fm s₂.heap k ao:=fun k hk e=>by
   obtain ⟨a,o,p,q,r,z⟩:=R₁.live k ao e;have p':addrOf Wr fm k = some a:=by cases k <;> first | exact absurd rfl (hk _) | exact p
   obtain ⟨o',h1,h2⟩:=heldF a (frk k a hk p').1;rw [r] at h2;cases h2;obtain ⟨o₂,g1,g2⟩:=R₂.held _ _ h1;refine ⟨a,o₂,p',⟨?_,q.2⟩,g1,(z.mono le_r).soft (qG hk e) g2.data⟩;show W₂.F a = Option.none;cases hf:W₂.F a with
   | none=>rfl
   | some y=>rw [R₂.FH a y hf] at h1;cases h1
  cases k with
  | obj i=>
   obtain ⟨a,o,p,q,r,z⟩:=R₂.live (.obj i) ao e;exact ⟨a,o,p,⟨q.1,H_dn a q.2⟩,r,z.mono' lf⟩
  | loc=>exact key .loc (fun i=>nofun) e
  | cell y=>exact key (.cell y) (fun i=>nofun) e
 ·have objF:∀i k,(∀j,k≠ .obj j)→addrOf Wr fm (.obj i)= some a→addrOf Wr fm k = some a→False:=fun i k hk e e'=>by
   obtain ⟨o,h1,_⟩:=heldF a (frk k a hk e').1;rw [R₂.alH i a e] at h1;cases h1
  cases k with
  | obj i=>
   cases k' with
   | obj j=>exact R₂.inj (.obj i) (.obj j) a e e'
   | loc=>exact (objF i .loc (fun Z=>nofun) e e').elim
   | cell y=>exact (objF i (.cell y) (fun Z=>nofun) e e').elim
  | loc=>
   cases k' with
   | obj j=>exact (objF j .loc (fun Z=>nofun) e' e).elim
   | loc=>rfl
   | cell y=>exact R₁.inj .loc (.cell y) a (frk .loc a (fun Z=>nofun) e).2 (frk (.cell y) a (fun Z=>nofun) e').2
  | cell z=>
   cases k' with
   | obj j=>exact (objF j (.cell z) (fun Z=>nofun) e' e).elim
   | loc=>exact R₁.inj (.cell z) .loc a (frk (.cell z) a (fun Z=>nofun) e).2 (frk .loc a (fun Z=>nofun) e').2
   | cell y=>exact R₁.inj (.cell z) (.cell y) a (frk (.cell z) a (fun Z=>nofun) e).2 (frk (.cell y) a (fun Z=>nofun) e').2
 ·cases k with
  | obj i=>exact R₂.lt (.obj i) a e
  | loc=>obtain ⟨o,h1,_⟩:=heldF a (frk .loc a (fun Z=>nofun) e).1;obtain ⟨o₂,g1,_⟩:=R₂.held _ _ h1;exact ⟨o₂,g1⟩
  | cell y=>obtain ⟨o,h1,_⟩:=heldF a (frk (.cell y) a (fun Z=>nofun) e).1;obtain ⟨o₂,g1,_⟩:=R₂.held _ _ h1;exact ⟨o₂,g1⟩
noncomputable abbrev o7(fd:FuncData)(env:Env)(fm:Fm):Fm:=⟨env,ak fd.scope.names,fd.scope.names,fun Z=>Option.none,env::fm.frames⟩
noncomputable abbrev uZ(X:Value→St→Prop)(st:St):Value→St→Prop:=fun cls st'=>X cls ⟨st.loc,st'.hp⟩
noncomputable abbrev mY(Q:AV→St→Prop)(st:St):AF→St→Prop:=fun fl st'=>Q (jB fl) ⟨st.loc,st'.hp⟩
set_option tactic.hygienic true in
theorem tg{A:Around}{f:Addr}{fd:FuncData}{body:List Stmt}{as:List AV}{ps:List (Str×AV)}{vs:List Value}{n:Nat}(O:G.Ok)(K:cA G f fd body)(hA:cx.In fm A)(hn:n+1≤cx.n)(hR:Rep G W fm st s)(hT:0 < s.toks)
  (rs:au G W as vs) (hb:fS G fd as ps) (hnd:(fd.scope.names.map (·.1)).Nodup) (hps:∀x∈ps.map (·.1),fd.scope.names.lookup x = some .local∨fd.scope.names.lookup x = some .cell)
  (h:∀env,sK env fd.scope→Ex G ⟨n,cx.calm⟩ (o7 fd env fm) (uZ X st) body ⟨bZ ps,st.hp⟩ (mY Q st)):
  codeAny G.M A (.call (.ref f) ⟨vs,[]⟩) (qe (dZ G W fm (RV G) Q) (QE G W fm X)) s:=by
 obtain ⟨fo,hfo,hfd⟩:=K.at_;refine codeAny_call_function (by have:=hA.depth;change BT) (hR.keep _ _ hfo) hfd K.co K.gen K.body (K.code.keeps hR.keep) ?_
 refine gN (Q':=fun binds s₁=>∃W₁,W.Le W₁∧Rep G W₁ fm st s₁∧ps.map (·.1)= binds.map (·.1)∧au G W₁ (ps.map (·.2)) (binds.map (·.2))) hT (hb fm st W s A.in1 _ vs _ hR rs fun W₁ s₁ binds le₁ R₁ hnames rs₁=>⟨W₁,le₁,R₁,hnames,rs₁⟩) fun binds s₁ hT₁ hz₁=>?_;obtain ⟨W₁,le₁,R₁,hnames,rs₁⟩:=hz₁;have hmem:∀x∈binds,x.1∈ps.map (·.1):=fun x hx=>by rw [hnames];exact List.mem_map_of_mem hx
 have hcn:∀x,fd.scope.names.lookup x = some .cell→x∈ak fd.scope.names:=fun x e=>by
  have:=mem_of_lookup e;exact List.mem_filterMap.mpr ⟨_,this,by simp⟩
 rw [K.cl];refine gN hT₁ (wpAny_newFunctionEnv_cells K.kind (fun x hx=>?_) fun env he s' x=>And.intro he x) fun env s' hT₂ hz₂=>?_
 ·rcases hps x.1 (hmem x hx) with e | e
  ·exact .inl e
  ·exact .inr ⟨e,bI _ _ _ _ (.inl (hcn _ e))⟩
 obtain ⟨he,x⟩:=hz₂;have hsc:env.scope = fd.scope:=by rw [he];rfl
 have hgl:env.globals = mainGlobals:=by rw [he];exact K.gl
 have hbl:env.builtins = builtinsNs:=by rw [he];exact K.bl
 have hlo:s₁.heap.get? env.locals = Option.none:=by
  cases q:s₁.heap.get? env.locals with
  | none=>rfl
  | some o=>exact absurd (Heap.lt_size q) (Nat.not_lt.mpr x.toInCall.fresh)
 have hce:∀y c,env.cells.lookup y = some c→s₁.heap.get? c = Option.none:=fun y c e=>by
  cases q:s₁.heap.get? c with
  | none=>rfl
  | some o=>exact absurd (Heap.lt_size q) (Nat.not_lt.mpr (lT x.toInCall.fresh (Nat.le_of_lt (x.above y c (mem_of_lookup e)))))
 obtain ⟨h',tk,rfl⟩:=x.toInCall.same;have hkeep:=x.toInCall.keep;refine ⟨(O.nl.keeps R₁.keep).keeps hkeep,codeAny_func ?_⟩
 let fm':Fm:=o7 fd env fm
 have hown:∀y∈ak fd.scope.names,∃c,env.cells.lookup y = some c:=fun y hy=>by
  rw [he];exact Option.isSome_iff_exists.mp (bI fd.scope.names (s₁.heap.objs.size+1) [] y (.inl hy))
 have ok:qP fm':=⟨by show env.scope.kind = _;rw [hsc];exact K.kind,hgl,hbl,by show env.scope.names = _;rw [hsc],fun y hy=>aS hnd hy⟩
 have hkind:∀y,env.kindOf y = fd.scope.names.lookup y:=fun y=>by unfold Env.kindOf;rw [hsc]
 have le_c:=R₁.le_holdFrame;have fresh_not:∀a,s₁.heap.get? a = Option.none→¬fe fm a:=fun a ha q=>by
  obtain ⟨k,h1,_⟩:=bd (W:=W₁) (st:=st) q;exact R₁.freshK ha k h1
 have freshH:∀a,s₁.heap.get? a = Option.none→(W₁.holdFrame fm s₁.heap).H a = Option.none:=fun a ha=>by rw [aC (fresh_not a ha)];exact R₁.freshH ha
 have alno:∀i a,W₁.al i = some a→¬fe fm a:=fun i a e q=>by
  obtain ⟨k,h1,_,h3⟩:=bd (W:=W₁) (st:=st) q;exact h3 i (R₁.inj k (.obj i) a h1 e)
 have alex:∀i a,W₁.al i = some a→∃o,s₁.heap.get? a = some o:=fun i a e=>R₁.lt (.obj i) a e;have RC:Rep G (W₁.holdFrame fm s₁.heap) fm' ⟨bZ ps,st.hp⟩ {s₁ with heap:=h',toks:=tk}:=by
  refine ⟨fun a o e=>hkeep _ _ (R₁.frozen a o e),fun a o e=>?_,R₁.base,fun k ao e=>?_,fun k k' a e e'=>?_,fun k a e=>?_,R₁.fin,R₁.gens,R₁.os,⟨fun Z Y e=>(nomatch e),fun e he'=>?_⟩,ok,fun a o e=>?_,fun i a e=>?_⟩
  ·by_cases q:fe fm a
   ·rw [bp q] at e;exact ⟨_,hkeep _ _ e,.inl rfl⟩
   ·obtain ⟨o',h,r⟩:=R₁.held a o (by rw [aC q] at e;exact e)
    rw [aC q] at e;exact ⟨o',hkeep _ _ h,r.imp id fun r=>⟨(le_c.S _ _ e).trans r.1,r.2⟩⟩
  ·cases k with
   | obj i=>
    obtain ⟨a,o,p,q,r,z⟩:=R₁.live (.obj i) ao e;exact ⟨a,o,p,⟨q.1,by rw [aC (alno i a p)];exact q.2⟩,hkeep _ _ r,z.mono le_c⟩
   | loc=>
    obtain ⟨o,es,ep,h1,h2,h3,h4⟩:=x.toInCall.ns;cases e;refine ⟨env.locals,o,rfl,⟨R₁.freshF hlo,freshH _ hlo⟩,h1,es,ep,h2,h3,fun y av ey=>?_⟩;dsimp only at ey
    split at ey
    ·rename_i hy;rw [h4 y];exact qh env.kindOf ps binds (fun Z=>Option.none) (fun Z=>Option.none) hnames (rs₁.mono le_c) (fun Z Y V e=>(nomatch e)) y av ((hkind y).trans hy) (by
      rw [← ey];unfold bZ;cases ps.reverse.lookup y <;> rfl)
    ·cases ey
   | cell y=>
    by_cases hy:y∈ak fd.scope.names
    ·rw [show (⟨bZ ps,st.hp⟩:St).get fm' (.cell y)= some (.cell (bZ ps y)) from if_pos hy] at e;cases e;obtain ⟨c,hc⟩:=hown y hy;obtain ⟨o,ho,hd⟩:=x.cell y c hc;refine ⟨c,o,(if_pos hy).trans hc,⟨R₁.freshF (hce y c hc),freshH _ (hce y c hc)⟩,ho,_,hd,fun av ey=>?_⟩;exact pn env.kindOf ps binds (fun Z=>Option.none) (fun Z=>Option.none) hnames (rs₁.mono le_c) (fun Z Y V e=>(nomatch e)) y av ((hkind y).trans (aS hnd hy)) (by
      rw [← ey];unfold bZ;cases ps.reverse.lookup y <;> rfl)
    ·rw [show (⟨bZ ps,st.hp⟩:St).get fm' (.cell y)= Option.none from if_neg hy] at e;cases e
  ·have cellA:∀y,addrOf (W₁.holdFrame fm s₁.heap) fm' (.cell y)= some a→y∈ak fd.scope.names∧env.cells.lookup y = some a:=fun y e=>by
    by_cases hy:y∈ak fd.scope.names
    ·exact ⟨hy,(if_pos hy).symm.trans e⟩
    ·rw [show addrOf (W₁.holdFrame fm s₁.heap) fm' (.cell y)= Option.none from if_neg hy] at e;cases e
   cases k with
   | obj i=>
    obtain ⟨o,ho⟩:=alex i a e;cases k' with
    | obj j=>exact R₁.inj (.obj i) (.obj j) a e e'
    | loc=>cases e';rw [hlo] at ho;cases ho
    | cell y=>rw [hce y a (cellA y e').2] at ho;cases ho
   | loc=>
    cases e;cases k' with
    | obj j=>obtain ⟨o,ho⟩:=alex j _ e';rw [hlo] at ho;cases ho
    | loc=>rfl
    | cell y=>exact absurd (x.above y _ (mem_of_lookup (cellA y e').2)) (Nat.lt_irrefl _)
   | cell y=>
    obtain ⟨hy,hc⟩:=cellA y e;cases k' with
    | obj j=>obtain ⟨o,ho⟩:=alex j _ e';rw [hce y a hc] at ho;cases ho
    | loc=>cases e';exact absurd (x.above y _ (mem_of_lookup hc)) (Nat.lt_irrefl _)
    | cell z=>
     obtain ⟨hz,hc'⟩:=cellA z e';rw [name_of_addr x.apart (mem_of_lookup hc) (mem_of_lookup hc')]
  ·cases k with
   | obj i=>obtain ⟨o,ho⟩:=alex i a e;exact ⟨o,hkeep _ _ ho⟩
   | loc=>cases e;obtain ⟨o,es,ep,h1,_⟩:=x.toInCall.ns;exact ⟨o,h1⟩
   | cell y=>
    by_cases hy:y∈ak fd.scope.names
    ·have hc:=(if_pos hy).symm.trans e;obtain ⟨o,ho,hd⟩:=x.cell y a hc;exact ⟨o,ho⟩
    ·rw [show addrOf (W₁.holdFrame fm s₁.heap) fm' (.cell y)= Option.none from if_neg hy] at e;cases e
  ·rcases mC he' with rfl | he'
   ·exact ⟨by rw [hsc,K.kind];nofun,e.locals,by rw [he];rfl,.inl rfl⟩
   ·obtain ⟨a,L,b,c⟩:=R₁.outs.fr e he';refine ⟨a,L,b,.inr ?_⟩;rcases c with rfl | ⟨o,es,ep,c1,c2,c3⟩
    ·obtain ⟨o,es,ep,h1,_,h2,_⟩:=R₁.locals;exact ⟨o,es,ep,by rw [bp (.inl rfl)];exact h1,if_pos rfl,h2⟩
    ·exact ⟨o,es,ep,le_c.H _ _ c1,(le_c.S _ _ c1).trans c2,c3⟩
  ·by_cases q:fe fm a
   ·obtain ⟨k,h1,⟨ao,h2⟩,_⟩:=bd (W:=W₁) (st:=st) q;obtain ⟨b,_,p,q',_⟩:=R₁.live k ao h2;rw [h1] at p;cases p;rw [show (W₁.holdFrame fm s₁.heap).F a = W₁.F a from rfl,q'.1] at e;cases e
   ·rw [aC q];exact R₁.FH a o e
  ·rw [aC (alno i a e)];exact R₁.alH i a e
 have hA':(⟨n,cx.calm⟩:Cx).In fm' (A.deeper env):=by
  obtain ⟨hf0,_⟩:=hA.frames;refine ⟨hA.calm,?_,?_,?_,env,fm.frames,rfl,?_⟩
  ·show A.depth+1+8 * n+400 < recursionLimit;have:=hA.depth;change Bm
  ·show A.units+3+80 * n+200 < cLine;have:=hA.units;change Bq
  ·show A.frames.map (env::·)= _;rw [hf0];rfl
  ·exact ⟨by rw [hsc];exact K.gen,by rw [hsc];exact K.co,hbl,hgl⟩
 have hfl:env.frame = some env.locals:=by rw [he];rfl
 refine wpAny_mono (h env ⟨hsc,hgl,hbl,hfl⟩ _ _ _ hA' (bot_le _) RC hT₂) (fun fl s₂ z=>?_) fun e s₂ z=>?_
 rotate_left
 ·obtain ⟨W₂,st₂,cls,le₂,R₂,fl,hx⟩:=z;unfold leaving;refine wpAny_bind (lI (fm:=fm') (cx:=⟨n,cx.calm⟩) ⟨hfl,fm.frames,rfl⟩ hA' R₂ fl fun h'' R₃ fl₃=>?_);obtain ⟨le_r,Rb⟩:=R₁.back R₃ le₂;refine ⟨_,⟨st.loc,st₂.hp⟩,cls,le₁.trans le_r,Rb,?_,hx⟩;have frb:∀{a},aF W₂ fm' a→aF {W₂ with H:=W₁.H,S:=W₁.S} fm a:=fun {a} fr=>by
   refine ⟨fr.F,?_,fun k q=>?_⟩
   ·show W₁.H a = Option.none;cases q:W₁.H a with
    | none=>rfl
    | some o=>have:=le₂.H _ _ (le_c.H _ _ q);rw [fr.H] at this;cases this
   ·cases k with
    | obj i=>exact fr.k (.obj i) q
    | loc=>
     cases q;obtain ⟨o,es,ep,h1,_⟩:=R₁.locals;have:=le₂.H _ _ (show (W₁.holdFrame fm s₁.heap).H fm.env.locals = some o by rw [bp (.inl rfl)];exact h1)
     rw [fr.H] at this;cases this
    | cell y=>
     by_cases hy:y∈fm.own
     ·have hc:fm.env.cells.lookup y = some a:=(if_pos hy).symm.trans q;obtain ⟨o,ho⟩:=R₁.lt (.cell y) a ((if_pos hy).trans hc);have:=le₂.H _ _ (show (W₁.holdFrame fm s₁.heap).H a = some o by rw [bp (.inr ⟨y,hy,hc⟩)];exact ho)
      rw [fr.H] at this;cases this
     ·rw [show addrOf {W₂ with H:=W₁.H,S:=W₁.S} fm (.cell y)= Option.none from if_neg hy] at q;cases q
  obtain ⟨a,o,vs',e1,e2,e3,e4,e5,e6,e7⟩:=fl₃;exact ⟨a,o,vs',e1,e2,e3,e4,e5,frb e6,e7.imp id (by rintro ⟨T,oT,ts,p1,p2,p3,p4,p5,p6⟩;exact ⟨T,oT,ts,p1,p2,p3,p4,p5,frb p6⟩)⟩
 obtain ⟨W₂,st₂,af,le₂,R₂,rf,hq⟩:=z;have rv:=rf.val;obtain ⟨le_r,Rb⟩:=R₁.back R₂ le₂;have lf:W₂.Lf {W₂ with H:=W₁.H,S:=W₁.S}:=⟨fun Z Y e=>e,fun Z Y e=>e⟩;have z:=rv.mono' lf;exact ⟨_,⟨st.loc,st₂.hp⟩,jB af,le₁.trans le_r,Rb,(by revert z;cases fl <;> exact id),hq⟩
end
end
section
noncomputable abbrev cO:Value→St→Prop:=fun Z Y=>False
section
variable {G:Gd}{cx:Cx}{fm:Fm}{X:Value→St→Prop}{W₀ W:Wd}{st:St}{s:Shared}{Q:AV→St→Prop}
theorem QE.no{W:Wd}{e:Value}{s:Shared}(h:QE G W fm cO e s):False:=by obtain ⟨_,_,_,_,_,_,x⟩:=h;exact x
noncomputable def cY(G:Gd)(cx:Cx)(fm:Fm)(X:Value→St→Prop)(t:PySem.Expr)(a:AV)(st:St)(Q:St→Prop):Prop:=
 ∀W₀ v,RV G W₀ a v→J G cx fm X W₀ (assign t fm.env v) RU st fun Z st'=>Q st'
noncomputable def aX(fm:Fm)(x:Str):Prop:=fm.kind x = some .local∨(fm.kind x = some .cell∧x∈fm.own)
theorem store{x:Str}{v:Value}{av:AV}{Q:Unit→St→Prop}(hl:aX fm x)(hv:RV G W₀ av v)(h:Q () (st.setLoc x av)):J G cx fm X W₀ (storeName fm.env x v) RU st Q:=
 hl.elim (fun e=>lr e hv h) fun e=>ni e.1 e.2 hv h
theorem ik{x:Str}{v:Value}{av:AV}{Q:Unit→St→Prop}(hl:aX fm x)(hv:RV G W₀ av v)(h:Q () (st.setLoc x av)):J G cx fm X W₀ (bindName fm.env x v) RU st Q:=
 fun W s A hA hW hR hT=>wpAny_bindName (store hl hv h W s A hA hW hR hT)
theorem Asg.name{x:Str}{pos:Pos}{a:AV}{Q:St→Prop}(hl:aX fm x)(h:Q (st.setLoc x a)):cY G cx fm X (.Name x pos) a st Q:=by
 intro W₀ v ra;rw [PySem.assign_Name];exact J.standAt (ik hl ra h)
noncomputable def rF(G:Gd)(cx:Cx)(fm:Fm)(X:Value→St→Prop):List PySem.Expr→List AV→St→(St→Prop)→Prop
 | [],[],st,Q=>Q st
 | t::ts,a::as,st,Q=>cY G cx fm X t a st fun st₁=>rF G cx fm X ts as st₁ Q
 | _,_,_,_=>False
noncomputable def noStar:List PySem.Expr→Bool
 | []=>true
 | .Starred ..::_=>false
 | _::r=>noStar r
theorem bh:∀{ts:List PySem.Expr} (env:Env),noStar ts = true→assignEach ts env = ts.map fun t=>(false,assign t env):=by
 intro zl
 induction zl with
 | nil=>
  intro _ _;exact rfl
 | cons t ts ih=>
  intro env h;cases t <;> first
   | (exact congrArg (List.cons (false,_)) (ih env h))
   | exact Bool.noConfusion h
theorem gL:∀{ts:List PySem.Expr} {as:List AV} {vs:List Value} {st:St} {W₀:Wd} {Q:St→Prop},au G W₀ as vs→rF G cx fm X ts as st Q→
  J G cx fm X W₀ (assignInOrder (ts.map fun t=>assign t fm.env) vs) RU st fun Z st'=>Q st':=by
 intro zl
 induction zl with
 | nil=>
  intro zm;cases zm with
  | nil=>
   intro vs st W₀ Q rs h;obtain rfl:=rs;exact J.pure (b:=()) (fun Z Y=>trivial) h
  | cons _ _=>
   intro _ _ _ _ _ h;exact h.elim
 | cons t ts ih=>
  intro zm;cases zm with
  | cons a as=>
   intro vs st W₀ Q rs h;obtain ⟨v,r,rfl,ra,rs⟩:=rs;exact (J.bind (J.holding (J.mono (h W₀ v ra) (fun Z st₁ h₁ W₁ Y le V=>ih (rs.mono le) h₁) fun Z Y z=>z)):J G cx fm X W₀ (PySem.holding r (assign t fm.env v) >>= fun Z=>assignInOrder (ts.map fun t=>assign t fm.env) r) RU st _)
  | nil=>
   intro _ _ _ _ _ h;exact h.elim
theorem Rep.fresh1(R:Rep G W fm st s){h':Heap}{t:Nat}(hk:Heap.ExtBut s.heap.objs.size s.heap h'):Rep G W fm st {s with heap:=h',toks:=t}:=
 R.keeps fun a o e=>hk a o (Nat.ne_of_lt (Heap.lt_size e)) e
theorem Asg.tuple{ts:List PySem.Expr}{x1:_}{pos:Pos}{l:List AV}{Q:St→Prop}(hc:cx.calm = true)(hn:noStar ts = true)(hl:ts.length = l.length)(h:rF G cx fm X ts l st Q):cY G cx fm X (.Tuple ts x1 pos) (.tup l) st Q:=by
 intro W₀ v ra W s A hA hW hR hT;obtain ⟨p,vs,n,rfl,hp,rs⟩:=hR.tup (ra.mono hW);refine wpAny_assign_Tuple (items:=vs.toArray) (hA.calm hc) ⟨_,hp,rfl,n,rfl⟩ (by rw [bh _ hn];simp [hl,rs.length]) (by rw [bh _ hn];simp) fun h' hk=>?_
 rw [bh _ hn,List.map_map];exact gL rs h W _ A hA (.refl _) (hR.fresh1 (t:=s.toks) hk) hT
theorem aW{targets:List PySem.Expr}{value:PySem.Expr}{env env':Env}(hk:env.scope.kind = env'.scope.kind)(hn:env.scope.names = env'.scope.names):swappedStores targets value env = swappedStores targets value env':=by
 unfold swappedStores Env.blockKind Env.kindOf;rw [hk,hn]
theorem dU{value:PySem.Expr}{t:Option PySem.Expr}{line:Nat}{env env':Env}(hk:env.scope.kind = env'.scope.kind)(hn:env.scope.names = env'.scope.names):swapsWith value t line env = swapsWith value t line env':=by
 unfold swapsWith Env.blockKind Env.kindOf;rw [hk,hn]
noncomputable def dY(names:List (Str×NameKind)):Env:={(default:Env) with scope:={kind:= .function,names,isGenerator:=false,isCoroutine:=false,more:= []}}
noncomputable abbrev AC(G:Gd)(cx:Cx)(fm:Fm)(X:Value→St→Prop)(t:PySem.Expr)(Q:AF→St→Prop):AV→St→Prop:=fun a st₁=>cY G cx fm X t a st₁ (Q .next)
theorem an.asg{t:PySem.Expr}{value:PySem.Expr}{pos:Pos}{Q:AF→St→Prop}(h:Ev G cx fm X value st (AC G cx fm X t Q))
  (hst:noStar [t] = true:=by rfl) (h1:swapsWith value (some t) pos.line (dY fm.names)= Pure.pure false:=by rfl) (h2:swappedStores [t] value (dY fm.names)= Pure.pure Option.none:=by rfl):an G cx fm X (.Assign [t] value pos) st Q:=by
 intro W s A hA hW hR hT;have e:exec (.Assign [t] value pos) fm.env =(do
   PySem.standAt pos
   if ← swapsWithSole [t] value pos.line fm.env then do
    evalThenUse value fm.env fun v=>assignAll v ((assignEach [t] fm.env).map (·.2))
    Pure.pure Flow.next
   else do
    let v ← eval value fm.env
    assignStores fm.env v (← swappedStores [t] value fm.env) ((assignEach [t] fm.env).map (·.2))):=rfl
 rw [e,show swapsWithSole [t] value pos.line fm.env = Pure.pure false from (dU (env':=dY fm.names) hR.ok.fn hR.ok.names).trans h1,(aW (env':=dY fm.names) hR.ok.fn hR.ok.names).trans h2,bh _ hst];refine wpAny_bind (wpAny_standAt (wpAny_bind (wpAny_pure ?_)));simp only [Bool.false_eq_true,if_false];refine wpAny_bind (i9 hT (h W s A hA (bot_le _) hR hT) (fun v s₁ hT₁ z=>?_) fun Z Y V z=>z);obtain ⟨W₁,st₁,a,le,R₁,ra,h₁⟩:=z;refine wpAny_bind (wpAny_pure ?_);refine (wpAny_bind (wpAny_mono (h₁ W₁ v ra W₁ s₁ A hA (.refl _) R₁ hT₁) (fun Z s₂ z=>?_) fun Z Y z=>z.le le):wpAny _ _ (PySem.assign t fm.env v >>= fun Z=>Pure.pure Flow.next) _ _ _);obtain ⟨W₂,st₂,_,le₂,R₂,_,h₂⟩:=z;exact wpAny_pure ⟨W₂,st₂,.next,le.trans le₂,R₂,rfl,h₂⟩
theorem lE{x y:Str}(h:x≠y)(a b:AV)(st:St):(st.setLoc x a).setLoc y b =(st.setLoc y b).setLoc x a:=by
 unfold St.setLoc
 congr 1;funext z
 by_cases h1:z = y <;> by_cases h2:z = x
 ·subst h1 h2;exact absurd rfl h
 ·subst h1;simp [h2]
 ·subst h2;simp [h1]
 ·simp [h1,h2]
inductive ze(x y:Str)(Q:AF→St→Prop)(a:AV)(st₁:St):Prop
 | mk (a1 a2:AV) (ha:a = .tup [a1,a2]) (h:Q .next ((st₁.setLoc x a1).setLoc y a2))
theorem an.assignSwap2{x y:Str}{p1 p2 pt pv pos:Pos}{x1 x2:_}{vs:List PySem.Expr}{Q:AF→St→Prop}(hc:cx.calm = true)(hx:aX fm x)(hy:aX fm y)(hxy:x≠y)
  (h:Ev G cx fm X (.Tuple vs x2 pv) st (ze x y Q))
  (h2:swappedStores [.Tuple [.Name x p1,.Name y p2] x1 pt] (.Tuple vs x2 pv) (dY fm.names)= Pure.pure (some [x,y]):=by rfl):an G cx fm X (.Assign [.Tuple [.Name x p1,.Name y p2] x1 pt] (.Tuple vs x2 pv) pos) st Q:=by
 intro W s A hA hW hR hT;have e:exec (.Assign [.Tuple [.Name x p1,.Name y p2] x1 pt] (.Tuple vs x2 pv) pos) fm.env =(do
   PySem.standAt pos
   let v ← eval (.Tuple vs x2 pv) fm.env
   assignStores fm.env v (← swappedStores [.Tuple [.Name x p1,.Name y p2] x1 pt] (.Tuple vs x2 pv) fm.env) ((assignEach [.Tuple [.Name x p1,.Name y p2] x1 pt] fm.env).map (·.2))):=rfl
 rw [e,(aW (env':=dY fm.names) hR.ok.fn hR.ok.names).trans h2];refine wpAny_bind (wpAny_standAt (wpAny_bind (i9 hT (h W s A hA (bot_le _) hR hT) (fun v s₁ hT₁ z=>?_) fun Z Y V z=>z)));obtain ⟨W₁,st₁,a,le,R₁,ra,a1,a2,rfl,h₁⟩:=z;obtain ⟨p,us,n,rfl,hp,rs⟩:=R₁.tup ra;obtain ⟨v1,r1,rfl,rv1,v2,r2,rfl,rv2,rfl⟩:=rs;refine wpAny_bind (wpAny_pure (wpAny_bind (wpAny_rule (wpAny_bind ?_))));refine wpAny_unpackItems_tuple (items:=#[v1,v2]) (hA.calm hc) ⟨_,hp,rfl,n,rfl⟩ fun h' hk=>?_;have R₂:=R₁.fresh1 (t:=s₁.toks) hk;show wpAny _ _ (do (do PySem.holding [v1] (bindName fm.env y v2);do PySem.holding [] (bindName fm.env x v1);Pure.pure ());Pure.pure Flow.next) _ _ _
 have key:J G cx fm X W₁ (do (do PySem.holding [v1] (bindName fm.env y v2);do PySem.holding [] (bindName fm.env x v1);Pure.pure ());Pure.pure Flow.next) (RF G) st₁ Q:=by
  refine J.bind (R₁:=RU) (J.bind (J.holding (ik hy rv2 fun W₂ Z le₂ Y=>J.bind (J.holding (ik hx (rv1.mono le₂) fun W₃ Z le₃ Y=>J.pure (b:=()) (fun Z Y=>trivial) fun W₄ Z le₄ Y=>?_)))));refine J.pure (b:=AF.next) (fun Z Y=>rfl) ?_;rw [lE (fun e=>hxy e.symm)];exact h₁
 exact wpAny_mono (key W₁ _ A hA (.refl _) R₂ hT₁) (fun Z Y z=>z.le le) fun Z Y z=>z.le le
end
end
section
section
variable {G:Gd}{cx:Cx}{fm:Fm}{X:Value→St→Prop}{W₀ W:Wd}{st:St}{s:Shared}{Q:AV→St→Prop}
structure b7(G:Gd)(it:Addr)(xs:List AV)(cond:St→Prop)(ok:Wd→Nat→Obj→Prop):Prop where
 item:∀{W s A fm st k o x E} {Q:Option Value→Shared→Prop},Rep G W fm st s→cond st→aF W fm it→s.heap.get? it = some o→ok W k o→xs[k]? = some x→
  (∀v s' W' o',W.Le W'→Rep G W' fm st s'→aF W' fm it→s'.heap.get? it = some o'→ok W' (k+1) o'→RV G W' x v→Q (some v) s')→wpAny G.M A (pyNext (.ref it)) Q E s
 stop:∀{W s A fm st o E} {Q:Option Value→Shared→Prop},A.handled = Option.none→Rep G W fm st s→cond st→aF W fm it→s.heap.get? it = some o→ok W xs.length o→
  (∀s',Rep G W fm st s'→Q Option.none s')→wpAny G.M A (pyNext (.ref it)) Q E s
 mono:∀{W W' k o},W.Lf W'→ok W k o→ok W' k o
 self:∀{W s A fm st k o E} {Q:Value→Shared→Prop},Rep G W fm st s→s.heap.get? it = some o→ok W k o→Q (.ref it) s→wpAny G.M A (pyIter (.ref it)) Q E s
 owned:∀{W s A fm st k o E} {t:PySem.Expr} {v:Value} {Q:Unit→Shared→Prop},Rep G W fm st s→aF W fm it→s.heap.get? it = some o→ok W k o→
  (∀s' o',Rep G W fm st s'→s'.heap.get? it = some o'→ok W k o'→Q () s')→wpAny G.M A (letOwnedTupleGo t (.ref it) v) Q E s
noncomputable def b5(G:Gd)(a:AV)(xs:List AV)(cond:St→Prop):Prop:=
 ∀{W s A fm st E v} {Q:Value→Shared→Prop},cond st→Rep G W fm st s→RV G W a v→
  (∀it o s' ok W',W.Le W'→Rep G W' fm st s'→aF W' fm it→s'.heap.get? it = some o→b7 G it xs cond ok→ok W' 0 o→Q (.ref it) s')→wpAny G.M A (pyIter v) Q E s
inductive BG(G:Gd)(W:Wd)(fm:Fm)(st:St)(xs:List AV)(cond:St→Prop)(v:Value)(s':Shared):Prop
 | mk (it:Addr) (o:Obj) (ok:Wd→Nat→Obj→Prop) (W':Wd) (e:v = .ref it) (le:W.Le W') (R:Rep G W' fm st s') (fr:aF W' fm it) (ho:s'.heap.get? it = some o) (nx:b7 G it xs cond ok) (hok:ok W' 0 o)
inductive vF(G:Gd)(W:Wd)(fm:Fm)(st:St)(it:Addr)(ok:Wd→Nat→Obj→Prop)(k:Nat)(x:AV)(r:Option Value)(s':Shared):Prop
 | mk (v:Value) (W':Wd) (o':Obj) (e:r = some v) (le:W.Le W') (R:Rep G W' fm st s') (fr:aF W' fm it) (ho:s'.heap.get? it = some o') (hok:ok W' (k+1) o') (rv:RV G W' x v)
inductive zB(G:Gd)(W:Wd)(fm:Fm)(st:St)(it:Addr)(ok:Wd→Nat→Obj→Prop)(k:Nat)(s':Shared):Prop
 | mk (o':Obj) (R:Rep G W fm st s') (ho:s'.heap.get? it = some o') (hok:ok W k o')
inductive vG(G:Gd)(W:Wd)(fm:Fm)(it:Addr)(ok:Wd→Nat→Obj→Prop)(I:Nat→St→Prop)(N n:Nat)(s':Shared):Prop
 | mk (k:Nat) (W':Wd) (st':St) (o':Obj) (e:n = N+1 - k) (hk:k≤N) (hT:0 < s'.toks) (le:W.Le W') (R:Rep G W' fm st' s') (fr:aF W' fm it) (ho:s'.heap.get? it = some o') (hok:ok W' k o') (i:I k st')
theorem b5.t{a:AV}{xs:List AV}{cond:St→Prop}(hit:b5 G a xs cond){A:Around}{E:Value→Shared→Prop}{v:Value}{Q:Value→Shared→Prop}(hT:0 < s.toks)(hc:cond st)(R:Rep G W fm st s)(ra:RV G W a v)
  (h:∀it o s' ok W',0 < s'.toks→W.Le W'→Rep G W' fm st s'→aF W' fm it→s'.heap.get? it = some o→b7 G it xs cond ok→ok W' 0 o→Q (.ref it) s'):wpAny G.M A (pyIter v) Q E s:=
 gN (Q':=BG G W fm st xs cond) hT (hit hc R ra fun it o s' ok W' le R' fr ho nx hok=>⟨it,o,ok,W',rfl,le,R',fr,ho,nx,hok⟩)
  fun v s' hT' ⟨it,o,ok,W',e,le,R',fr,ho,nx,hok⟩=>e▸h it o s' ok W' hT' le R' fr ho nx hok
theorem b7.itemT{it:Addr}{xs:List AV}{cond:St→Prop}{ok:Wd→Nat→Obj→Prop}(nx:b7 G it xs cond ok){A:Around}{k:Nat}{o:Obj}{x:AV}{E:Value→Shared→Prop}{Q:Option Value→Shared→Prop}(hT:0 < s.toks)(R:Rep G W fm st s)(hc:cond st)(fr:aF W fm it)(ho:s.heap.get? it = some o)(hok:ok W k o)(hx:xs[k]? = some x)
  (h:∀v s' W' o',0 < s'.toks→W.Le W'→Rep G W' fm st s'→aF W' fm it→s'.heap.get? it = some o'→ok W' (k+1) o'→RV G W' x v→Q (some v) s'):wpAny G.M A (pyNext (.ref it)) Q E s:=
 gN (Q':=vF G W fm st it ok k x) hT (nx.item R hc fr ho hok hx fun v s' W' o' le R' fr' ho' hok' rv=>⟨v,W',o',rfl,le,R',fr',ho',hok',rv⟩)
  fun r s' hT' ⟨v,W',o',e,le,R',fr',ho',hok',rv⟩=>e▸h v s' W' o' hT' le R' fr' ho' hok' rv
theorem b7.stopT{it:Addr}{xs:List AV}{cond:St→Prop}{ok:Wd→Nat→Obj→Prop}(nx:b7 G it xs cond ok){A:Around}{o:Obj}{E:Value→Shared→Prop}{Q:Option Value→Shared→Prop}(hT:0 < s.toks)(hh:A.handled = Option.none)(R:Rep G W fm st s)(hc:cond st)(fr:aF W fm it)(ho:s.heap.get? it = some o)(hok:ok W xs.length o)
  (h:∀s',0 < s'.toks→Rep G W fm st s'→Q Option.none s'):wpAny G.M A (pyNext (.ref it)) Q E s:=
 gN (Q':=fun r s'=>r = Option.none∧Rep G W fm st s') hT (nx.stop hh R hc fr ho hok fun s' R'=>⟨rfl,R'⟩) fun r s' hT' ⟨e,R'⟩=>e▸h s' hT' R'
theorem b7.ownedT{it:Addr}{xs:List AV}{cond:St→Prop}{ok:Wd→Nat→Obj→Prop}(nx:b7 G it xs cond ok){A:Around}{k:Nat}{o:Obj}{E:Value→Shared→Prop}{t:PySem.Expr}{v:Value}{Q:Unit→Shared→Prop}(hT:0 < s.toks)(R:Rep G W fm st s)(fr:aF W fm it)(ho:s.heap.get? it = some o)(hok:ok W k o)
  (h:∀s' o',0 < s'.toks→Rep G W fm st s'→s'.heap.get? it = some o'→ok W k o'→Q () s'):wpAny G.M A (letOwnedTupleGo t (.ref it) v) Q E s:=
 gN (Q':=fun Z=>zB G W fm st it ok k) hT (nx.owned R fr ho hok fun s' o' R' ho' hok'=>⟨o',R',ho',hok'⟩) fun _ s' hT' ⟨o',R',ho',hok'⟩=>h s' o' hT' R' ho' hok'
theorem bV{A:Around}{E:Value→Shared→Prop}{it:Addr}{o:Obj}{n:String}{t:PySem.Expr}{v:Value}{Q:Unit→Shared→Prop}(ho:s.heap.get? it = some o)(hc:o.cls = .type n)
  (hn:(["enumerate","zip","dict_itemiterator","dict_reverseitemiterator","odict_iterator","itertools.zip_longest","itertools.pairwise"].contains n)= false) (h:Q () s):wpAny G.M A (letOwnedTupleGo t (.ref it) v) Q E s:=by
 unfold letOwnedTupleGo;have key:∀a,wpAny G.M A (do
   let o ← load it
   match o.cls,o.data with
   | .type n,.fields vs=>
    if ["enumerate","zip","dict_itemiterator","dict_reverseitemiterator","odict_iterator","itertools.zip_longest","itertools.pairwise"].contains n && vs[0]? == some (rawInt a) then
     rule "for.unpacks-the-owned-tuple"
     updateField it 0 .none
   | _,_=>Pure.pure ()) Q E s:=fun a=>by
  refine wpAny_bind (wpAny_load ho ?_);rw [hc];cases o.data <;> first
   | (dsimp only;rw [hn];exact wpAny_pure h)
   | exact wpAny_pure h
 cases t <;> first
  | exact wpAny_pure h
  | (cases v <;> first | exact wpAny_pure h | exact key _)
theorem pA{it l:Addr}{a:AV}{xs:List AV}(cond:St→Prop)(hc:∀{W s fm st},cond st→Rep G W fm st s→(∃v,RV G W a v∧v = .ref l)→∃vs n,IsL s.heap l vs.toArray n∧au G W xs vs)(hz:xs.length≤sizeLine):
  b7 G it xs cond fun W k o=>RV G W a (.ref l)∧o.cls = .type "list_iterator" ∧o.data = .fields #[.ref l,.int k 0] where
 item:=by
  intro W s A fm st k o x E Q R c fr ho ⟨ra,h1,h2⟩ hx h;obtain ⟨vs,n,hL,rs⟩:=hc c R ⟨_,ra,rfl⟩;obtain ⟨v,hv,rv⟩:=rs.get hx;refine wpAny_pyNext_list_item ⟨o,ho,h1,h2⟩ hL.isList (x:=v) (by simpa using hv) fun h' hit hs=>?_
  obtain ⟨o',g1,g2,g3⟩:=hit;exact h v _ W o' (.refl _) (R.extBut (t:=s.toks) hs.extBut fr.F fr.H fr.k) fr g1 ⟨ra,g2,by simpa using g3⟩ rv
 stop:=by
  intro W s A fm st o E Q hh R c fr ho ⟨ra,h1,h2⟩ h;obtain ⟨vs,n,hL,rs⟩:=hc c R ⟨_,ra,rfl⟩;refine wpAny_pyNext_list_end hh ⟨o,ho,h1,h2⟩ hL.isList (by simp [rs.length]) fun h' hs=>?_
  exact h _ (R.extBut (t:=s.toks) hs fr.F fr.H fr.k)
 mono:=fun h x=>⟨x.1.mono' h,x.2⟩
 self:=fun R ho x h=>wpAny_pyIter_listiter ⟨_,ho,x.2.1,x.2.2⟩ h
 owned:=fun R fr ho x h=>bV ho x.2.1 (by decide) (h _ _ R ho x)
theorem Iter.lst{a:AV}{xs:List AV}(hz:xs.length≤sizeLine):b5 G a xs fun st=>aM st a = some xs:=by
 intro W s A fm st E v Q c R ra h;obtain ⟨p,vs,n,rfl,hL,rs⟩:=R.lst ra c;refine wpAny_pyIter_list hL.isList ?_;refine h _ {cls:= .type "list_iterator",data:= .fields #[.ref p,.int 0 0]} _ (fun W k o=>RV G W a (.ref p)∧o.cls = .type "list_iterator" ∧o.data = .fields #[.ref p,.int k 0]) W (.refl _) (R.pushJ _ s.toks) (R.free (aw _)) (Heap.get?_push_size _ rfl)
  (pA _ (fun {W s fm st} c R hv=>?_) hz) ⟨ra,rfl,rfl⟩
 obtain ⟨v,rv,rfl⟩:=hv;obtain ⟨p',vs,n,e,hL,rs⟩:=R.lst rv c;cases e;exact ⟨vs,n,hL,rs⟩
theorem mK{it l:Addr}{xs:List AV}:b7 G it xs (fun Z=>True) fun W k o=>RV G W (.tup xs) (.ref l)∧o.cls = .type "tuple_iterator" ∧o.data = .fields #[.ref l,.int k 0] where
 item:=by
  intro W s A fm st k o x E Q R c fr ho ⟨ra,h1,h2⟩ hx h;obtain ⟨p,vs,n,e,hp,rs⟩:=R.tup ra;cases e;obtain ⟨v,hv,rv⟩:=rs.get hx;refine wpAny_pyNext_tuple_item ⟨o,ho,h1,h2⟩ ⟨_,hp,rfl,n,rfl⟩ (x:=v) (by simpa using hv) fun h' hit hs=>?_
  obtain ⟨o',g1,g2,g3⟩:=hit;exact h v _ W o' (.refl _) (R.extBut (t:=s.toks) hs.extBut fr.F fr.H fr.k) fr g1 ⟨ra,g2,by simpa using g3⟩ rv
 stop:=by
  intro W s A fm st o E Q hh R c fr ho ⟨ra,h1,h2⟩ h;obtain ⟨p,vs,n,e,hp,rs⟩:=R.tup ra;cases e;refine wpAny_pyNext_tuple_end hh ⟨o,ho,h1,h2⟩ ⟨_,hp,rfl,n,rfl⟩ (by simp [rs.length]) fun h' hs=>?_
  exact h _ (R.extBut (t:=s.toks) hs fr.F fr.H fr.k)
 mono:=fun h x=>⟨x.1.mono' h,x.2⟩
 self:=fun R ho x h=>wpAny_pyIter_tupleiter ⟨_,ho,x.2.1,x.2.2⟩ h
 owned:=fun R fr ho x h=>bV ho x.2.1 (by decide) (h _ _ R ho x)
theorem Iter.tup{xs:List AV}:b5 G (.tup xs) xs fun Z=>True:=by
 intro W s A fm st E v Q c R ra h;obtain ⟨p,vs,n,rfl,hp,rs⟩:=R.tup ra;refine wpAny_pyIter_tuple ⟨_,hp,rfl,n,rfl⟩ ?_;exact h _ {cls:= .type "tuple_iterator",data:= .fields #[.ref p,.int 0 0]} _ _ W (.refl _) (R.pushJ _ s.toks) (R.free (aw _)) (Heap.get?_push_size _ rfl) mK ⟨ra,rfl,rfl⟩
theorem gD{R:Result→Shared→Prop}{A:Around}{target:PySem.Expr}{it:Value}{body orelse:List Stmt}{env:Env}(I:Nat→Shared→Prop)
  (turn:∀n s,I n s→wpAny G.M A (pyNext it) (fun r s₁=>match r with
   | Option.none=>wpAny G.M A (execs orelse env) (fun f s₃=>R (.ok f) s₃) (fun Z Y=>False) s₁
   | some v=>wpAny G.M A (letOwnedTupleGo target it v) (fun Z s₁=>wpAny G.M A (PySem.assign target env v) (fun Z s₂=>wpAny G.M A (execs body env) (fun f s₃=>match f with
     | .next | .cont=>∃m,m < n∧I m s₃
     | .brk=>R (.ok .next) s₃
     | .ret v=>R (.ok (.ret v)) s₃) (fun Z Y=>False) s₂) (fun Z Y=>False) s₁) (fun Z Y=>False) s₁) (fun Z Y=>False) s)
  (n:Nat) (h:I n s):codeAny G.M A (.forLoop target it body orelse env) R s:=by
 refine codeAny_loop' rfl I (fun n s hI=>?_) n h;refine (wpAny_noted ?_:wpAny _ _ ((forTurn target it body orelse env).onRaise (fun x=>do noteFrame x env;theTreesLotGoes x)) _ _ s)
 simp only [forTurn];refine wpAny_bind (wpAny_standAt (wpAny_bind (wpAny_onRaise (wpAny_mono (turn n s hI) (fun r s₁ h₁=>?_) fun Z Y h'=>h'.elim))));cases r with
 | none=>exact wpAny_pure (.inr ⟨rfl,codeAny_block (wpAny_mono h₁ (fun Z Y z=>z) fun Z Y z=>z.elim)⟩)
 | some v=>
  refine wpAny_bind (wpAny_mono h₁ (fun Z s₁' h₁=>?_) fun Z Y z=>z.elim);refine wpAny_bind (wpAny_mono h₁ (fun Z s₂ h₂=>wpAny_bind (wpAny_mono h₂ (fun f s₃ h₃=>?_) fun Z Y h'=>h'.elim)) fun Z Y h'=>h'.elim);cases f with
  | next=>exact wpAny_pure (.inl ⟨rfl,h₃⟩)
  | cont=>exact wpAny_pure (.inl ⟨rfl,h₃⟩)
  | brk=>exact wpAny_pure h₃
  | ret v=>exact wpAny_pure h₃
set_option tactic.hygienic true in
noncomputable def sA(Q:AF→St→Prop)(I:St→Prop):AF→St→Prop
 | .next,st=>I st
 | .cont,st=>I st
 | .brk,st=>Q .next st
 | .ret v,st=>Q (.ret v) st
theorem aF.drop{W:Wd}{a:Addr}{o:Obj}(R:Rep G W fm st s)(h:W.H a = some o)(hl:∀k,(∀i,k≠ .obj i)→addrOf W fm k≠some a):aF (W.drop a) fm a:=by
 refine ⟨?_,if_pos rfl,fun k=>?_⟩
 ·show W.F a = Option.none;cases e:W.F a with
  | none=>rfl
  | some y=>rw [R.FH a y e] at h;cases h
 ·rw [bn];cases k with
  | obj i=>intro e;rw [R.alH i a e] at h;cases h
  | loc=>exact hl .loc (fun Z=>nofun)
  | cell y=>exact hl (.cell y) (fun Z=>nofun)
theorem dO{W W':Wd}{k:Key}(hk:∀i,k≠ .obj i):addrOf W fm k = addrOf W' fm k:=by
 cases k with
 | obj i=>exact absurd rfl (hk i)
 | loc=>rfl
 | cell y=>rfl
inductive Ae(G:Gd)(cx:Cx)(fm:Fm)(target:PySem.Expr)(body orelse:List Stmt)(Q:AF→St→Prop)(a:AV)(st₁:St):Prop
 | mk (xs:List AV) (cond:St→Prop) (hit:b5 G a xs cond) (I:Nat→St→Prop) (h0:I 0 st₁) (hc:∀k st',I k st'→cond st')
  (turn:∀k x st',xs[k]? = some x→I k st'→cY G cx fm cO target x st' fun st₂=>Ex G cx fm cO body st₂ (sA Q (I (k+1)))) (fin:∀st',I xs.length st'→Ex G cx fm cO orelse st' Q)
theorem an.for_{target iter:PySem.Expr}{body orelse:List Stmt}{pos:Pos}{Q:AF→St→Prop}(hc:cx.calm = true)
  (h:Ev G cx fm X iter st (Ae G cx fm target body orelse Q))
  (hs:∀env x,foldedSetIterable iter env x = Pure.pure x:=by intro _ _;rfl):an G cx fm X (.For target iter body orelse pos) st Q:=by
 intro W s A hA hW hR hT;refine wpAny_For (i9 hT (h W s A hA (bot_le _) hR hT) (fun v s₁ hT₁ z=>?_) fun Z Y V z=>z) (hs _);obtain ⟨W₁,st₁,a,le,R₁,ra,xs,cond,hit,I,h0,hcond,hturn,hend⟩:=z;refine hit.t hT₁ (hcond _ _ h0) R₁ ra fun it o s₂ ok W₂ hT₂ le₂ R₂ fr ho nx hok=>?_;have hl:∀k,(∀i,k≠ .obj i)→∀W,addrOf W fm k≠some it:=fun k hk W=>by rw [dO (W':=W₂) hk];exact fr.k k
 have houts:∀x av c,fm.out x = some av→fm.env.cells.lookup x = some c→c≠it:=fun x av c e1 e2 e3=>by
  obtain ⟨c',o',v',p,q,_⟩:=R₂.outs.out x av e1;rw [e2] at p;cases p;rw [e3,fr.H] at q;cases q
 refine gD (vG G W fm it ok I xs.length) (fun n s' hI=>?_) (xs.length+1)
  ⟨0,W₂,st₁,o,rfl,Nat.zero_le _,hT₂,le.trans le₂,R₂,fr,ho,hok,h0⟩
 obtain ⟨k,W',st',o',rfl,hk,hT',le',R',fr',ho',hok',hI⟩:=hI;cases hx:xs[k]? with
 | none=>
  have:k = xs.length:=by have:=List.getElem?_eq_none_iff.mp hx;change u5
  subst this;refine nx.stopT hT' (hA.calm hc) R' (hcond _ _ hI) fr' ho' hok' fun s₃ hT₃ R₃=>?_;refine wpAny_mono (hend _ hI W' s₃ A hA (bot_le _) R₃ hT₃) (fun f s₄ z=>?_) fun Z Y z=>z.no;exact z.le le'
 | some x=>
  have hkl:k < xs.length:=(gS hx).1;refine nx.itemT hT' R' (hcond _ _ hI) fr' ho' hok' hx fun v s₃ W₃ o₃ hT₃ le₃ R₃ fr₃ ho₃ hok₃ rv=>?_;refine nx.ownedT hT₃ R₃ fr₃ ho₃ hok₃ fun s₃ o₃ hT₃ R₃ ho₃ hok₃=>?_;have RH:=R₃.hold ho₃ fr₃.F fr₃.H fr₃.k;have leH:=Wd.le_hold (W:=W₃) o₃ fr₃.H;refine i9 hT₃ (hturn k x st' hx hI _ v (rv.mono leH) _ s₃ A hA (.refl _) RH hT₃) (fun Z s₄ hT₄ z=>?_) fun Z Y V z=>z.no;obtain ⟨W₄,st₄,_,le₄,R₄,_,hb⟩:=z;refine i9 hT₄ (hb W₄ s₄ A hA (bot_le _) R₄ hT₄) (fun f s₅ hT₅ z=>?_) fun Z Y V z=>z.no;obtain ⟨W₅,st₅,af,le₅,R₅,rf,hq⟩:=z;have hH:W₅.H it = some o₃:=le₅.H _ _ (le₄.H _ _ (if_pos rfl));have hS:W₅.S it = false:=((le₄.trans le₅).S _ _ (if_pos rfl)).trans (if_pos rfl);have leW:W.Le W₅:=(((le'.trans le₃).trans leH).trans le₄).trans le₅;have again:I (k+1) st₅→∃m,m < xs.length+1 - k∧vG G W fm it ok I xs.length m s₅:=fun hI'=>by
   refine ⟨xs.length+1 - (k+1),by change uE,k+1,W₅.drop it,st₅,o₃,rfl,hkl,hT₅,Wd.le_drop ?_ leW,R₅.drop houts hS,aF.drop R₅ hH (fun k hk=>hl k hk _),R₅.heldX hH hS,?_,hI'⟩
   ·cases e:W.H it with
    | none=>rfl
    | some y=>have:=le'.H _ _ e;rw [fr'.H] at this;cases this
   ·exact nx.mono (W₅.lf_drop it) (nx.mono (leH.trans (le₄.trans le₅)).lf hok₃)
  cases af with
  | next=>cases rf;exact again hq
  | cont=>cases rf;exact again hq
  | brk=>cases rf;exact ⟨W₅,st₅,.next,leW,R₅,rfl,hq⟩
  | ret y=>obtain ⟨v',rfl,rv'⟩:=rf;exact ⟨W₅,st₅,.ret y,leW,R₅,⟨v',rfl,rv'⟩,hq⟩
end
end
section
section
variable {G:Gd}{cx:Cx}{fm:Fm}{X:Value→St→Prop}{W₀ W:Wd}{st:St}{s:Shared}{Q:AV→St→Prop}
inductive zR(I:Nat→St→Prop)(n:Nat)(st:St):Prop
 | mk (m:Nat) (h:m < n) (i:I m st)
inductive BI(G:Gd)(W:Wd)(fm:Fm)(I:Nat→St→Prop)(n:Nat)(s':Shared):Prop
 | mk (W':Wd) (st':St) (hT:0 < s'.toks) (le:W.Le W') (R:Rep G W' fm st' s') (i:I n st')
theorem an.while_{test:PySem.Expr}{body orelse:List Stmt}{pos:Pos}{Q:AF→St→Prop}(I:Nat→St→Prop)(n:Nat)(h0:I n st)
  (turn:∀n st',I n st'→bj G cx fm cO test st' fun b st₁=>if b then Ex G cx fm cO body st₁ (sA Q (zR I n)) else Ex G cx fm cO orelse st₁ Q):
  an G cx fm X (.While test body orelse pos) st Q:=by
 intro W s A hA hW hR hT;refine wpAny_While (codeAny_whileLoop (BI G W fm I) (fun n s' hI=>?_) n ⟨W,st,hT,.refl _,hR,h0⟩);obtain ⟨W',st',hT',le,R',hI⟩:=hI;refine i9 hT' (turn n st' hI W' s' A hA (bot_le _) R' hT') (fun b s₁ hT₁ z=>?_) fun Z Y V z=>z.no.elim;obtain ⟨W₁,st₁,b',le₁,R₁,rb,hb⟩:=z;cases rb;cases b with
 | false=>
  simp only [Bool.false_eq_true,if_false] at hb ⊢;exact wpAny_mono (hb W₁ s₁ A hA (bot_le _) R₁ hT₁) (fun f s₂ z=>z.le (le.trans le₁)) fun Z Y z=>z.no.elim
 | true=>
  simp only [if_true] at hb ⊢;refine i9 hT₁ (hb W₁ s₁ A hA (bot_le _) R₁ hT₁) (fun f s₂ hT₂ z=>?_) fun Z Y V z=>z.no.elim;obtain ⟨W₂,st₂,af,le₂,R₂,rf,hq⟩:=z;have leW:=(le.trans le₁).trans le₂;cases af with
  | next=>cases rf;obtain ⟨m,hm,hI'⟩:=hq;exact ⟨m,hm,W₂,st₂,hT₂,leW,R₂,hI'⟩
  | cont=>cases rf;obtain ⟨m,hm,hI'⟩:=hq;exact ⟨m,hm,W₂,st₂,hT₂,leW,R₂,hI'⟩
  | brk=>cases rf;exact ⟨W₂,st₂,.next,leW,R₂,rfl,hq⟩
  | ret y=>obtain ⟨v',rfl,rv'⟩:=rf;exact ⟨W₂,st₂,.ret y,leW,R₂,⟨v',rfl,rv'⟩,hq⟩
theorem iI(R:Rep G W fm st s):interactive fm.env = false:=by unfold interactive;rw [R.ok.fn];rfl
set_option tactic.hygienic true in
noncomputable abbrev zX(Q:AF→St→Prop):AV→St→Prop:=fun Z st₁=>Q .next st₁
theorem an.expr{e:PySem.Expr}{pos:Pos}{Q:AF→St→Prop}(h:Ev G cx fm X e st (zX Q))(hs:∀env,swapsWith e Option.none pos.line env = Pure.pure false:=by intro _;rfl):an G cx fm X (.Expr e pos) st Q:=by
 intro W s A hA hW hR hT;exact wpAny_Expr_any (wpAny_mono (h W s A hA hW hR hT) (fun v s' z=>by obtain ⟨W',st',a,p,q,r,x⟩:=z;exact ⟨W',st',.next,p,q,rfl,x⟩) fun Z Y z=>z) (iI hR) (hs _)
noncomputable abbrev wi(x:Str)(Q:AF→St→Prop):AV→St→Prop:=fun r st₃=>Q .next (st₃.setLoc x r)
noncomputable abbrev v8(G:Gd)(cx:Cx)(fm:Fm)(X:Value→St→Prop)(x:Str)(op:Operator)(a:AV)(Q:AF→St→Prop):AV→St→Prop:=fun b st₂=>i6 G cx fm X op a b st₂ (wi x Q)
noncomputable abbrev zH(G:Gd)(cx:Cx)(fm:Fm)(X:Value→St→Prop)(x:Str)(op:Operator)(value:PySem.Expr)(Q:AF→St→Prop):AV→St→Prop:=fun a st₁=>Ev G cx fm X value st₁ (v8 G cx fm X x op a Q)
theorem an.augName{x:Str}{npos pos:Pos}{op:Operator}{value:PySem.Expr}{Q:AF→St→Prop}(hl:aX fm x)
  (h:J G cx fm X bot (loadName fm.env x) (RV G) st (zH G cx fm X x op value Q)):an G cx fm X (.AugAssign (.Name x npos) op value pos) st Q:=by
 unfold an;rw [exec_AugAssign_Name];refine J.standAt (J.bind (J.mono h (fun a st₁ h₁ W₁ v Z ra=>?_) fun Z Y z=>z));refine J.bind (J.holding (J.mono (J.from h₁) (fun b st₂ h₂ W₂ u le rb=>J.standAt ?_) fun Z Y z=>z));refine J.bind (J.operate (J.mono (h₂ W₂ v u (ra.mono le) rb) (fun r st₃ h₃ W₃ y le₃ rr=>J.standAt ?_) fun Z Y z=>z));exact J.bind (ik hl rr fun W₄ Z Y V=>J.pure (b:=AF.next) (fun Z Y=>rfl) h₃)
noncomputable def intsFrom(a:Int)(n:Nat):List AV:=(List.range n).map fun (k:Nat)=> .int (a+(k:Int))
theorem mZ{it:Addr}{a:Int}{n:Nat}:b7 G it (intsFrom a n) (fun Z=>True) fun W k o=>o ={cls:= .type "range_iterator",dict:=Option.none,data:= .fields #[rawInt (a+k),rawInt ((n:Int) - k),rawInt 1],slots:=#[]}∧k≤n where
 item:=by
  intro W s A fm st k o x E Q R c fr ho hok hx h;obtain ⟨rfl,_⟩:=hok;have hk:k < n:=by have:=(gS hx).1;simpa [intsFrom] using this
  have hxe:x = .int (a+k):=by simp [intsFrom,hk] at hx;exact hx.symm
  subst hxe;refine wpAny_pyNext_range_item ho (by change yQ) fun h' hit hs=>?_
  exact h _ _ W _ (.refl _) (R.extBut (t:=s.toks+1) hs.extBut fr.F fr.H fr.k) fr hit ⟨by congr 3 <;> simp [rawInt] <;> exact ⟨Int.add_assoc _ _ _,Int.sub_sub _ _ _⟩,hk⟩ (by simp)
 stop:=by
  intro W s A fm st o E Q hh R c fr ho hok h;obtain ⟨rfl,_⟩:=hok;refine wpAny_pyNext_range_end hh ho (by simp [intsFrom]) fun h' hs=>?_
  exact h _ (R.extBut (t:=s.toks) hs fr.F fr.H fr.k)
 mono:=fun h x=>x
 self:=fun R ho x h=>wpAny_pyIter_rangeiter (x.1▸ho) h
 owned:=fun R fr ho x h=>bV ho (n:= "range_iterator") (by rw [x.1]) (by decide) (h _ _ R ho x)
set_option tactic.hygienic true in
theorem Iter.rng{a b:Int}(ha:0≤a)(ha':a≤2 ^ 40)(hb0:0≤b)(hb:b≤2 ^ 40):b5 G (.rng a b) (intsFrom a (b - a).toNat) fun Z=>True:=by
 intro W s A fm st E v Q c R ra h;obtain ⟨p,t,t',t'',rfl,hF⟩:=ra;refine wpAny_pyIter_range (R.frozen _ _ hF) (small_one (by change xW) (by change wK) (by change xW) (by change wK)) ?_
 refine h _ _ _ _ W (.refl _) (R.pushJ _ s.toks) (R.free (aw _)) (Heap.get?_push_size _ rfl) mZ ⟨?_,Nat.zero_le _⟩;have e:Builtin.Range.rangeSize a b 1 =((b - a).toNat:Int):=by
  rw [rangeSize_one]
  split
  ·rename_i h;exact (Int.toNat_of_nonneg (Int.sub_nonneg_of_le (Int.le_of_lt h))).symm
  ·rename_i h;rw [Int.toNat_eq_zero.mpr (Int.sub_nonpos_of_le (Int.not_lt.mp h))];rfl
 rw [e];simp [rawInt]
theorem Cal.range1{n:Int}(h:Q (.rng 0 n) st):bB G cx fm X (.type "range") [.int n] st Q:=by
 intro W₀ vs rs W s A hA hW hR hT;obtain ⟨v,r,rfl,⟨t,rfl⟩,rfl⟩:=rs;refine call_range_1 ?_;obtain ⟨le,R'⟩:=hR.pushF {cls:= .type "range",data:= .fields #[.int 0 s.toks,.int n t,.int 1 (s.toks+1)]} (s.toks+1+1);exact ⟨_,st,_,le,R',by exact u3.mk _ _ _ _ rfl (if_pos rfl),h⟩
theorem fP(O:G.Ok)(R:Rep G W fm st s){a:AV}{d:Addr}{ks:List Str}{l:List AV}(ha:RV G W a (.ref d))(hl:fB st a = some (ks,l)):(d == sysModules)= false:=by
 have key:d≠sysModules:=by
  cases a with
  | dct ks' l'=>
   obtain ⟨p,o,vs,e,hF,hs,hv⟩:=ha;cases e;exact hs.1
  | ref i=>
   obtain ⟨o',e,hl⟩:=Option.bind_eq_some_iff.mp hl;cases o' with
   | dict ks' l' ep'=>
    obtain ⟨p,ee,hp⟩:=ha;cases ee;obtain ⟨p',o,h1,h2,h3,vs,h4,h5⟩:=R.live (.obj i) _ e;rw [show addrOf W fm (.obj i)= W.al i from rfl,hp] at h1;cases h1;intro e;subst e;obtain ⟨mm,⟨o',_,_,ho',_⟩,_⟩:=O.seer.mods;rw [R.base _ _ ho'] at h2;cases h2.1
   | _=>cases hl
  | _=>cases hl
 simpa using key
theorem dictAt{h:Heap}{p:Addr}{o:Obj}{ks:List Str}{vs:List Value}{ep:Nat}(ho:h.get? p = some o)(hd:ew G o ks vs ep):h.DictAt (strKind G.prog G.w) p (ks.zip vs) ep:=by
 obtain ⟨e1,es,e2,e3,e4,e5,e6⟩:=hd;exact ⟨o,es,ho,e1,e2,e3,e4,by rw [List.map_fst_zip (qE e5)];exact e6⟩
noncomputable def dctE(st:St)(i:Nat)(ks:List Str)(l:List AV)(ep:Nat):Prop:=st.hp i = some (.dict ks l ep)
inductive uJ(G:Gd)(h:Heap)(ks:List Str)(ep:Nat)(P:List Value→Prop)(v:Value):Prop
 | mk (p:Addr) (o:Obj) (vs:List Value) (e:v = .ref p) (g:h.get? p = some o) (q:ew G o ks vs ep) (r:P vs)
theorem Rep.dctE(R:Rep G W fm st s){i:Nat}{v:Value}{ks:List Str}{l:List AV}{ep:Nat}(ha:RV G W (.ref i) v)(hl:dctE st i ks l ep):uJ G s.heap ks ep (au G W l) v:=by
 obtain ⟨p,rfl,hp⟩:=ha;obtain ⟨p',o,h1,h2,h3,vs,h4,h5⟩:=R.live (.obj i) _ hl;rw [show addrOf W fm (.obj i)= W.al i from rfl,hp] at h1;cases h1;exact ⟨p,o,vs,rfl,h3,h4,h5⟩
theorem pb{it d:Addr}{i:Nat}{ks:List Str}{l:List AV}{ep:Nat}:b7 G it (ks.map .str) (fun st=>dctE st i ks l ep)
  fun W k o=>W.al i = some d∧o.cls = .type "dict_keyiterator" ∧o.data = .fields #[.ref d,.int k 0,.int ks.length 0,.int ep 0] where
 item:=by
  intro W s A fm st k o x E Q R c fr ho ⟨ra,h1,h2⟩ hx h;obtain ⟨p,od,vs,e,hp,hd,rs⟩:=R.dctE (v:= .ref d) (eJ.mk d rfl ra) c;cases e;have hlen:ks.length = vs.length:=by obtain ⟨_,es,_,_,_,e5,_⟩:=hd;exact e5
  have hk:k < ks.length:=by have:=(gS hx).1;simpa using this
  have hxe:x = .str ks[k]:=by simp [hk] at hx;exact hx.symm
  subst hxe;have hzl:(ks.zip vs).length = ks.length:=by simp [hlen]
  refine wpAny_pyNext_dict_item (knd:=strKind G.prog G.w) (kvs:=ks.zip vs) (i:=k) (ep:=ep) (k:=ks[k]) (v:=vs[k]'(hlen▸hk)) ⟨o,ho,h1,by rw [hzl];exact h2⟩ (dictAt hp hd) (by rw [List.getElem?_zip_eq_some];simp [hk,hlen▸hk]) fun key h' hkey hit hs=>?_
  obtain ⟨t,rfl⟩:=Value.isStrOf_shape hkey;obtain ⟨o',g1,g2,g3⟩:=hit;exact h _ _ W o' (.refl _) (R.extBut (t:=s.toks) hs.extBut fr.F fr.H fr.k) fr g1 ⟨ra,g2,by rw [hzl] at g3;simpa using g3⟩ (by simp)
 stop:=by
  intro W s A fm st o E Q hh R c fr ho ⟨ra,h1,h2⟩ h;obtain ⟨p,od,vs,e,hp,hd,rs⟩:=R.dctE (v:= .ref d) (eJ.mk d rfl ra) c;cases e;have hlen:ks.length = vs.length:=by obtain ⟨_,es,_,_,_,e5,_⟩:=hd;exact e5
  have hzl:(ks.zip vs).length = ks.length:=by simp [hlen]
  refine wpAny_pyNext_dict_end (knd:=strKind G.prog G.w) (kvs:=ks.zip vs) (i:=ks.length) (ep:=ep) hh ⟨o,ho,h1,by rw [hzl];simpa using h2⟩ (dictAt hp hd) (by simp [hlen]) fun h' hs=>?_
  exact h _ (R.extBut (t:=s.toks) hs fr.F fr.H fr.k)
 mono:=fun h x=>⟨h.al _ _ x.1,x.2⟩
 self:=fun R ho x h=>wpAny_pyIter_keyiter ⟨_,ho,x.2.1,x.2.2⟩ h
 owned:=fun R fr ho x h=>bV ho x.2.1 (by decide) (h _ _ R ho x)
theorem Iter.keys(O:G.Ok){i:Nat}{ks:List Str}{l:List AV}{ep:Nat}:b5 G (.ref i) (ks.map .str) fun st=>dctE st i ks l ep:=by
 intro W s A fm st E v Q c R ra h;obtain ⟨p,od,vs,rfl,hp,hd,rs⟩:=R.dctE ra c;have hlen:ks.length = vs.length:=by obtain ⟨_,es,_,_,_,e5,_⟩:=hd;exact e5
 have hzl:(ks.zip vs).length = ks.length:=by simp [hlen]
 refine wpAny_pyIter_dict (knd:=strKind G.prog G.w) (fP O R ra (ks:=ks) (l:=l) (bv c)) (dictAt hp hd) ?_;rw [hzl];obtain ⟨p',e,hal⟩:=ra;cases e;exact h _ {cls:= .type "dict_keyiterator",data:= .fields #[.ref p,.int 0 0,.int ks.length 0,.int ep 0]} _ _ W (.refl _) (R.pushJ _ s.toks) (R.free (aw _)) (Heap.get?_push_size _ rfl) pb ⟨hal,rfl,rfl⟩
theorem la{it d:Addr}{i:Nat}{ks:List Str}{l:List AV}{ep:Nat}:b7 G it l (fun st=>dctE st i ks l ep)
  fun W k o=>W.al i = some d∧o.cls = .type "dict_valueiterator" ∧o.data = .fields #[.ref d,.int k 0,.int l.length 0,.int ep 0] where
 item:=by
  intro W s A fm st k o x E Q R c fr ho ⟨ra,h1,h2⟩ hx h;obtain ⟨p,od,vs,e,hp,hd,rs⟩:=R.dctE (v:= .ref d) (eJ.mk d rfl ra) c;cases e;have hlen:ks.length = vs.length:=by obtain ⟨_,es,_,_,_,e5,_⟩:=hd;exact e5
  have hlv:=rs.length;obtain ⟨v,hv,rv⟩:=rs.get hx;have hk:k < vs.length:=(gS hv).1;have hzl:(ks.zip vs).length = l.length:=by simp [hlen,hlv]
  refine wpAny_pyNext_values_item (knd:=strKind G.prog G.w) (kvs:=ks.zip vs) (i:=k) (ep:=ep) (k:=ks[k]'(hlen▸hk)) (v:=v) ⟨o,ho,h1,by rw [hzl];exact h2⟩ (dictAt hp hd) (by rw [List.getElem?_zip_eq_some];simp [hlen▸hk,hv]) fun h' hit hs=>?_
  obtain ⟨o',g1,g2,g3⟩:=hit;exact h _ _ W o' (.refl _) (R.extBut (t:=s.toks) hs.extBut fr.F fr.H fr.k) fr g1 ⟨ra,g2,by rw [hzl] at g3;simpa using g3⟩ rv
 stop:=by
  intro W s A fm st o E Q hh R c fr ho ⟨ra,h1,h2⟩ h;obtain ⟨p,od,vs,e,hp,hd,rs⟩:=R.dctE (v:= .ref d) (eJ.mk d rfl ra) c;cases e;have hlen:ks.length = vs.length:=by obtain ⟨_,es,_,_,_,e5,_⟩:=hd;exact e5
  have hlv:=rs.length;have hzl:(ks.zip vs).length = l.length:=by simp [hlen,hlv]
  refine wpAny_pyNext_values_end (knd:=strKind G.prog G.w) (kvs:=ks.zip vs) (i:=l.length) (ep:=ep) hh ⟨o,ho,h1,by rw [hzl];exact h2⟩ (dictAt hp hd) (by simp [hlen,hlv]) fun h' hs=>?_
  exact h _ (R.extBut (t:=s.toks) hs fr.F fr.H fr.k)
 mono:=fun h x=>⟨h.al _ _ x.1,x.2⟩
 self:=fun R ho x h=>wpAny_pyIter_valiter ⟨_,ho,x.2.1,x.2.2⟩ h
 owned:=fun R fr ho x h=>bV ho x.2.1 (by decide) (h _ _ R ho x)
theorem Iter.values{i:Nat}{ks:List Str}{l:List AV}{ep:Nat}:b5 G (.vals (.ref i)) l fun st=>dctE st i ks l ep:=by
 intro W s A fm st E v Q c R ra h;obtain ⟨va,ov,u,rfl,hF,hc,hdv,d,rfl,hal⟩:=ra;obtain ⟨p,od,vs,e,hp,hd,rs⟩:=R.dctE (v:= .ref d) (eJ.mk d rfl hal) c;cases e;have hlen:ks.length = vs.length:=by obtain ⟨_,es,_,_,_,e5,_⟩:=hd;exact e5
 have hlv:=rs.length;have hzl:(ks.zip vs).length = l.length:=by simp [hlen,hlv]
 refine wpAny_pyIter_values (knd:=strKind G.prog G.w) ⟨ov,R.frozen _ _ hF,hc,hdv⟩ (dictAt hp hd) ?_;rw [hzl];exact h _ {cls:= .type "dict_valueiterator",data:= .fields #[.ref d,.int 0 0,.int l.length 0,.int ep 0]} _ _ W (.refl _) (R.pushJ _ s.toks) (R.free (aw _)) (Heap.get?_push_size _ rfl) la ⟨hal,rfl,rfl⟩
end
end
section
noncomputable def iS(ifs:List PySem.Expr)(env:Env):Sem Bool:=forIn ifs true fun c r=>if r = true then do let ok ← isTrue c env (eval c env);Pure.pure (ForInStep.yield ok) else Pure.pure (ForInStep.yield r)
noncomputable def eU(p:Pos)(it:Value)(target:PySem.Expr)(env:Env)(tst:Sem Bool)(aft:Sem Fin)(c:Code):Sem Fin:=
 standAt p >>= fun Z=>pyNext it >>= fun r=>match r with
  | Option.none=>Pure.pure (.done .next)
  | some v=>letOwnedTupleGo target it v >>= fun Z=>assign target env v >>= fun Z=>tst >>= fun ok=>if ok = true then aft else again c
noncomputable def jq(elt:PySem.Expr)(acc:Value)(env:Env):Sem Unit:=do let x ← eval elt env;let _ ← call (.builtin "list.append") [acc,x]
noncomputable def jw(k v:PySem.Expr)(d:Addr)(env:Env):Sem Unit:=do
    let kv ← eval k env
    let vv ← holding [kv] (eval v env)
    standAt {k.pos with endLine:=v.pos.endLine,endCol:=v.pos.endCol}
    holding [kv,vv] (dictSet d kv vv)
noncomputable def kL(e:PySem.Expr)(iter:PySem.Expr)(acc:Value)(env:Env)(c:Code):Sem Fin:=do
    let x ← eval iter env
    standAt iter.pos
    let x ← foldedSetIterable iter env x
    let _ ← runOwn (.compStart e 1 (← holding [x] (pyIter x)) acc env) env
    again c
theorem gU(elt target iter:PySem.Expr)(ifs:List PySem.Expr)(scope:Scope)(pos:Pos)(it acc:Value)(env:Env):
  compTurn (.ListComp elt [⟨target,iter,ifs,0⟩] scope pos) 0 it acc env = eU iter.pos it target env (iS ifs env) (jq elt acc env >>= fun Z=>again (.compLoop (.ListComp elt [⟨target,iter,ifs,0⟩] scope pos) 0 it acc env)) (.compLoop (.ListComp elt [⟨target,iter,ifs,0⟩] scope pos) 0 it acc env):=by rfl
theorem sz(elt target iter:PySem.Expr)(ifs:List PySem.Expr)(t1 i1:PySem.Expr)(ifs1:List PySem.Expr)(scope:Scope)(pos:Pos)(it acc:Value)(env:Env):
  compTurn (.ListComp elt [⟨target,iter,ifs,0⟩,⟨t1,i1,ifs1,0⟩] scope pos) 0 it acc env = eU iter.pos it target env (iS ifs env) (kL (.ListComp elt [⟨target,iter,ifs,0⟩,⟨t1,i1,ifs1,0⟩] scope pos) i1 acc env (.compLoop (.ListComp elt [⟨target,iter,ifs,0⟩,⟨t1,i1,ifs1,0⟩] scope pos) 0 it acc env)) (.compLoop (.ListComp elt [⟨target,iter,ifs,0⟩,⟨t1,i1,ifs1,0⟩] scope pos) 0 it acc env):=by rfl
theorem r6(elt target iter:PySem.Expr)(ifs:List PySem.Expr)(t1 i1:PySem.Expr)(ifs1:List PySem.Expr)(scope:Scope)(pos:Pos)(it acc:Value)(env:Env):
  compTurn (.ListComp elt [⟨target,iter,ifs,0⟩,⟨t1,i1,ifs1,0⟩] scope pos) 1 it acc env = eU i1.pos it t1 env (iS ifs1 env) (jq elt acc env >>= fun Z=>again (.compLoop (.ListComp elt [⟨target,iter,ifs,0⟩,⟨t1,i1,ifs1,0⟩] scope pos) 1 it acc env)) (.compLoop (.ListComp elt [⟨target,iter,ifs,0⟩,⟨t1,i1,ifs1,0⟩] scope pos) 1 it acc env):=by rfl
theorem tP(k v target iter:PySem.Expr)(ifs:List PySem.Expr)(scope:Scope)(pos:Pos)(it:Value)(d:Addr)(env:Env):
  compTurn (.DictComp k v [⟨target,iter,ifs,0⟩] scope pos) 0 it (.ref d) env = eU iter.pos it target env (iS ifs env) (jw k v d env >>= fun Z=>again (.compLoop (.DictComp k v [⟨target,iter,ifs,0⟩] scope pos) 0 it (.ref d) env)) (.compLoop (.DictComp k v [⟨target,iter,ifs,0⟩] scope pos) 0 it (.ref d) env):=by rfl
theorem sh(k v target iter:PySem.Expr)(ifs:List PySem.Expr)(t1 i1:PySem.Expr)(ifs1:List PySem.Expr)(scope:Scope)(pos:Pos)(it acc:Value)(env:Env):
  compTurn (.DictComp k v [⟨target,iter,ifs,0⟩,⟨t1,i1,ifs1,0⟩] scope pos) 0 it acc env = eU iter.pos it target env (iS ifs env) (kL (.DictComp k v [⟨target,iter,ifs,0⟩,⟨t1,i1,ifs1,0⟩] scope pos) i1 acc env (.compLoop (.DictComp k v [⟨target,iter,ifs,0⟩,⟨t1,i1,ifs1,0⟩] scope pos) 0 it acc env)) (.compLoop (.DictComp k v [⟨target,iter,ifs,0⟩,⟨t1,i1,ifs1,0⟩] scope pos) 0 it acc env):=by rfl
theorem kN(k v target iter:PySem.Expr)(ifs:List PySem.Expr)(t1 i1:PySem.Expr)(ifs1:List PySem.Expr)(scope:Scope)(pos:Pos)(it:Value)(d:Addr)(env:Env):
  compTurn (.DictComp k v [⟨target,iter,ifs,0⟩,⟨t1,i1,ifs1,0⟩] scope pos) 1 it (.ref d) env = eU i1.pos it t1 env (iS ifs1 env) (jw k v d env >>= fun Z=>again (.compLoop (.DictComp k v [⟨target,iter,ifs,0⟩,⟨t1,i1,ifs1,0⟩] scope pos) 1 it (.ref d) env)) (.compLoop (.DictComp k v [⟨target,iter,ifs,0⟩,⟨t1,i1,ifs1,0⟩] scope pos) 1 it (.ref d) env):=by rfl
section
variable {G:Gd}{cx:Cx}{fm:Fm}{X:Value→St→Prop}{W₀ W:Wd}{st:St}{s:Shared}{Q:AV→St→Prop}
structure AK(β:Type) where
 AR:Wd→β→Obj→Prop
 mono:∀{W W' b o},W.Lf W'→AR W b o→AR W' b o
structure gR{β:Type}(G:Gd)(W:Wd)(fm:Fm)(st:St)(K:AK β)(ad:Addr)(b:β)(s:Shared):Prop where
 tk:0 < s.toks
 rep:Rep G W fm st s
 free:aF W fm ad
 obj:∃o,s.heap.get? ad = some o∧K.AR W b o
theorem Rep.outs_ne(R:Rep G W fm st s){a:Addr}(h:W.H a = Option.none):∀x av c,fm.out x = some av→fm.env.cells.lookup x = some c→c≠a:=fun x av c e1 e2 e3=>by
 obtain ⟨c',o',v',p,q,_⟩:=R.outs.out x av e1;rw [e2] at p;cases p;rw [e3,h] at q;cases q
theorem aF.frame{a:Addr}(h:aF W fm a):∀k,(∀i,k≠ .obj i)→∀W',addrOf W' fm k≠some a:=fun k hk W'=>by rw [dO (W':=W) hk];exact h.k k
theorem Wd.Le.Hnone{W W':Wd}(le:W.Le W'){a:Addr}(h:W'.H a = Option.none):W.H a = Option.none:=by
 cases e:W.H a with
 | none=>rfl
 | some y=>rw [le.H _ _ e] at h;cases h
theorem Rep.unhold{W W':Wd}{st':St}{s':Shared}{a:Addr}{o:Obj}(R:Rep G W fm st s)(fr:aF W fm a)(R':Rep G W' fm st' s')(le:(W.hold a o).Le W'):
  W.Le (W'.drop a)∧Rep G (W'.drop a) fm st' s'∧aF (W'.drop a) fm a∧s'.heap.get? a = some o:=by
 have hH:W'.H a = some o:=le.H _ _ (if_pos rfl);have hS:W'.S a = false:=(le.S _ _ (if_pos rfl)).trans (if_pos rfl);exact ⟨Wd.le_drop fr.H ((Wd.le_hold o fr.H).trans le),R'.drop (R.outs_ne fr.H) hS,aF.drop R' hH (fun k hk=>fr.frame k hk _),R'.heldX hH hS⟩
theorem aF.hold{a b:Addr}{o:Obj}(h:aF W fm a)(hab:a≠b):aF (W.hold b o) fm a:=⟨h.F,(if_neg hab).trans h.H,fun k=>by rw [bT];exact h.k k⟩
inductive As{α γ β:Type}(G:Gd)(W:Wd)(fm:Fm)(K:AK β)(ad:Addr)(b:β)(R:Wd→γ→α→Prop)(Q:γ→St→Prop)(a:α)(s':Shared):Prop
 | mk (W':Wd) (st':St) (c:γ) (le:W.Le W') (R':gR G W' fm st' K ad b s') (r:R W' c a) (q:Q c st')
theorem gR.sub{α γ β:Type}{K:AK β}{ad:Addr}{b:β}{A:Around}{t:Sem α}{R:Wd→γ→α→Prop}{Q:γ→St→Prop}(hRm:∀{W W' c a},W.Lf W'→R W c a→R W' c a)
  (RA:gR G W fm st K ad b s) (hA:cx.In fm A) (hW:W₀.Le W) (h:J G cx fm cO W₀ t R st Q):
  wpAny G.M A t (As G W fm K ad b R Q) (fun Z Y=>False) s:=by
 obtain ⟨o,ho,ar⟩:=RA.obj;refine i9 RA.tk (h _ s A hA (hW.trans (Wd.le_hold o RA.free.H)) (RA.rep.hold ho RA.free.F RA.free.H RA.free.k) RA.tk) (fun a s' hT' z=>?_) fun Z Y V z=>z.no;obtain ⟨W',st',c,le,R',r,q⟩:=z;obtain ⟨le',R'',fr,ho'⟩:=RA.rep.unhold RA.free R' le;exact ⟨W'.drop ad,st',c,le',⟨hT',R'',fr,o,ho',K.mono le'.lf ar⟩,hRm (W'.lf_drop ad) r,q⟩
noncomputable def dq(G:Gd)(cx:Cx)(fm:Fm)(ifs:List PySem.Expr)(st:St)(Q:Bool→St→Prop):Prop:=J G cx fm cO bot (iS ifs fm.env) RB st Q
theorem dq.nil{Q:Bool→St→Prop}(h:Q true st):dq G cx fm [] st Q:=J.pure (b:=true) (fun Z Y=>rfl) h
theorem dq.one{c:PySem.Expr}{Q:Bool→St→Prop}(h:bj G cx fm cO c st Q):dq G cx fm [c] st Q:=by
 unfold dq iS;rw [List.forIn_cons];refine J.bind (R₁:=fun W (b:Bool) r=>r = ForInStep.yield b) (J.mono (X':=cO) (Q':=Q) ?_ (fun b st' q W₁ a le r=>?_) fun Z Y z=>z)
 ·refine J.bind (J.mono h (fun b st₁ q W₁ a le r=>J.pure (b:=b) (fun Z Y=>by cases r;rfl) q) fun Z Y z=>z)
 ·subst r;dsimp only;rw [List.forIn_nil];exact J.pure (b:=b) (fun Z Y=>rfl) q
noncomputable def qn{β:Type}(G:Gd)(cx:Cx)(fm:Fm)(K:AK β)(ad:Addr)(c:Code)(aft:Sem Fin)(st:St)(b:β)(Q:St→β→Prop):Prop:=
 ∀W s A,cx.In fm A→gR G W fm st K ad b s→wpAny G.M A aft (fun fin s'=>fin = .again c∧∃W' st' b',W.Le W'∧gR G W' fm st' K ad b' s'∧Q st' b') (fun Z Y=>False) s
inductive CompI{β:Type}(G:Gd)(W:Wd)(fm:Fm)(K:AK β)(ad it:Addr)(ok:Wd→Nat→Obj→Prop)(I:Nat→St→β→Prop)(N n:Nat)(s':Shared):Prop
 | mk (k:Nat) (W':Wd) (st':St) (b':β) (o':Obj) (e:n = N+1 - k) (hk:k≤N) (le:W.Le W') (R:gR G W' fm st' K ad b' s') (fr:aF W' fm it) (ho:s'.heap.get? it = some o') (hok:ok W' k o') (i:I k st' b')
theorem ie{β:Type}{K:AK β}{e:PySem.Expr}{d:Nat}{it ad:Addr}{A:Around}{p:Pos}{target:PySem.Expr}{ifs:List PySem.Expr}{aft:Sem Fin}{xs:List AV}{cond:St→Prop}{ok:Wd→Nat→Obj→Prop}(hc:cx.calm = true)
  (hturn:compTurn e d (.ref it) (.ref ad) fm.env = eU p (.ref it) target fm.env (iS ifs fm.env) aft (.compLoop e d (.ref it) (.ref ad) fm.env))
  (hq:(Code.compLoop e d (.ref it) (.ref ad) fm.env).quiet = true) (hfr:(Code.compLoop e d (.ref it) (.ref ad) fm.env).isFrame = false) (hund:∀A:Around,A.under (Code.compLoop e d (.ref it) (.ref ad) fm.env)= A)
  (nx:b7 G it xs cond ok) (hne:it≠ad) (I:Nat→St→β→Prop) (hcond:∀k st b,I k st b→cond st)
  (turn:∀k x st b,xs[k]? = some x→I k st b→cY G cx fm cO target x st fun st₂=>dq G cx fm ifs st₂ fun ok st₃=>if ok then qn G cx fm K ad (.compLoop e d (.ref it) (.ref ad) fm.env) aft st₃ b (I (k+1)) else I (k+1) st₃ b)
  (hA:cx.In fm A) {b:β} (RA:gR G W fm st K ad b s) {o:Obj} (fr:aF W fm it) (ho:s.heap.get? it = some o) (hok:ok W 0 o) (h0:I 0 st b):
  codeAny G.M A (.compLoop e d (.ref it) (.ref ad) fm.env) (fun r s'=>r = .ok .next∧∃W' st' b',W.Le W'∧gR G W' fm st' K ad b' s'∧I xs.length st' b') s:=by
 refine codeAny_loop hq (CompI G W fm K ad it ok I xs.length) (fun n s' hI=>?_) (xs.length+1)
  ⟨0,W,st,b,o,rfl,Nat.zero_le _,.refl _,RA,fr,ho,hok,h0⟩
 obtain ⟨k,W',st',b',o',rfl,hk,le',RA',fr',ho',hok',hI⟩:=hI;rw [hund];have hden:G.M.den (.compLoop e d (.ref it) (.ref ad) fm.env)=(compTurn e d (.ref it) (.ref ad) fm.env).onRaise (fun x=>do noteFrame x fm.env;theTreesLotGoes x):=by
  show (if (Code.compLoop e d (.ref it) (.ref ad) fm.env).isFrame = true then _ else _)= _;rw [hfr];rfl
 rw [hden];refine wpAny_noted ?_;rw [hturn];unfold eU;refine wpAny_bind (wpAny_standAt (wpAny_bind ?_));obtain ⟨oa,hoa,ara⟩:=RA'.obj;have RH:=RA'.rep.hold hoa RA'.free.F RA'.free.H RA'.free.k;have leH:=Wd.le_hold (W:=W') oa RA'.free.H;cases hx:xs[k]? with
 | none=>
  have:k = xs.length:=by have:=List.getElem?_eq_none_iff.mp hx;change u5
  subst this;refine nx.stopT RA'.tk (hA.calm hc) RH (hcond _ _ _ hI) (fr'.hold hne) ho' (nx.mono leH.lf hok') fun s₃ hT₃ R₃=>?_;obtain ⟨le₃,R₃',fr₃,ho₃⟩:=RA'.rep.unhold RA'.free R₃ (.refl _);exact wpAny_pure ⟨rfl,_,st',b',le'.trans le₃,⟨hT₃,R₃',fr₃,oa,ho₃,K.mono le₃.lf ara⟩,hI⟩
 | some x=>
  have hkl:k < xs.length:=(gS hx).1;refine nx.itemT RA'.tk RH (hcond _ _ _ hI) (fr'.hold hne) ho' (nx.mono leH.lf hok') hx fun v s₃ W₃ o₃ hT₃ le₃ R₃ fr₃ ho₃ hok₃ rv=>?_;refine wpAny_bind (nx.ownedT hT₃ R₃ fr₃ ho₃ hok₃ fun s₃ o₃ hT₃ R₃ ho₃ hok₃=>?_);have RI:=R₃.hold ho₃ fr₃.F fr₃.H fr₃.k;have leI:=Wd.le_hold (W:=W₃) o₃ fr₃.H;refine wpAny_bind (i9 hT₃ (turn k x st' b' hx hI _ v (rv.mono leI) _ s₃ A hA (.refl _) RI hT₃) (fun Z s₄ hT₄ z=>?_) fun Z Y V z=>z.no.elim);obtain ⟨W₄,st₄,_,le₄,R₄,_,hb⟩:=z;refine wpAny_bind (i9 hT₄ (hb W₄ s₄ A hA (bot_le _) R₄ hT₄) (fun okb s₅ hT₅ z=>?_) fun Z Y V z=>z.no.elim);obtain ⟨W₅,st₅,bb,le₅,R₅,rb,hq⟩:=z;cases rb;have leA:(W'.hold ad oa).Le W₅:=((le₃.trans leI).trans le₄).trans le₅;obtain ⟨leD,RD,frD,hoD⟩:=RA'.rep.unhold RA'.free R₅ leA;have RAD:gR G (W₅.drop ad) fm st₅ K ad b' s₅:=⟨hT₅,RD,frD,oa,hoD,K.mono leD.lf ara⟩;have hHit:W₅.H it = some o₃:=le₅.H _ _ (le₄.H _ _ (if_pos rfl));have hHit':(W₅.drop ad).H it = some o₃:=(if_neg hne).trans hHit;have hSit:(W₅.drop ad).S it = false:=((le₄.trans le₅).S _ _ (if_pos rfl)).trans (if_pos rfl);have fin:∀{W₆ st₆ b₆ s₆},(W₅.drop ad).Le W₆→gR G W₆ fm st₆ K ad b₆ s₆→I (k+1) st₆ b₆→∃m,m < xs.length+1 - k∧CompI G W fm K ad it ok I xs.length m s₆:=fun {W₆ st₆ b₆ s₆} le₆ RA₆ hI₆=>by
   have hH₆:W₆.H it = some o₃:=le₆.H _ _ hHit';have hS₆:W₆.S it = false:=(le₆.S _ _ hHit').trans hSit;obtain ⟨o₆,ho₆,ar₆⟩:=RA₆.obj;refine ⟨xs.length+1 - (k+1),by change uE,k+1,W₆.drop it,st₆,b₆,o₃,rfl,hkl,Wd.le_drop (le'.Hnone fr'.H) ((le'.trans leD).trans le₆),⟨RA₆.tk,RA₆.rep.drop (RA'.rep.outs_ne fr'.H) hS₆,⟨RA₆.free.F,?_,fun k=>by rw [bn];exact RA₆.free.k k⟩,o₆,ho₆,K.mono (W₆.lf_drop it) ar₆⟩,
    aF.drop RA₆.rep hH₆ (fun k hk=>fr'.frame k hk _),RA₆.rep.heldX hH₆ hS₆,?_,hI₆⟩
   ·show (if ad = it then Option.none else W₆.H ad)= Option.none
    split
    ·rfl
    ·exact RA₆.free.H
   ·exact nx.mono (W₆.lf_drop it) (nx.mono le₆.lf (nx.mono (W₅.lf_drop ad) (nx.mono ((leI.trans le₄).trans le₅).lf hok₃)))
  cases okb with
  | false=>
   simp only [Bool.false_eq_true,if_false] at hq ⊢;exact wpAny_pure ⟨rfl,fin (.refl _) RAD hq⟩
  | true=>
   simp only [if_true] at hq ⊢;refine wpAny_mono (hq _ s₅ A hA RAD) (fun f s₆ z=>?_) fun Z Y z=>z.elim;obtain ⟨rfl,W₆,st₆,b₆,le₆,RA₆,hI₆⟩:=z;exact ⟨rfl,fin le₆ RA₆ hI₆⟩
theorem gv{e:PySem.Expr}{d:Nat}{it:Addr}{acc:Value}{A:Around}{R:Result→Shared→Prop}{t iter:PySem.Expr}{ifs:List PySem.Expr}{env:Env}(hcl:(clausesOf e)[d]? = some ⟨t,iter,ifs,0⟩)
  (hfr:(Code.compStart e d (.ref it) acc env).isFrame = false) (hund:A.under (Code.compStart e d (.ref it) acc env)= A) (hq:(Code.compLoop e d (.ref it) acc env).quiet = true)
  (hself:∀Q':Value→Shared→Prop,Q' (.ref it) s→wpAny G.M A (pyIter (.ref it)) Q' (fun Z Y=>False) s)
  (h:codeAny G.M A (.compLoop e d (.ref it) acc env) R s):codeAny G.M A (.compStart e d (.ref it) acc env) R s:=by
 refine codeAny_of_tree ?_;have hden:G.M.den (.compStart e d (.ref it) acc env)=(compStart e d (.ref it) acc env).onRaise (fun x=>do noteFrame x env;standAt theWindowsPlace):=by
  show (if (Code.compStart e d (.ref it) acc env).isFrame = true then _ else _)= _;rw [hfr];rfl
 rw [hund,hden];refine wpAny_notedAt ?_;unfold compStart;rw [hcl];show wpAny _ _ (ask >>= _) _ _ s;refine wpAny_bind (wpAny_askSetting (wpAny_ite ?_))
 split
 ·first
   | exact wpAny_bind (wpAny_pure (wpAny_pure (And.intro hq h)))
   | exact wpAny_pure (And.intro hq h)
 ·have z:wpAny G.M A (pyIter (.ref it)) (fun it' s'=>it' = .ref it∧codeAny G.M A (.compLoop e d (.ref it) acc env) R s') (fun Z Y=>False) s:=hself _ ⟨rfl,h⟩
  first
   | exact wpAny_bind (wpAny_rule (wpAny_bind (wpAny_standAt (wpAny_bind (wpAny_mono z (fun it' s' h'=>by obtain ⟨rfl,h'⟩:=h';exact wpAny_pure (And.intro hq h')) fun Z Y x=>x.elim)))))
   | (refine wpAny_bind (wpAny_rule ?_);show wpAny _ _ (standAt iter.pos >>= _) _ _ s;exact wpAny_bind (wpAny_standAt (wpAny_bind (wpAny_mono z (fun it' s' h'=>by obtain ⟨rfl,h'⟩:=h';exact wpAny_pure (And.intro hq h')) fun Z Y x=>x.elim))))
noncomputable def freeNames(names:List (Str×NameKind)):List Str:=names.filterMap fun p=>if p.2 = .free then some p.1 else Option.none
noncomputable def oI(names outer:List (Str×NameKind)):List (Str×NameKind):=names.map fun (n,k)=>if (k == .free && outer.lookup n == some .cell) then (n,.cell) else (n,k)
noncomputable def closed(cells:List (Str×Addr))(names:List (Str×NameKind)):List (Str×Addr):=((freeNames names).filterMap fun n=>(cells.lookup n).map (n,·)).reverse
theorem jf{scope:Scope}{env:Env}(h:∀n∈freeNames scope.names,∃c,env.cells.lookup n = some c):closureFor scope env = Pure.pure (closed env.cells scope.names):=by
 have key:∀(names:List (Str×NameKind)) (acc:List (Str×Addr)),(∀n∈freeNames names,∃c,env.cells.lookup n = some c)→
   (forIn names acc fun (x:Str×NameKind) (cs:List (Str×Addr))=>(match x with | (name,kind)=>if (kind == NameKind.free)= true then do let c ← cellOf env name;Pure.pure (ForInStep.yield ((name,c)::cs)) else Pure.pure (ForInStep.yield cs):Sem (ForInStep (List (Str×Addr)))))= Pure.pure (((freeNames names).filterMap fun n=>(env.cells.lookup n).map (n,·)).reverse++acc):=by
  intro names
  induction names with
  | nil=>intro acc _;rfl
  | cons p r ih=>
   obtain ⟨n,k⟩:=p;intro acc hh;rw [List.forIn_cons]
   by_cases hk:k = .free
   ·subst hk;obtain ⟨c,hc⟩:=hh n (by simp [freeNames])
    have e:cellOf env n = Pure.pure c:=by unfold cellOf;rw [hc]
    simp only [beq_self_eq_true,if_true,e,pure_bind];rw [ih _ (fun m hm=>hh m (by simp [freeNames] at hm ⊢;exact .inr hm))]
    simp [freeNames,hc]
   ·have hb:(k == NameKind.free)= false:=by simpa using hk
    simp only [hb,Bool.false_eq_true,if_false,pure_bind];rw [ih _ (fun m hm=>hh m (by simp [freeNames,hk] at hm ⊢;exact hm))]
    simp [freeNames,hk]
 have z:=congrArg (fun m:Sem (List (Str×Addr))=>m >>= fun cs=>Pure.pure cs) (key scope.names [] h);simp only [List.append_nil,pure_bind] at z;exact z
theorem Rep.enter{W₁:Wd}{s₁:Shared}{fm':Fm}{loc':Str→Option AV}{h':Heap}{tk:Nat}(R₁:Rep G W₁ fm st s₁)(hkeep:∀b o,s₁.heap.get? b = some o→h'.get? b = some o)
  (hlo:s₁.heap.get? fm'.env.locals = Option.none) (hlo':∃o,h'.get? fm'.env.locals = some o∧∀ao,(⟨loc',st.hp⟩:St).get fm' .loc = some ao→OR G (W₁.holdFrame fm s₁.heap) ao o)
  (hce:∀y∈fm'.own,∃c o,fm'.env.cells.lookup y = some c∧s₁.heap.get? c = Option.none∧c≠fm'.env.locals∧h'.get? c = some o∧OR G (W₁.holdFrame fm s₁.heap) (.cell (loc' y)) o)
  (hinj:∀y∈fm'.own,∀z∈fm'.own,∀c,fm'.env.cells.lookup y = some c→fm'.env.cells.lookup z = some c→y = z) (ok:qP fm') (outs:rQ G (W₁.holdFrame fm s₁.heap) fm'):
  Rep G (W₁.holdFrame fm s₁.heap) fm' ⟨loc',st.hp⟩ {s₁ with heap:=h',toks:=tk}:=by
 have le_c:=R₁.le_holdFrame;have fresh_not:∀a,s₁.heap.get? a = Option.none→¬fe fm a:=fun a ha q=>by
  obtain ⟨k,h1,_⟩:=bd (W:=W₁) (st:=st) q;exact R₁.freshK ha k h1
 have freshH:∀a,s₁.heap.get? a = Option.none→(W₁.holdFrame fm s₁.heap).H a = Option.none:=fun a ha=>by rw [aC (fresh_not a ha)];exact R₁.freshH ha
 have alno:∀i a,W₁.al i = some a→¬fe fm a:=fun i a e q=>by
  obtain ⟨k,h1,_,h3⟩:=bd (W:=W₁) (st:=st) q;exact h3 i (R₁.inj k (.obj i) a h1 e)
 have alex:∀i a,W₁.al i = some a→∃o,s₁.heap.get? a = some o:=fun i a e=>R₁.lt (.obj i) a e;have cellA:∀y a,addrOf (W₁.holdFrame fm s₁.heap) fm' (.cell y)= some a→y∈fm'.own∧fm'.env.cells.lookup y = some a∧s₁.heap.get? a = Option.none∧a≠fm'.env.locals:=fun y a e=>by
  by_cases hy:y∈fm'.own
  ·have hc:=(if_pos hy).symm.trans e;obtain ⟨c,o,h1,h2,h3,_⟩:=hce y hy;rw [hc] at h1;cases h1;exact ⟨hy,hc,h2,h3⟩
  ·rw [show addrOf (W₁.holdFrame fm s₁.heap) fm' (.cell y)= Option.none from if_neg hy] at e;cases e
 refine ⟨fun a o e=>hkeep _ _ (R₁.frozen a o e),fun a o e=>?_,R₁.base,fun k ao e=>?_,fun k k' a e e'=>?_,fun k a e=>?_,R₁.fin,R₁.gens,R₁.os,outs,ok,fun a o e=>?_,fun i a e=>?_⟩
 ·by_cases q:fe fm a
  ·rw [bp q] at e;exact ⟨_,hkeep _ _ e,.inl rfl⟩
  ·rw [aC q] at e;obtain ⟨o',h,r⟩:=R₁.held a o e;exact ⟨o',hkeep _ _ h,r.imp id fun r=>⟨(le_c.S _ _ e).trans r.1,r.2⟩⟩
 ·cases k with
  | obj i=>
   obtain ⟨a,o,p,q,r,z⟩:=R₁.live (.obj i) ao e;exact ⟨a,o,p,⟨q.1,by rw [aC (alno i a p)];exact q.2⟩,hkeep _ _ r,z.mono le_c⟩
  | loc=>
   obtain ⟨o,h1,h2⟩:=hlo';exact ⟨_,o,rfl,⟨R₁.freshF hlo,freshH _ hlo⟩,h1,h2 ao e⟩
  | cell y=>
   by_cases hy:y∈fm'.own
   ·rw [show (⟨loc',st.hp⟩:St).get fm' (.cell y)= some (.cell (loc' y)) from if_pos hy] at e;cases e;obtain ⟨c,o,h1,h2,h3,h4,h5⟩:=hce y hy;exact ⟨c,o,(if_pos hy).trans h1,⟨R₁.freshF h2,freshH _ h2⟩,h4,h5⟩
   ·rw [show (⟨loc',st.hp⟩:St).get fm' (.cell y)= Option.none from if_neg hy] at e;cases e
 ·cases k with
  | obj i=>
   obtain ⟨o,ho⟩:=alex i a e;cases k' with
   | obj j=>exact R₁.inj (.obj i) (.obj j) a e e'
   | loc=>cases e';rw [hlo] at ho;cases ho
   | cell y=>rw [(cellA y a e').2.2.1] at ho;cases ho
  | loc=>
   cases e;cases k' with
   | obj j=>obtain ⟨o,ho⟩:=alex j _ e';rw [hlo] at ho;cases ho
   | loc=>rfl
   | cell y=>exact absurd rfl (cellA y _ e').2.2.2
  | cell y=>
   obtain ⟨hy,hc,hn,hl⟩:=cellA y a e;cases k' with
   | obj j=>obtain ⟨o,ho⟩:=alex j _ e';rw [hn] at ho;cases ho
   | loc=>cases e';exact absurd rfl hl
   | cell z=>
    obtain ⟨hz,hc',_⟩:=cellA z a e';rw [hinj y hy z hz a hc hc']
 ·cases k with
  | obj i=>obtain ⟨o,ho⟩:=alex i a e;exact ⟨o,hkeep _ _ ho⟩
  | loc=>cases e;obtain ⟨o,h1,_⟩:=hlo';exact ⟨o,h1⟩
  | cell y=>
   obtain ⟨hy,hc,_⟩:=cellA y a e;obtain ⟨c,o,h1,h2,h3,h4,_⟩:=hce y hy;rw [hc] at h1;cases h1;exact ⟨o,h4⟩
 ·by_cases q:fe fm a
  ·obtain ⟨k,h1,⟨ao,h2⟩,_⟩:=bd (W:=W₁) (st:=st) q;obtain ⟨b,_,p,q',_⟩:=R₁.live k ao h2;rw [h1] at p;cases p;rw [show (W₁.holdFrame fm s₁.heap).F a = W₁.F a from rfl,q'.1] at e;cases e
  ·rw [aC q];exact R₁.FH a o e
 ·rw [aC (alno i a e)];exact R₁.alH i a e
theorem ja:∀(names:List (Str×NameKind)) (n:Nat) (acc:List (Str×Addr)),cellsFrom n names acc = cellsFrom n names []++acc:=by
 intro zl
 induction zl with
 | nil=>
  intro _ _;exact rfl
 | cons zq r ih=>
  obtain ⟨x,k⟩:=zq;intro n acc;unfold cellsFrom
  split
  ·rw [ih _ ((x,n)::acc),ih _ [(x,n)]];simp
  ·exact ih n acc
theorem jc:∀(names:List (Str×NameKind)) (n:Nat) (acc:List (Str×Addr)) (x:Str) (c:Addr),(x,c)∈cellsFrom n names acc→x∈ak names∨(x,c)∈acc:=by
 intro zl
 induction zl with
 | nil=>
  intro _ _ _ _ h;exact .inr h
 | cons zq r ih=>
  obtain ⟨y,k⟩:=zq;intro n acc x c h;unfold cellsFrom at h
  by_cases hk:k = .cell
  ·subst hk;simp only [beq_self_eq_true,if_true] at h;rcases ih _ _ x c h with h | h
   ·left;simp [ak] at h ⊢;exact .inr h
   ·rcases mC h with h | h
    ·left;cases h;simp [ak]
    ·exact .inr h
  ·have hb:(k == NameKind.cell)= false:=by simpa using hk
   simp only [hb,Bool.false_eq_true,if_false] at h;rcases ih _ _ x c h with h | h
   ·left;simp [ak,hk] at h ⊢;exact h
   ·exact .inr h
set_option tactic.hygienic true in
theorem gb{l:List (Str×Addr)}{x:Str}{c:Addr}(h:(x,c)∈l)(hf:∀c',(x,c')∈l→c' = c):l.lookup x = some c:=by
 cases e:l.lookup x with
 | some c'=>rw [hf c' (mem_of_lookup e)]
 | none=>
  exfalso
  induction l with
  | nil=>cases h
  | cons p r ih=>
   obtain ⟨y,d⟩:=p;rw [List.lookup_cons] at e
   split at e
   ·cases e
   ·rename_i hne;rcases mC h with q | q
    ·cases q;simp at hne
    ·exact ih q (fun c' hc'=>hf c' (List.mem_cons_of_mem _ hc')) e
theorem eO{cells:List (Str×Addr)}{names:List (Str×NameKind)}{x:Str}{c:Addr}(hx:x∈freeNames names)(hc:cells.lookup x = some c):(closed cells names).lookup x = some c:=by
 refine gb ?_ fun c' h=>?_
 ·unfold closed;rw [List.mem_reverse,List.mem_filterMap];exact ⟨x,hx,by rw [hc];rfl⟩
 ·unfold closed at h;rw [List.mem_reverse,List.mem_filterMap] at h;obtain ⟨y,_,e⟩:=h;cases q:cells.lookup y with
  | none=>rw [q] at e;cases e
  | some d=>rw [q] at e;cases e;rw [hc] at q;cases q;rfl
set_option tactic.hygienic true in
theorem gi{names:List (Str×NameKind)}(hnd:(names.map (·.1)).Nodup){x:Str}(hx:x∈freeNames names):x∉ak names:=fun h=>by
 have h1:=aS hnd h;have h2:names.lookup x = some .free:=by
  obtain ⟨p,hp,e⟩:=List.mem_filterMap.mp hx;obtain ⟨y,k⟩:=p
  split at e
  ·rename_i hk;cases e;dsimp only at hk;subst hk;clear h h1 hx
   induction names with
   | nil=>cases hp
   | cons q r ih=>
    obtain ⟨z,k⟩:=q;simp only [List.map_cons,List.nodup_cons] at hnd;rw [List.lookup_cons];rcases mC hp with e | e
    ·cases e;simp
    ·have:(y == z)= false:=by
      rw [beq_eq_false_iff_ne];intro q;subst q;exact hnd.1 (List.mem_map.mpr ⟨_,e,rfl⟩)
     rw [this];exact ih hnd.2 e
  ·cases e
 rw [h1] at h2;cases h2
theorem iR:∀{names outer:List (Str×NameKind)} {x:Str},names.lookup x = some .cell→(oI names outer).lookup x = some .cell
 | [],_,_,h=>by simp at h
 | (n,k)::r,outer,x,h=>by
  have ih:= @iR r outer x;show List.lookup x ((if (k == NameKind.free && outer.lookup n == some .cell)= true then (n,NameKind.cell) else (n,k))::_)= _;cases hx:x == n with
  | true=>
   simp only [List.lookup_cons,hx] at h;cases h
   split <;> simp [List.lookup_cons,hx]
  | false=>
   simp only [List.lookup_cons,hx] at h
   split <;> (simp only [List.lookup_cons,hx];exact ih h)
noncomputable def cF(fm:Fm)(st:St)(names:List (Str×NameKind)):Str→Option AV:=fun x=>if x∈freeNames names then (if x∈fm.own then st.loc x else fm.out x) else Option.none
noncomputable abbrev bt(scope:Scope)(fm:Fm)(cenv:Env):Env:={cenv with scope:=relabel scope fm.env}
noncomputable abbrev aT(fm:Fm)(st:St)(scope:Scope)(cenv:Env):Fm:=⟨cenv,ak scope.names,oI scope.names fm.names,cF fm st scope.names,fm.frames⟩
theorem Rep.hasCell(R:Rep G W fm st s){n:Str}(h:n∈fm.own∨(fm.out n).isSome = true):∃c,fm.env.cells.lookup n = some c:=by
 rcases h with h | h
 ·obtain ⟨a,o,p,_⟩:=R.live (.cell n) _ (if_pos h);exact ⟨a,(if_pos h).symm.trans p⟩
 ·obtain ⟨av,e⟩:=Option.isSome_iff_exists.mp h;obtain ⟨c,o,v,p,_⟩:=R.outs.out n av e;exact ⟨c,p⟩
set_option tactic.hygienic true in
theorem nL{A:Around}{E:Value→Shared→Prop}{scope:Scope}{W₁:Wd}{s₁:Shared}{Q:Env→Shared→Prop}(R₁:Rep G W₁ fm st s₁)(hk:scope.kind = .function)(hnd:(scope.names.map (·.1)).Nodup)
  (hfree:∀n∈freeNames scope.names,n∈fm.own∨(fm.out n).isSome = true)
  (h:∀cenv h',cenv.scope = scope→Rep G (W₁.holdFrame fm s₁.heap) (aT fm st scope (bt scope fm cenv)) ⟨fun Z=>Option.none,st.hp⟩ {s₁ with heap:=h'}→s₁.heap.get? cenv.locals = Option.none→
   (∀b o,s₁.heap.get? b = some o→h'.get? b = some o)→(∀y∈ak scope.names,∀c,cenv.cells.lookup y = some c→s₁.heap.get? c = Option.none)→Q cenv {s₁ with heap:=h'}):
  wpAny G.M A (newFunctionEnv scope fm.env.globals (closed fm.env.cells scope.names) [] fm.env.qual Option.none .none (some fm.env)) Q E s₁:=by
 simp only [newFunctionEnv,Option.isSome_some,if_true];refine wpAny_bind (wpAny_alloc ?_);refine wpAny_bind (wpAny_layCells _ (fun name kind cells=>by cases hkc:kind == NameKind.cell <;> simp [hkc]) _ _ _ _ ?_)
 refine wpAny_bind (wpAny_pure ?_);rw [show ({s₁ with heap:=s₁.heap.push {cls:= .type "dict",data:= .dict #[]}}:Shared).heap.objs.size = s₁.heap.objs.size+1 from Heap.size_push ..];have okc:=cellsFrom_ok scope.names (s₁.heap.push {cls:= .type "dict",data:= .dict #[]}) (s₁.heap.objs.size+1) [] ⟨fun Z Y hm=>(nomatch hm),List.Pairwise.nil⟩ (by rw [Heap.size_push];exact Nat.le_refl _)
 rw [Heap.size_push] at okc;have hkeep:∀b o,s₁.heap.get? b = some o→(pushCells (s₁.heap.push {cls:= .type "dict",data:= .dict #[]}) scope.names).get? b = some o:=fun b o e=>pushCells_keeps _ _ b o (Heap.get?_push_of_some _ e);have hownL:∀y∈ak scope.names,∃c,(cellsFrom (s₁.heap.objs.size+1) scope.names []).lookup y = some c:=fun y hy=>Option.isSome_iff_exists.mp (bI _ _ _ _ (.inl hy));have hnoL:∀y,y∉ak scope.names→(cellsFrom (s₁.heap.objs.size+1) scope.names []).lookup y = Option.none:=fun y hy=>by
  cases e:(cellsFrom (s₁.heap.objs.size+1) scope.names []).lookup y with
  | none=>rfl
  | some c=>
   rcases jc _ _ _ _ _ (mem_of_lookup e) with q | q
   ·exact absurd q hy
   ·cases q
 have hlook:∀y,(cellsFrom (s₁.heap.objs.size+1) scope.names (closed fm.env.cells scope.names)).lookup y =((cellsFrom (s₁.heap.objs.size+1) scope.names []).lookup y).or ((closed fm.env.cells scope.names).lookup y):=fun y=>by
  rw [ja,List.lookup_append]
 have fresh_ge:∀a,s₁.heap.objs.size≤a→s₁.heap.get? a = Option.none:=fun a ha=>by
  cases e:s₁.heap.get? a with
  | none=>rfl
  | some o=>exact absurd (Heap.lt_size e) (Nat.not_lt.mpr ha)
 refine wpAny_pure ?_;refine h _ _ rfl (R₁.enter (tk:=s₁.toks) hkeep (aw _) ⟨_,pushCells_keeps _ _ _ _ (Heap.get?_push_size _ rfl),fun ao e=>?_⟩ (fun y hy=>?_) (fun y hy z hz c e e'=>?_) ?_ ⟨fun x av e=>?_,fun e he=>?_⟩) (aw _) hkeep (fun y hy c e=>?_)
 rotate_right
 ·have e:(cellsFrom (s₁.heap.objs.size+1) scope.names (closed fm.env.cells scope.names)).lookup y = some c:=e;obtain ⟨c1,h1⟩:=hownL y hy;rw [hlook,h1] at e;cases e;exact fresh_ge _ (Nat.le_of_succ_le (okc.empty y _ (mem_of_lookup h1)).2)
 ·cases e;refine ⟨#[],0,rfl,fun Z he=>by simp at he,fun x av e=>?_⟩
  dsimp only at e
  split at e <;> cases e
 ·obtain ⟨c,hc⟩:=hownL y hy;obtain ⟨⟨o,ho,hd⟩,hge⟩:=okc.empty y c (mem_of_lookup hc);refine ⟨c,o,?_,fresh_ge c (by change Nat.le_of_succ_le),?_,ho,_,hd,fun av e=>(nomatch e)⟩
  ·show (cellsFrom (s₁.heap.objs.size+1) scope.names (closed fm.env.cells scope.names)).lookup y = some c;rw [hlook,hc];rfl
  ·exact Nat.ne_of_gt hge
 ·have e:(cellsFrom (s₁.heap.objs.size+1) scope.names (closed fm.env.cells scope.names)).lookup y = some c:=e;have e':(cellsFrom (s₁.heap.objs.size+1) scope.names (closed fm.env.cells scope.names)).lookup z = some c:=e';obtain ⟨c1,h1⟩:=hownL y hy;obtain ⟨c2,h2⟩:=hownL z hz;rw [hlook,h1] at e;cases e;rw [hlook,h2] at e';cases e';exact name_of_addr okc.apart (mem_of_lookup h1) (mem_of_lookup h2)
 ·refine ⟨hk,R₁.ok.gl,R₁.ok.bl,?_,fun x hx=>iR (aS hnd hx)⟩;show (relabel scope fm.env).names = oI scope.names fm.names;unfold relabel oI Env.kindOf;rw [R₁.ok.fn,R₁.ok.names];simp
 ·have e:cF fm st scope.names x = some av:=e;unfold cF at e
  split at e
  ·rename_i hx;have hno:=hnoL x (gi hnd hx)
   split at e
   ·rename_i hown;obtain ⟨a,o,p,q,r,u,z1,z2⟩:=R₁.live (.cell x) (.cell (st.loc x)) (if_pos hown);have hc:=(if_pos hown).symm.trans p;obtain ⟨w,rfl,rw'⟩:=z2 av e;refine ⟨a,o,w,?_,?_,z1,rw'.mono R₁.le_holdFrame⟩
    ·show (cellsFrom (s₁.heap.objs.size+1) scope.names (closed fm.env.cells scope.names)).lookup x = some a;rw [hlook,hno,eO hx hc];rfl
    ·rw [bp (.inr ⟨x,hown,hc⟩)];exact r
   ·obtain ⟨c,o,v,p,q,r,z⟩:=R₁.outs.out x av e;refine ⟨c,o,v,?_,R₁.le_holdFrame.H _ _ q,r,z.mono R₁.le_holdFrame⟩;show (cellsFrom (s₁.heap.objs.size+1) scope.names (closed fm.env.cells scope.names)).lookup x = some c;rw [hlook,hno,eO hx p];rfl
  ·cases e
 ·obtain ⟨a,L,b,c⟩:=R₁.outs.fr e he;refine ⟨a,L,b,.inr ?_⟩;rcases c with rfl | ⟨o,es,ep,c1,c2,c3⟩
  ·obtain ⟨o,es,ep,h1,_,h2,_⟩:=R₁.locals;exact ⟨o,es,ep,by rw [bp (.inl rfl)];exact h1,if_pos rfl,h2⟩
  ·exact ⟨o,es,ep,R₁.le_holdFrame.H _ _ c1,(R₁.le_holdFrame.S _ _ c1).trans c2,c3⟩
end
end
section
section
variable {G:Gd}{cx:Cx}{fm:Fm}{X:Value→St→Prop}{W₀ W:Wd}{st:St}{s:Shared}{Q:AV→St→Prop}
set_option tactic.hygienic true in
theorem Rep.freezeFree(R:Rep G W fm st s){a:Addr}{o:Obj}(fr:aF W fm a)(ho:s.heap.get? a = some o):W.Le (W.freeze a o)∧Rep G (W.freeze a o) fm st s:=by
 have le:=Wd.le_freeze o fr.F;refine ⟨le,fun b y e=>?_,R.held,fun b y e=>le.F _ _ (R.base b y e),fun k ao e=>?_,fun k k' b e e'=>R.inj k k' b (aB ..▸e) (aB ..▸e'),
  fun k b e=>R.lt k b (aB ..▸e),R.fin,R.gens,R.os,R.outs.mono le,R.ok,fun b y e=>?_,R.alH⟩
 ·unfold Wd.freeze at e;dsimp only at e
  split at e
  ·rename_i q;cases e;subst q;exact ho
  ·exact R.frozen b y e
 ·obtain ⟨b,y,p,q,r,z⟩:=R.live k ao e;exact ⟨b,y,(aB W fm a o k).trans p,⟨(if_neg (fun (w:b = a)=>fr.k k (w▸p))).trans q.1,q.2⟩,r,z.mono le⟩
 ·show W.H b = Option.none;unfold Wd.freeze at e;dsimp only at e
  split at e
  ·rename_i q;subst q;exact fr.H
  ·exact R.FH b y e
theorem Rep.adoptFree(R:Rep G W fm st s){a:Addr}{o:Obj}(fr:aF W fm a)(ho:s.heap.get? a = some o):
  ∃i,st.hp i = Option.none∧W.Le (W.more i a)∧∀ao,OR G (W.more i a) ao o→Rep G (W.more i a) fm (st.put i ao) s:=by
 obtain ⟨n,hn⟩:=R.fin;have hal:W.al n = Option.none:=hn n (Nat.le_refl _);have le:=Wd.le_more a hal;refine ⟨n,?_,le,fun ao hao=>?_⟩
 ·cases e:st.hp n with
  | none=>rfl
  | some y=>
   obtain ⟨b,_,p,_⟩:=R.live (.obj n) y e;rw [show addrOf W fm (.obj n)= W.al n from rfl,hal] at p;cases p
 have addr:∀k,k≠ .obj n→addrOf (W.more n a) fm k = addrOf W fm k:=fun k hk'=>by
  cases k with
  | obj i=>show (if i = n then some a else W.al i)= W.al i;rw [if_neg (fun (q:i = n)=>hk' (q▸rfl))]
  | loc=>rfl
  | cell x=>rfl
 have addrN:addrOf (W.more n a) fm (.obj n)= some a:=by show (if n = n then some a else W.al n)= _;rw [if_pos rfl]
 refine ⟨R.frozen,R.held,R.base,fun k y e=>?_,fun k k' b e e'=>?_,fun k b e=>?_,⟨n+1,fun i hi=>?_⟩,R.gens,R.os,R.outs.mono le,R.ok,R.FH,fun i b e=>?_⟩
 ·by_cases hkn:k = .obj n
  ·subst hkn;have:(st.put n ao).get fm (.obj n)= some ao:=by show (if n = n then some ao else st.hp n)= _;rw [if_pos rfl]
   rw [this] at e;cases e;exact ⟨a,o,addrN,⟨fr.F,fr.H⟩,ho,hao⟩
  ·have:(st.put n ao).get fm k = st.get fm k:=by
    cases k with
    | obj i=>show (if i = n then some ao else st.hp i)= st.hp i;rw [if_neg (fun (q:i = n)=>hkn (q▸rfl))]
    | loc=>rfl
    | cell x=>rfl
   rw [this] at e;obtain ⟨b,z,p,q,r,w⟩:=R.live k y e;exact ⟨b,z,(addr k hkn).trans p,q,r,w.mono le⟩
 ·by_cases h1:k = .obj n <;> by_cases h2:k' = .obj n
  ·rw [h1,h2]
  ·subst h1;rw [addrN] at e;cases e;rw [addr k' h2] at e';exact absurd e' (fr.k k')
  ·subst h2;rw [addrN] at e';cases e';rw [addr k h1] at e;exact absurd e (fr.k k)
  ·rw [addr k h1] at e;rw [addr k' h2] at e';exact R.inj k k' b e e'
 ·by_cases h1:k = .obj n
  ·subst h1;rw [addrN] at e;cases e;exact ⟨o,ho⟩
  ·rw [addr k h1] at e;exact R.lt k b e
 ·exact (if_neg (by omega)).trans (hn i (by change Nat.le_of_succ_le))
 ·show W.H b = Option.none;have e':(if i = n then some a else W.al i)= some b:=e
  split at e'
  ·cases e';exact fr.H
  ·exact R.alH i b e'
noncomputable def bx(G:Gd):AK (List AV):=⟨fun W b o=>∃vs,jM "list" o vs∧au G W b vs,fun h x=>by obtain ⟨vs,p,q⟩:=x;exact ⟨vs,p,q.mono' h⟩⟩
noncomputable def fh(G:Gd):AK (List Str×List AV):=⟨fun W b o=>∃vs,isDict G o b.1 vs∧au G W b.2 vs,fun h x=>by obtain ⟨vs,p,q⟩:=x;exact ⟨vs,p,q.mono' h⟩⟩
structure CompEnd{β:Type}(G:Gd)(W:Wd)(fm:Fm)(K:AK β)(ad C:Addr)(b:β)(st:St)(s:Shared):Prop where
 tk:0 < s.toks
 rep:Rep G W fm st s
 freeC:aF W fm C
 ns:∃m,s.heap.Ns C m
 free:aF W fm ad
 ne:ad≠C
 obj:∃o,s.heap.get? ad = some o∧K.AR W b o
structure ej(e:PySem.Expr):Prop where
 quiet:∀d it acc env,(Code.compLoop e d it acc env).quiet = true
 loop:∀d it acc env,(Code.compLoop e d it acc env).isFrame = false
 start:∀d it acc env,(Code.compStart e d it acc env).isFrame = false
 under:∀(A:Around) d it acc env,A.under (Code.compLoop e d it acc env)= A
 under':∀(A:Around) d it acc env,A.under (Code.compStart e d it acc env)= A
theorem cN(elt:PySem.Expr)(gens:List Comprehension)(scope:Scope)(pos:Pos):ej (.ListComp elt gens scope pos):=
 ⟨fun Z Y V U=>rfl,fun Z Y V U=>rfl,fun Z Y V U=>rfl,fun Z Y V U D=>Around.under_of_weight rfl,fun Z Y V U D=>Around.under_of_weight rfl⟩
theorem eD(k v:PySem.Expr)(gens:List Comprehension)(scope:Scope)(pos:Pos):ej (.DictComp k v gens scope pos):=
 ⟨fun Z Y V U=>rfl,fun Z Y V U=>rfl,fun Z Y V U=>rfl,fun Z Y V U D=>Around.under_of_weight rfl,fun Z Y V U D=>Around.under_of_weight rfl⟩
inductive c6{β:Type}(G:Gd)(cx:Cx)(fm:Fm)(K:AK β)(e:PySem.Expr)(scope:Scope)(target:PySem.Expr)(ifs:List PySem.Expr)(aft:Env→Addr→Addr→Sem Fin)(b₀:β)(a:AV)(st₁:St)(Q:β→(Nat→Option AO)→Prop):Prop
 | mk (xs:List AV) (cond:St→Prop) (hit:b5 G a xs cond) (I:Nat→(Nat→Option AO)→β→Prop) (h0:I 0 st₁.hp b₀) (hc:∀k loc hp b,I k hp b→cond ⟨loc,hp⟩)
  (turn:∀(cenv:Env) (it ad:Addr) k x loc hp b,cenv.scope = scope→xs[k]? = some x→I k hp b→cY G cx (aT fm st₁ scope (bt scope fm cenv)) cO target x ⟨loc,hp⟩ fun st₂=>dq G cx (aT fm st₁ scope (bt scope fm cenv)) ifs st₂ fun ok st₃=>
   if ok then qn G cx (aT fm st₁ scope (bt scope fm cenv)) K ad (.compLoop e 0 (.ref it) (.ref ad) (bt scope fm cenv)) (aft (bt scope fm cenv) it ad) st₃ b (fun st₄ b'=>I (k+1) st₄.hp b') else I (k+1) st₃.hp b)
  (fin:∀hp b,I xs.length hp b→Q b hp)
theorem gh:∀{names:List (Str×NameKind)},(names.map (·.1)).Nodup→∀{x},x∈names→names.lookup x.1 = some x.2:=by
 intro zl
 induction zl with
 | nil=>
  intro _ _ h;cases h
 | cons zq r ih=>
  obtain ⟨z,k⟩:=zq;intro hnd x h;simp only [List.map_cons,List.nodup_cons] at hnd;rw [List.lookup_cons];rcases mC h with e | e
  ·subst e;simp
  ·have:(x.1 == z)= false:=by
    rw [beq_eq_false_iff_ne];intro q;exact hnd.1 (List.mem_map.mpr ⟨x,e,q⟩)
   rw [this];exact ih hnd.2 e
theorem cc{β:Type}{K:AK β}{e:PySem.Expr}{scope:Scope}{pos:Pos}{target iter:PySem.Expr}{ifs:List PySem.Expr}{gs:List Comprehension}{aft:Env→Addr→Addr→Sem Fin}{newAcc:Sem Value}{oAcc:Obj}{b₀:β}{use:Option (Value→Sem Unit)}{A:Around}
  {Qv:Value→Shared→Prop} {E:Value→Shared→Prop} {Q:β→St→Prop} (hc:cx.calm = true)
  (hcl:clausesOf e =⟨target,iter,ifs,0⟩::gs) (fn:ej e) (hs:∀env x,foldedSetIterable iter env x = Pure.pure x) (hk:scope.kind = .function) (hnd:(scope.names.map (·.1)).Nodup) (hfree:∀n∈freeNames scope.names,n∈fm.own∨(fm.out n).isSome = true)
  (hacc:∀(A:Around) (E:Value→Shared→Prop) (s:Shared) (Q:Value→Shared→Prop),Q (.ref s.heap.objs.size) {s with heap:=s.heap.push oAcc}→wpAny G.M A newAcc Q E s) (hof:oAcc.isFreed = false) (har:∀W,K.AR W b₀ oAcc)
  (hturn:∀env it ad,compTurn e 0 (.ref it) (.ref ad) env = eU iter.pos (.ref it) target env (iS ifs env) (aft env it ad) (.compLoop e 0 (.ref it) (.ref ad) env))
  (h:Ev G cx fm cO iter st fun a st₁=>c6 G cx fm K e scope target ifs aft b₀ a st₁ fun b hp=>Q b ⟨st₁.loc,hp⟩)
  (hA:cx.In fm A) (hR:Rep G W fm st s) (hT:0 < s.toks)
  (fin:∀W' st' b ad C s',W.Le W'→CompEnd G W' fm K ad C b st' s'→Q b st'→compPost G.M A E use Qv (.ref ad) C (.ok .next) s'):
  wpAny G.M A (comprehension e scope fm.env pos newAcc false (eval iter fm.env) use) Qv E s:=by
 refine wpAny_comprehension_free hcl (hs _) (jf fun n hn=>hR.hasCell (hfree n hn)) hk (fun x hx hl=>?_) ?_
 ·rw [gh hnd hx,hl]
 refine i9 hT (h W s A hA (bot_le _) hR hT) (fun v s₁ hT₁ z=>?_) fun Z Y V z=>z.no.elim;obtain ⟨W₁,st₁,a,le,R₁,ra,xs,cond,hit,I,h0,hcond,turn,hend⟩:=z;refine hit.t hT₁ (hcond 0 st₁.loc _ _ h0) R₁ ra fun it o s₂ ok W₂ hT₂ le₂ R₂ fr ho nx hok=>?_;refine hacc A _ s₂ _ ?_;have R₃:=R₂.pushJ oAcc s₂.toks;have hit₃:(s₂.heap.push oAcc).get? it = some o:=Heap.get?_push_of_some _ ho;have had₃:(s₂.heap.push oAcc).get? s₂.heap.objs.size = some oAcc:=Heap.get?_push_size _ hof;have frad:aF W₂ fm s₂.heap.objs.size:=R₂.free (aw _);have hne:it≠s₂.heap.objs.size:=Nat.ne_of_lt (Heap.lt_size ho);refine nL R₃ hk hnd hfree fun cenv h' hsc RC hloc hkeep hcf=>?_;have freeIn:∀a o,(s₂.heap.push oAcc).get? a = some o→aF W₂ fm a→aF (W₂.holdFrame fm (s₂.heap.push oAcc)) (aT fm st₁ scope (bt scope fm cenv)) a:=fun a o ea fa=>by
  refine ⟨fa.F,?_,fun k=>?_⟩
  ·rw [aC (fun q=>by obtain ⟨k,h1,_⟩:=bd (W:=W₂) (st:=st₁) q;exact fa.k k h1)];exact fa.H
  ·cases k with
   | obj i=>exact fa.k (.obj i)
   | loc=>intro q;cases q;rw [hloc] at ea;cases ea
   | cell y=>
    intro q
    by_cases hy:y∈ak scope.names
    ·have:=hcf y hy a ((if_pos hy).symm.trans q);rw [this] at ea;cases ea
    ·rw [show addrOf (W₂.holdFrame fm (s₂.heap.push oAcc)) (aT fm st₁ scope (bt scope fm cenv)) (.cell y)= Option.none from if_neg hy] at q;cases q
 have leC:=R₃.le_holdFrame;have RA:gR G (W₂.holdFrame fm (s₂.heap.push oAcc)) (aT fm st₁ scope (bt scope fm cenv)) ⟨fun Z=>Option.none,st₁.hp⟩ K s₂.heap.objs.size b₀ {s₂ with heap:=h'}:=
  ⟨hT₂,RC,freeIn _ _ had₃ frad,oAcc,hkeep _ _ had₃,har _⟩
 have nit:=freeIn _ _ hit₃ fr;have hl:=ie (fm:=aT fm st₁ scope (bt scope fm cenv)) (A:=A) (K:=K) hc (hturn _ it s₂.heap.objs.size) (fn.quiet _ _ _ _) (fn.loop _ _ _ _) (fun A=>fn.under A _ _ _ _) nx hne (fun k st' b=>I k st'.hp b) (fun k st' b hI=>hcond k st'.loc _ _ hI)
  (fun k x st' b hx hI=>turn cenv it s₂.heap.objs.size k x st'.loc st'.hp b hsc hx hI) ⟨hA.calm,hA.depth,hA.units,hA.frames⟩ RA nit (hkeep _ _ hit₃) (nx.mono leC.lf hok) h0
 refine gv (G:=G) (t:=target) (iter:=iter) (ifs:=ifs) (by rw [hcl];rfl) (fn.start _ _ _ _) (fn.under' A _ _ _ _) (fn.quiet _ _ _ _) (fun Q' hq=>nx.self RC (hkeep _ _ hit₃) (nx.mono leC.lf hok) hq) ?_
 refine codeAny_mono hl fun r s' hr=>?_;obtain ⟨rfl,W',st',b',le',RA',hI⟩:=hr;obtain ⟨leb,Rb⟩:=R₃.back RA'.rep le';have hFC:W'.F cenv.locals = Option.none:=by
  obtain ⟨a,_,p,q,_⟩:=RA'.rep.live .loc _ rfl;cases p;exact q.1
 refine fin _ ⟨st₁.loc,st'.hp⟩ b' s₂.heap.objs.size cenv.locals s' ((le.trans le₂).trans leb) ⟨RA'.tk,Rb,⟨hFC,R₃.freshH hloc,fun k=>?_⟩,?_,⟨RA'.free.F,frad.H,fun k=>?_⟩,fun q=>?_,?_⟩ (hend _ _ hI)
 ·cases k with
  | obj i=>intro q;exact absurd (RA'.rep.inj (.obj i) .loc _ q rfl) (by nofun)
  | loc=>exact R₃.freshK hloc .loc
  | cell y=>exact R₃.freshK hloc (.cell y)
 ·obtain ⟨m,hm,_⟩:=RA'.rep.ns;exact ⟨m,hm⟩
 ·cases k with
  | obj i=>exact RA'.free.k (.obj i)
  | loc=>exact frad.k .loc
  | cell y=>exact frad.k (.cell y)
 ·rw [q] at had₃;rw [hloc] at had₃;cases had₃
 ·obtain ⟨o',g1,g2⟩:=RA'.obj;have lf:W'.Lf {W' with H:=W₂.H,S:=W₂.S}:=⟨fun Z Y e=>e,fun Z Y e=>e⟩;exact ⟨o',g1,K.mono lf g2⟩
theorem gC{A:Around}{E:Value→Shared→Prop}{l:Addr}{vs:List Value}{n:Nat}{v:Value}{Q:Value→Shared→Prop}(hl:IsL s.heap l vs.toArray n)(hz:vs.length≤sizeLine)
  (h:∀h' n',IsL h' l (vs++ [v]).toArray n'→Heap.SameBut l s.heap h'→Q .none {s with heap:=h'}):wpAny G.M A (call (.builtin "list.append") [.ref l,v]) Q E s:=by
 refine call_meets F.slot_list_append ⟨_,hl,rfl⟩ F.entry_list_append (F.args_list_append_2 _ _) (list_append l vs.toArray n v (by simpa using hz)) ⟨hl,?_⟩
 have:=IsL.update hl (fun x=>x.push v);rw [show (vs.toArray.push v)=(vs++ [v]).toArray by simp] at this
 exact h _ _ this (Heap.SameBut.update ..)
theorem ke{h:Heap}{l:Addr}{vs:List Value}{n:Nat}(hl:IsL h l vs.toArray n):∃o,h.get? l = some o∧jM "list" o vs:=⟨_,hl,rfl,rfl,rfl,n,rfl⟩
theorem Aft.emitL{ad:Addr}{elt:PySem.Expr}{c:Code}{b:List AV}{Q:St→List AV→Prop}(hq:c.quiet = true)(h:Ev G cx fm cO elt st fun v st'=>b.length≤sizeLine∧Q st' (b++ [v])):
  qn G cx fm (bx G) ad c (Mine.jq elt (.ref ad) fm.env >>= fun Z=>again c) st b Q:=by
 intro W s A hA RA;unfold Mine.jq;refine wpAny_bind (wpAny_bind (wpAny_mono (RA.sub (fun h x=>x.mono' h) hA (bot_le _) h) (fun v s₁ z=>?_) fun Z Y z=>z));obtain ⟨W₁,st₁,a,le,RA₁,ra,hz,hQ⟩:=z;obtain ⟨o,ho,vs,hs,rs⟩:=RA₁.obj;obtain ⟨n,rfl⟩:=hs.obj;refine wpAny_bind (gC ho (rs.length▸hz) fun h' n' hl hsb=>wpAny_pure ?_);obtain ⟨o',g1,g2⟩:=ke hl;refine wpAny_pure ⟨rfl,W₁,st₁,b++ [a],le,⟨RA₁.tk,RA₁.rep.extBut (t:=s₁.toks) hsb.extBut RA₁.free.F RA₁.free.H RA₁.free.k,RA₁.free,o',g1,_,g2,rs.append (au.cons ra au.nil)⟩,hQ⟩
theorem ct(A:Around)(E:Value→Shared→Prop)(s:Shared)(Q:Value→Shared→Prop)(h:Q (.ref s.heap.objs.size) {s with heap:=s.heap.push {cls:= .type "list",data:= .seq #[]}}):wpAny G.M A (newList []) Q E s:=
 wpAny_newObj_type h (by simp [sizeOk])
theorem gt(A:Around)(E:Value→Shared→Prop)(s:Shared)(Q:Value→Shared→Prop)(h:Q (.ref s.heap.objs.size) {s with heap:=s.heap.push {cls:= .type "dict",data:= .dict #[]}}):wpAny G.M A newDict Q E s:=
 wpAny_newObj_type h (by simp [sizeOk])
theorem CompEnd.done{β:Type}{K:AK β}{ad C:Addr}{b:β}(ce:CompEnd G W fm K ad C b st s){h':Heap}(hs:Heap.SameBut C s.heap h'):Rep G W fm st {s with heap:=h'}∧∃o,h'.get? ad = some o∧K.AR W b o:=by
 refine ⟨ce.rep.extBut (t:=s.toks) hs.extBut ce.freeC.F ce.freeC.H ce.freeC.k,?_⟩;obtain ⟨o,g1,g2⟩:=ce.obj;exact ⟨o,(hs.2 ad ce.ne).trans g1,g2⟩
theorem uO{b:List AV}{ad:Addr}(R:Rep G W fm st s)(fr:aF W fm ad)(ho:∃o,s.heap.get? ad = some o∧(bx G).AR W b o)(h:Q (.lst b) st):dZ G W fm (RV G) Q (.ref ad) s:=by
 obtain ⟨o,g1,vs,g2,g3⟩:=ho;obtain ⟨le,R'⟩:=R.freezeFree fr g1;exact ⟨_,st,.lst b,le,R',dh.mk ad o vs rfl (if_pos rfl) g2 (g3.mono le),h⟩
theorem wh{b:List AV}{ad:Addr}(R:Rep G W fm st s)(fr:aF W fm ad)(ho:∃o,s.heap.get? ad = some o∧(bx G).AR W b o)(h:∀i,st.hp i = Option.none→Q (.ref i) (st.put i (.list b))):dZ G W fm (RV G) Q (.ref ad) s:=by
 obtain ⟨o,g1,vs,g2,g3⟩:=ho;obtain ⟨i,hi,le,R'⟩:=R.adoptFree fr g1;exact ⟨_,_,.ref i,le,R' (.list b) ⟨vs,g2,g3.mono le⟩,eJ.mk ad rfl (if_pos rfl),h i hi⟩
theorem uN(O:G.Ok){b:List Str×List AV}{ad:Addr}(R:Rep G W fm st s)(fr:aF W fm ad)(ho:∃o,s.heap.get? ad = some o∧(fh G).AR W b o)(h:Q (.dct b.1 b.2) st):dZ G W fm (RV G) Q (.ref ad) s:=by
 obtain ⟨o,g1,vs,g2,g3⟩:=ho;obtain ⟨le,R'⟩:=R.freezeFree fr g1;have hne:ad≠sysModules:=fun e=>by
  subst e;obtain ⟨mm,⟨o',_,_,ho',_⟩,_⟩:=O.seer.mods;have:=R.base _ _ ho';rw [fr.F] at this;cases this
 exact ⟨_,st,.dct b.1 b.2,le,R',u1.mk ad o vs rfl (if_pos rfl) ⟨hne,g2⟩ (g3.mono le),h⟩
noncomputable abbrev kt(elt target iter:PySem.Expr)(ifs:List PySem.Expr)(scope:Scope)(pos:Pos):Env→Addr→Addr→Sem Fin:=fun env it ad=>Mine.jq elt (.ref ad) env >>= fun Z=>again (.compLoop (.ListComp elt [⟨target,iter,ifs,0⟩] scope pos) 0 (.ref it) (.ref ad) env)
theorem Ev.listCompF{elt target iter:PySem.Expr}{ifs:List PySem.Expr}{scope:Scope}{pos:Pos}(hc:cx.calm = true)(hnd:(scope.names.map (·.1)).Nodup)(hfree:∀n∈freeNames scope.names,n∈fm.own∨(fm.out n).isSome = true)
  (h:Ev G cx fm cO iter st fun a st₁=>c6 G cx fm (bx G) (.ListComp elt [⟨target,iter,ifs,0⟩] scope pos) scope target ifs (kt elt target iter ifs scope pos) [] a st₁ fun b hp=>Q (.lst b) ⟨st₁.loc,hp⟩)
  (hk:scope.kind = .function:=by rfl) (hs:∀env x,foldedSetIterable iter env x = Pure.pure x:=by intro _ _;rfl):Ev G cx fm X (.ListComp elt [⟨target,iter,ifs,0⟩] scope pos) st Q:=by
 intro W s A hA hW hR hT;rw [eval_ListComp];refine cc (K:=bx G) (Q:=fun b st'=>Q (.lst b) st') hc rfl (cN _ _ _ _) hs hk hnd hfree ct rfl (fun W=>⟨[],⟨rfl,rfl,rfl,0,rfl⟩,au.nil⟩) (fun env it ad=>gU _ _ _ _ _ _ _ _ _) h hA hR hT ?_;intro W' st' b ad C s' le ce hq;obtain ⟨m,hm⟩:=ce.ns;refine ⟨m,hm,fun h' hsb=>?_⟩;obtain ⟨R',ho⟩:=ce.done hsb;exact (uO R' ce.free ho hq).le le
theorem Ev.listCompM{elt target iter:PySem.Expr}{ifs:List PySem.Expr}{scope:Scope}{pos:Pos}(hc:cx.calm = true)(hnd:(scope.names.map (·.1)).Nodup)(hfree:∀n∈freeNames scope.names,n∈fm.own∨(fm.out n).isSome = true)
  (h:Ev G cx fm cO iter st fun a st₁=>c6 G cx fm (bx G) (.ListComp elt [⟨target,iter,ifs,0⟩] scope pos) scope target ifs (kt elt target iter ifs scope pos) [] a st₁ fun b hp=>∀i,hp i = Option.none→Q (.ref i) ((⟨st₁.loc,hp⟩:St).put i (.list b)))
  (hk:scope.kind = .function:=by rfl) (hs:∀env x,foldedSetIterable iter env x = Pure.pure x:=by intro _ _;rfl):Ev G cx fm X (.ListComp elt [⟨target,iter,ifs,0⟩] scope pos) st Q:=by
 intro W s A hA hW hR hT;rw [eval_ListComp];refine cc (K:=bx G) (Q:=fun b st'=>∀i,st'.hp i = Option.none→Q (.ref i) (st'.put i (.list b))) hc rfl (cN _ _ _ _) hs hk hnd hfree ct rfl (fun W=>⟨[],⟨rfl,rfl,rfl,0,rfl⟩,au.nil⟩) (fun env it ad=>gU _ _ _ _ _ _ _ _ _) h hA hR hT ?_;intro W' st' b ad C s' le ce hq;obtain ⟨m,hm⟩:=ce.ns;refine ⟨m,hm,fun h' hsb=>?_⟩;obtain ⟨R',ho⟩:=ce.done hsb;exact (wh R' ce.free ho hq).le le
theorem fE{β:Type}{K:AK β}{ad C:Addr}{b:β}{A:Around}{t:PySem.Expr}{W₁:Wd}{Q:AF→St→Prop}{P:AV→St→Prop}(hA:cx.In fm A)(ce:CompEnd G W fm K ad C b st s)(le:W₁.Le W)
  (fin:∀W,Rep G W fm st s→aF W fm ad→(∃o,s.heap.get? ad = some o∧K.AR W b o)→dZ G W fm (RV G) P (.ref ad) s) (hP:∀a st',P a st'→cY G cx fm cO t a st' (Q .next)):
  wpAny G.M A (PySem.assign t fm.env (.ref ad)) (fun Z s''=>∃m,s''.heap.Ns C m∧∀h',Heap.SameBut C s''.heap h'→dZ G W₁ fm (RF G) Q .next {s'' with heap:=h'}) (QE G W₁ fm X) s:=by
 obtain ⟨m,oC,es,ep,hoC,hd,hk,hm⟩:=ce.ns;have RH:=ce.rep.hold hoC ce.freeC.F ce.freeC.H ce.freeC.k;have leH:=Wd.le_hold (W:=W) oC ce.freeC.H;obtain ⟨o,g1,g2⟩:=ce.obj;obtain ⟨W₂,st₂,a,le₂,R₂,ra,hp⟩:=fin _ RH (ce.free.hold ce.ne) ⟨o,g1,K.mono leH.lf g2⟩;refine wpAny_mono (hP a st₂ hp W₂ _ ra W₂ s A hA (.refl _) R₂ ce.tk) (fun Z s₃ z=>?_) fun Z Y z=>z.no.elim;obtain ⟨W₃,st₃,_,le₃,R₃,_,hq⟩:=z;obtain ⟨leU,RU',frU,hoU⟩:=ce.rep.unhold ce.freeC R₃ (le₂.trans le₃);refine ⟨m,⟨oC,es,ep,hoU,hd,hk,hm⟩,fun h' hs=>?_⟩;exact ⟨_,st₃,.next,le.trans leU,RU'.extBut (t:=s₃.toks) hs.extBut frU.F frU.H frU.k,rfl,hq⟩
theorem ek{x:Str}{p pos:Pos}{value:PySem.Expr}(hR:Rep G W fm st s)(h1:swapsWith value (some (.Name x p)) pos.line (dY fm.names)= Pure.pure true):
  exec (.Assign [.Name x p] value pos) fm.env =(do PySem.standAt pos;evalThenUse value fm.env (PySem.assign (.Name x p) fm.env);Pure.pure Flow.next):=
 exec_Assign_Name_used _ _ _ _ ((dU (env':=dY fm.names) hR.ok.fn hR.ok.names).trans h1)
theorem an.asgCompF{x:Str}{p spos:Pos}{elt target iter:PySem.Expr}{ifs:List PySem.Expr}{scope:Scope}{pos:Pos}{Q:AF→St→Prop}(hc:cx.calm = true)(hl:aX fm x)(hnd:(scope.names.map (·.1)).Nodup)(hfree:∀n∈freeNames scope.names,n∈fm.own∨(fm.out n).isSome = true)
  (h:Ev G cx fm cO iter st fun a st₁=>c6 G cx fm (bx G) (.ListComp elt [⟨target,iter,ifs,0⟩] scope pos) scope target ifs (kt elt target iter ifs scope pos) [] a st₁ fun b hp=>Q .next ((⟨st₁.loc,hp⟩:St).setLoc x (.lst b)))
  (h1:swapsWith (.ListComp elt [⟨target,iter,ifs,0⟩] scope pos) (some (.Name x p)) spos.line (dY fm.names)= Pure.pure true:=by rfl)
  (hk:scope.kind = .function:=by rfl) (hs:∀env x,foldedSetIterable iter env x = Pure.pure x:=by intro _ _;rfl):an G cx fm X (.Assign [.Name x p] (.ListComp elt [⟨target,iter,ifs,0⟩] scope pos) spos) st Q:=by
 intro W s A hA hW hR hT;rw [ek hR h1];refine wpAny_bind (wpAny_standAt (wpAny_bind ?_));refine (wpAny_bind ?_:wpAny _ _ (comprehension _ _ _ _ _ _ _ _ >>= fun Z=>Pure.pure ()) _ _ _);refine cc (K:=bx G) (Q:=fun b st'=>Q .next (st'.setLoc x (.lst b))) hc rfl (cN _ _ _ _) hs hk hnd hfree ct rfl (fun W=>⟨[],⟨rfl,rfl,rfl,0,rfl⟩,au.nil⟩) (fun env it ad=>gU _ _ _ _ _ _ _ _ _) h hA hR hT ?_;intro W' st' b ad C s' le ce hq;refine wpAny_mono (fE (t:= .Name x p) (Q:=Q) (P:=fun a st''=>Q .next (st''.setLoc x a)) hA ce le (fun W R fr ho=>uO R fr ho hq) (fun a st'' hp=>Asg.name hl hp)) (fun Z s'' z=>?_) fun Z Y z=>z;obtain ⟨m,hm,hz⟩:=z;exact ⟨m,hm,fun h' hsb=>wpAny_pure (wpAny_pure (hz h' hsb))⟩
theorem an.asgCompM{x:Str}{p spos:Pos}{elt target iter:PySem.Expr}{ifs:List PySem.Expr}{scope:Scope}{pos:Pos}{Q:AF→St→Prop}(hc:cx.calm = true)(hl:aX fm x)(hnd:(scope.names.map (·.1)).Nodup)(hfree:∀n∈freeNames scope.names,n∈fm.own∨(fm.out n).isSome = true)
  (h:Ev G cx fm cO iter st fun a st₁=>c6 G cx fm (bx G) (.ListComp elt [⟨target,iter,ifs,0⟩] scope pos) scope target ifs (kt elt target iter ifs scope pos) [] a st₁ fun b hp=>∀i,hp i = Option.none→Q .next (((⟨st₁.loc,hp⟩:St).put i (.list b)).setLoc x (.ref i)))
  (h1:swapsWith (.ListComp elt [⟨target,iter,ifs,0⟩] scope pos) (some (.Name x p)) spos.line (dY fm.names)= Pure.pure true:=by rfl)
  (hk:scope.kind = .function:=by rfl) (hs:∀env x,foldedSetIterable iter env x = Pure.pure x:=by intro _ _;rfl):an G cx fm X (.Assign [.Name x p] (.ListComp elt [⟨target,iter,ifs,0⟩] scope pos) spos) st Q:=by
 intro W s A hA hW hR hT;rw [ek hR h1];refine wpAny_bind (wpAny_standAt (wpAny_bind ?_));refine (wpAny_bind ?_:wpAny _ _ (comprehension _ _ _ _ _ _ _ _ >>= fun Z=>Pure.pure ()) _ _ _);refine cc (K:=bx G) (Q:=fun b st'=>∀i,st'.hp i = Option.none→Q .next ((st'.put i (.list b)).setLoc x (.ref i))) hc rfl (cN _ _ _ _) hs hk hnd hfree ct rfl (fun W=>⟨[],⟨rfl,rfl,rfl,0,rfl⟩,au.nil⟩) (fun env it ad=>gU _ _ _ _ _ _ _ _ _) h hA hR hT ?_;intro W' st' b ad C s' le ce hq;refine wpAny_mono (fE (t:= .Name x p) (Q:=Q) (P:=fun a st''=>Q .next (st''.setLoc x a)) hA ce le (fun W R fr ho=>wh R fr ho fun i hi=>hq i hi) (fun a st'' hp=>Asg.name hl hp)) (fun Z s'' z=>?_) fun Z Y z=>z;obtain ⟨m,hm,hz⟩:=z;exact ⟨m,hm,fun h' hsb=>wpAny_pure (wpAny_pure (hz h' hsb))⟩
end
end
section
noncomputable def dput{α:Type}(ks:List Str)(vs:List α)(k:Str)(v:α):List Str×List α:=if k∈ks then (ks,vs.set (ks.idxOf k) v) else (ks++ [k],vs++ [v])
theorem gI{α:Type}{ks:List Str}{vs:List α}{k:Str}{v:α}(h:ks.length = vs.length):(dput ks vs k v).1.length =(dput ks vs k v).2.length:=by
 unfold dput;split <;> simp [h]
theorem iz{α β:Type}{ks:List Str}{vs:List α}{us:List β}{k:Str}{v:α}{u:β}:(dput ks vs k v).1 =(dput ks us k u).1:=by unfold dput;split <;> rfl
theorem gw:∀{ks:List Str} {vs:List Value} {k:Str} {v:Value},ks.length = vs.length→ks.Nodup→stored (ks.zip vs) k v =(dput ks vs k v).1.zip (dput ks vs k v).2:=by
 intro ks vs k v hl hn;have hany:(ks.zip vs).any (fun kv=>decide (kv.1 = k))= decide (k∈ks):=by
  rw [Bool.eq_iff_iff];simp only [List.any_eq_true,decide_eq_true_eq];constructor
  ·rintro ⟨⟨a,b⟩,h,rfl⟩;exact (List.of_mem_zip h).1
  ·intro h;obtain ⟨i,hi,e⟩:=List.mem_iff_getElem.mp h;exact ⟨(ks[i],vs[i]'(hl▸hi)),by rw [List.mem_iff_getElem];exact ⟨i,by simp [hl,hl▸hi],by simp⟩,e⟩
 unfold stored dput;rw [hany]
 by_cases hk:k∈ks
 ·simp only [hk,decide_true,if_true];clear hany
  induction ks generalizing vs with
  | nil=>cases hk
  | cons a r ih=>
   cases vs with
   | nil=>cases hl
   | cons b bs=>
    simp only [List.nodup_cons] at hn
    by_cases hak:a = k
    ·subst hak;simp only [List.zip_cons_cons,List.map_cons,if_true,List.idxOf_cons_self,List.set_cons_zero,List.cons.injEq,true_and];rw [List.map_congr_left (g:=id),List.map_id];rintro ⟨c,d⟩ h;have:=(List.of_mem_zip h).1;simp only [id];rw [if_neg];rintro rfl;exact hn.1 this
    ·have hk':k∈r:=by
      rcases mC hk with e | e
      ·exact absurd e.symm hak
      ·exact e
     simp only [List.zip_cons_cons,List.map_cons,hak,if_false];have hb:(a == k)= false:=by simpa using hak
     rw [List.idxOf_cons,hb];simp only [cond_false,List.set_cons_succ,List.zip_cons_cons];rw [ih (Nat.succ.inj hl) hn.2 hk']
 ·simp only [hk,decide_false,Bool.false_eq_true,if_false];rw [List.zip_append hl];rfl
section
variable {G:Gd}{cx:Cx}{fm:Fm}{X:Value→St→Prop}{W₀ W:Wd}{st:St}{s:Shared}{Q:AV→St→Prop}
theorem au.set:∀{l:List AV} {vs:List Value},au G W l vs→∀{i:Nat} {a:AV} {v:Value},RV G W a v→au G W (l.set i a) (vs.set i v):=by
 intro zl
 induction zl with
 | nil=>
  intro _ e _ _ _ _;obtain rfl:=e;exact au.nil
 | cons x l ih=>
  intro _ e i a v ra;obtain ⟨u,r,rfl,e1,e⟩:=e;cases i with
  | zero=>exact au.cons ra e
  | succ i=>exact au.cons e1 (ih e ra)
theorem au.dput{ks:List Str}{l:List AV}{vs:List Value}{k:Str}{a:AV}{v:Value}(rs:au G W l vs)(ra:RV G W a v):au G W (Mine.dput ks l k a).2 (Mine.dput ks vs k v).2:=by
 unfold Mine.dput
 split
 ·exact rs.set ra
 ·exact rs.append (au.cons ra au.nil)
theorem eo{h:Heap}{d:Addr}{kvs:List (Str×Value)}{ks:List Str}{vs:List Value}(hd:h.DictOf (strKind G.prog G.w) d kvs)(e:kvs = ks.zip vs)(hl:ks.length = vs.length):∃o,h.get? d = some o∧isDict G o ks vs:=by
 obtain ⟨o,es,ep,h1,h2,h3,h4,h5,h6⟩:=hd;subst e;exact ⟨o,h1,h2,es,ep,h3,h4,h5,hl,by rwa [List.map_fst_zip (qE hl)] at h6⟩
theorem jQ{A:Around}{E:Value→Shared→Prop}{d:Addr}{o:Obj}{ks:List Str}{vs:List Value}{k:Str}{t:Tok}{v:Value}{Q:Unit→Shared→Prop}(ho:s.heap.get? d = some o)(hd:isDict G o ks vs)(hz:ks.length≤sizeLine)
  (h:∀h' o',h'.get? d = some o'→isDict G o' (dput ks vs k v).1 (dput ks vs k v).2→Heap.SameBut d s.heap h'→Q () {s with heap:=h',toks:=s.toks+1}):wpAny G.M A (dictSet d (.str k t) v) Q E s:=by
 have hl:ks.length = vs.length:=by obtain ⟨_,es,ep,_,_,_,e5,_⟩:=hd;exact e5
 have hn:ks.Nodup:=by obtain ⟨_,es,ep,_,_,_,_,e6⟩:=hd;exact e6
 refine wpAny_dictSet_pairs (knd:=strKind G.prog G.w) (k:=k) (strKind_is G.prog G.w k t) (hd.dictOf ho) (fun h' hd' hs=>?_) (by simp [← hl];exact hz)
 obtain ⟨o',g1,g2⟩:=eo hd' (gw hl hn) (gI hl);exact h h' o' g1 g2 hs
inductive zZ(G:Gd)(cx:Cx)(fm:Fm)(v:PySem.Expr)(b:List Str×List AV)(Q:St→List Str×List AV→Prop)(kv:AV)(st₁:St):Prop
 | mk (key:Str) (e:kv = .str key) (h:Ev G cx fm cO v st₁ fun vv st₂=>b.1.length≤sizeLine∧Q st₂ (dput b.1 b.2 key vv))
inductive xM{β:Type}(G:Gd)(cx:Cx)(fm:Fm)(K:AK β)(ad:Addr)(e t1:PySem.Expr)(ifs1:List PySem.Expr)(b:β)(aft:Env→Addr→Addr→Sem Fin)(Q:St→β→Prop)(a:AV)(st₁:St):Prop
 | mk (xs:List AV) (cond:St→Prop) (hit:b5 G a xs cond) (I:Nat→St→β→Prop) (h0:I 0 st₁ b) (hcond:∀k st' b',I k st' b'→cond st')
   (turn:∀it k x st' b',xs[k]? = some x→I k st' b'→cY G cx fm cO t1 x st' fun st₂=>dq G cx fm ifs1 st₂ fun ok st₃=>if ok then qn G cx fm K ad (.compLoop e 1 (.ref it) (.ref ad) fm.env) (aft fm.env it ad) st₃ b' (I (k+1)) else I (k+1) st₃ b')
   (hend:∀st' b',I xs.length st' b'→Q st' b')
theorem Aft.emitD{ad:Addr}{k v:PySem.Expr}{c:Code}{b:List Str×List AV}{Q:St→List Str×List AV→Prop}(hq:c.quiet = true)
  (h:Ev G cx fm cO k st (zZ G cx fm v b Q)):
  qn G cx fm (fh G) ad c (Mine.jw k v ad fm.env >>= fun Z=>again c) st b Q:=by
 intro W s A hA RA;unfold Mine.jw;refine wpAny_bind (wpAny_bind (wpAny_mono (RA.sub (fun h x=>x.mono' h) hA (bot_le _) h) (fun kv s₁ z=>?_) fun Z Y z=>z));obtain ⟨W₁,st₁,ka,le,RA₁,rk,key,rfl,h₁⟩:=z;obtain ⟨t,rfl⟩:=rk;refine wpAny_bind (wpAny_holding (wpAny_mono (RA₁.sub (fun h x=>x.mono' h) hA (bot_le _) h₁) (fun vv s₂ z=>?_) fun Z Y z=>z));obtain ⟨W₂,st₂,va,le₂,RA₂,rv,hz,hQ⟩:=z;obtain ⟨o,ho,vs,hd,rs⟩:=RA₂.obj;refine wpAny_bind (wpAny_standAt (wpAny_holding (jQ ho hd hz fun h' o' g1 g2 hsb=>?_)));refine wpAny_pure ⟨rfl,W₂,st₂,dput b.1 b.2 key va,le.trans le₂,⟨Nat.succ_pos _,RA₂.rep.extBut (t:=s₂.toks+1) hsb.extBut RA₂.free.F RA₂.free.H RA₂.free.k,RA₂.free,o',g1,_,?_,rs.dput rv⟩,hQ⟩;rw [iz (us:=vs) (u:=vv)];exact g2
theorem Aft.nest{β:Type}{K:AK β}{ad:Addr}{e t1 i1:PySem.Expr}{ifs1:List PySem.Expr}{c:Code}{b:β}{aft:Env→Addr→Addr→Sem Fin}{Q:St→β→Prop}(hc:cx.calm = true)(fn:ej e)(hcl:(clausesOf e)[1]? = some ⟨t1,i1,ifs1,0⟩)(hs:∀env x,foldedSetIterable i1 env x = Pure.pure x)
  (hturn:∀env it ad,compTurn e 1 (.ref it) (.ref ad) env = eU i1.pos (.ref it) t1 env (iS ifs1 env) (aft env it ad) (.compLoop e 1 (.ref it) (.ref ad) env))
  (h:Ev G cx fm cO i1 st (xM G cx fm K ad e t1 ifs1 b aft Q)):
  qn G cx fm K ad c (kL e i1 (.ref ad) fm.env c) st b Q:=by
 intro W s A hA RA;unfold kL;refine wpAny_bind (wpAny_mono (RA.sub (fun h x=>x.mono' h) hA (bot_le _) h) (fun v s₁ z=>?_) fun Z Y z=>z);obtain ⟨W₁,st₁,a,le,RA₁,ra,xs,cond,hit,I,h0,hcond,turn,hend⟩:=z;refine wpAny_bind (wpAny_standAt (wpAny_bind ?_));rw [hs];refine wpAny_pure (wpAny_bind (wpAny_holding ?_));obtain ⟨oa,hoa,ara⟩:=RA₁.obj;have RH:=RA₁.rep.hold hoa RA₁.free.F RA₁.free.H RA₁.free.k;have leH:=Wd.le_hold (W:=W₁) oa RA₁.free.H;refine hit.t RA₁.tk (hcond _ _ _ h0) RH (ra.mono leH) fun it o s₂ ok W₂ hT₂ le₂ R₂ fr ho nx hok=>?_;obtain ⟨leD,RD,frD,hoD⟩:=RA₁.rep.unhold RA₁.free R₂ le₂;have hne:it≠ad:=fun e=>by have:=le₂.H ad oa (if_pos rfl);rw [← e,fr.H] at this;cases this
 have frI:aF (W₂.drop ad) fm it:=⟨fr.F,by show (if it = ad then Option.none else W₂.H it)= Option.none;rw [if_neg hne];exact fr.H,fun k=>by rw [bn];exact fr.k k⟩
 have RA₂:gR G (W₂.drop ad) fm st₁ K ad b s₂:=⟨hT₂,RD,frD,oa,hoD,K.mono leD.lf ara⟩;have hok₂:=nx.mono (W₂.lf_drop ad) hok;have hl:=ie (A:=A) (K:=K) hc (hturn fm.env it ad) (fn.quiet _ _ _ _) (fn.loop _ _ _ _) (fun A=>fn.under A _ _ _ _) nx hne I hcond (fun k x st' b' hx hI=>turn it k x st' b' hx hI) hA RA₂ frI ho hok₂ h0;refine wpAny_bind (wpAny_runOwn (h:=Option.none) ?_);refine (gv (G:=G) (t:=t1) (iter:=i1) (ifs:=ifs1) hcl (fn.start _ _ _ _) (fn.under' A _ _ _ _) (fn.quiet _ _ _ _) (fun Q' hq=>nx.self RA₂.rep ho hok₂ hq) ?_:codeAny G.M A _ _ s₂);refine codeAny_mono hl fun r s' hr=>?_;obtain ⟨rfl,W',st',b',le',RA',hI⟩:=hr;exact wpAny_pure ⟨rfl,W',st',b',(le.trans leD).trans le',RA',hend _ _ hI⟩
noncomputable abbrev we(k v target iter:PySem.Expr)(ifs:List PySem.Expr)(scope:Scope)(pos:Pos):Env→Addr→Addr→Sem Fin:=fun env it ad=>Mine.jw k v ad env >>= fun Z=>again (.compLoop (.DictComp k v [⟨target,iter,ifs,0⟩] scope pos) 0 (.ref it) (.ref ad) env)
theorem jj(env:Env)(k v:PySem.Expr)(gens:List Comprehension)(scope:Scope)(pos:Pos):eval (.DictComp k v gens scope pos) env = comprehension (.DictComp k v gens scope pos) scope env (firstIterPos gens pos) newDict (firstAsync gens) (firstIter gens env):=rfl
noncomputable abbrev wm(e i1:PySem.Expr):Env→Addr→Addr→Sem Fin:=fun env it ad=>kL e i1 (.ref ad) env (.compLoop e 0 (.ref it) (.ref ad) env)
noncomputable abbrev x3(e elt:PySem.Expr):Env→Addr→Addr→Sem Fin:=fun env it ad=>Mine.jq elt (.ref ad) env >>= fun Z=>again (.compLoop e 1 (.ref it) (.ref ad) env)
noncomputable abbrev t7(e k v:PySem.Expr):Env→Addr→Addr→Sem Fin:=fun env it ad=>Mine.jw k v ad env >>= fun Z=>again (.compLoop e 1 (.ref it) (.ref ad) env)
theorem Ev.dictComp2F{k v target iter t1 i1:PySem.Expr}{ifs ifs1:List PySem.Expr}{scope:Scope}{pos:Pos}(O:G.Ok)(hc:cx.calm = true)(hnd:(scope.names.map (·.1)).Nodup)(hfree:∀n∈freeNames scope.names,n∈fm.own∨(fm.out n).isSome = true)
  (h:Ev G cx fm cO iter st fun a st₁=>c6 G cx fm (fh G) (.DictComp k v [⟨target,iter,ifs,0⟩,⟨t1,i1,ifs1,0⟩] scope pos) scope target ifs (wm (.DictComp k v [⟨target,iter,ifs,0⟩,⟨t1,i1,ifs1,0⟩] scope pos) i1) ([],[]) a st₁ fun b hp=>Q (.dct b.1 b.2) ⟨st₁.loc,hp⟩)
  (hk:scope.kind = .function:=by rfl) (hs:∀env x,foldedSetIterable iter env x = Pure.pure x:=by intro _ _;rfl):Ev G cx fm X (.DictComp k v [⟨target,iter,ifs,0⟩,⟨t1,i1,ifs1,0⟩] scope pos) st Q:=by
 intro W s A hA hW hR hT;rw [jj];refine cc (K:=fh G) (Q:=fun b st'=>Q (.dct b.1 b.2) st') hc rfl (eD _ _ _ _ _) hs hk hnd hfree gt rfl (fun W=>⟨[],⟨⟨rfl,rfl,rfl⟩,#[],0,rfl,fun e he=>by simp at he,Pairs.nil,rfl,List.nodup_nil⟩,au.nil⟩) (fun env it ad=>sh _ _ _ _ _ _ _ _ _ _ _ _ _) h hA hR hT ?_
 intro W' st' b ad C s' le ce hq;obtain ⟨m,hm⟩:=ce.ns;refine ⟨m,hm,fun h' hsb=>?_⟩;obtain ⟨R',ho⟩:=ce.done hsb;exact (uN O R' ce.free ho hq).le le
end
end
section
noncomputable def d0{α:Type}(k:Str)(v:α):List Str→List α→List Str×List α
 | [],_=>([k],[v])
 | x::ks,y::vs=>if x = k then (x::ks,v::vs) else (x::(d0 k v ks vs).1,y::(d0 k v ks vs).2)
 | x::ks,[]=>(x::ks,[])
noncomputable def cU{α:Type}(k:Str):List Str→List α→Option α
 | x::ks,y::vs=>if x = k then some y else cU k ks vs
 | _,_=>Option.none
theorem fj{α:Type}{k x:Str}{v y:α}{ks:List Str}{vs:List α}:d0 k v (x::ks) (y::vs)= if x = k then (x::ks,v::vs) else (x::(d0 k v ks vs).1,y::(d0 k v ks vs).2):=rfl
theorem cB{α:Type}{k x:Str}{y:α}{ks:List Str}{vs:List α}:cU k (x::ks) (y::vs)= if x = k then some y else cU k ks vs:=rfl
theorem ju(k n:Str)(t:Tok):(Value.str n t).isStr k = decide (n = k):=by
 show (n == k)= _;rw [Bool.eq_iff_iff];simp
theorem ir.length:∀{es:List DictEntry} {ks:List Str} {vs:List Value},ir es ks vs→es.length = ks.length∧ks.length = vs.length
 | [],_,_,h=>by obtain ⟨rfl,rfl⟩:=h;exact ⟨rfl,rfl⟩
 | e::es,_,_,h=>by obtain ⟨k,t,r,us,rfl,rfl,_,h⟩:=h;have:=h.length;simp [this.1,this.2]
theorem ir.get{name:Str}:∀{es:List DictEntry} {ks:List Str} {vs:List Value},ir es ks vs→getL name es = some (cU name ks vs)
 | [],_,_,h=>by obtain ⟨rfl,rfl⟩:=h;rfl
 | e::es,_,_,h=>by
  obtain ⟨k,t,r,us,rfl,rfl,hk,h⟩:=h;have ih:=h.get (name:=name);unfold getL at ih ⊢;rw [List.find?_cons,hk,ju]
  by_cases q:k = name
  ·simp [q,cB]
  ·simp only [q,decide_false,cB,if_false];rw [← ih];cases List.find? (fun x=>x.key.isStr name) es with
   | some e=>rfl
   | none=>
    dsimp only;have:e.refKey = false:=by unfold DictEntry.refKey;rw [hk]
    rw [List.any_cons,this,Bool.false_or]
theorem ir.put{name:Str}{hsh:Int}{t₀:Tok}{v:Value}:∀{es:List DictEntry} {ks:List Str} {vs:List Value},ir es ks vs→ir (putL name hsh (.str name t₀) v es) (d0 name v ks vs).1 (d0 name v ks vs).2
 | [],_,_,h=>by obtain ⟨rfl,rfl⟩:=h;exact ⟨name,t₀,[],[],rfl,rfl,rfl,rfl,rfl⟩
 | e::es,_,_,h=>by
  obtain ⟨k,t,r,us,rfl,rfl,hk,h⟩:=h;have ih:=h.put (name:=name) (hsh:=hsh) (t₀:=t₀) (v:=v);rw [putL,hk,ju]
  by_cases q:k = name
  ·simp only [q,decide_true,if_true,fj];exact ⟨_,t,r,us,rfl,rfl,by rw [← q],h⟩
  ·simp only [q,decide_false,Bool.false_eq_true,if_false,fj];exact ⟨_,t,_,_,rfl,rfl,hk,ih⟩
theorem gG{α:Type}{k:Str}{v:α}:∀{ks:List Str} {vs:List α},(d0 k v ks vs).1.length≤ks.length+1
 | [],_=>Nat.le_refl 1
 | x::ks,[]=>Nat.le_succ _
 | x::ks,y::vs=>by
  rw [fj];split
  ·simp
  ·have:=gG (k:=k) (v:=v) (ks:=ks) (vs:=vs);simp;assumption
theorem so{α β:Type}{k:Str}{v:α}{u:β}:∀{ks:List Str} {vs:List α} {us:List β},vs.length = us.length→(d0 k v ks vs).1 =(d0 k u ks us).1:=by
 intro zl
 induction zl with
 | nil=>
  intro _ _ _;exact rfl
 | cons x ks ih=>
  intro zm;cases zm with
  | nil=>
   intro us e;cases us with | nil=>rfl | cons _ _=>cases e
  | cons y vs=>
   intro us e;cases us with
   | nil=>cases e
   | cons z us=>
    rw [fj,fj];split
    ·rfl
    ·dsimp only;rw [ih (Nat.succ.inj e)]
section
variable {G:Gd}{cx:Cx}{fm:Fm}{X:Value→St→Prop}{W₀ W:Wd}{st:St}{s:Shared}{Q:AV→St→Prop}
set_option tactic.hygienic true in
theorem au.aget{k:Str}:∀{ks:List Str} {l:List AV} {vs:List Value} {a:AV},au G W l vs→Mine.cU k ks l = some a→∃v,Mine.cU k ks vs = some v∧RV G W a v:=by
 intro zl
 induction zl with
 | nil=>
  intro _ _ _ _ e;cases e
 | cons x ks ih=>
  intro zm;cases zm with
  | nil=>
   intro _ _ _ e;cases e
  | cons y l=>
   intro _ a h e;obtain ⟨v,r,rfl,h1,h⟩:=h;rw [cB] at e ⊢
   split at e
   ·rename_i q;cases e;rw [if_pos q];exact ⟨v,rfl,h1⟩
   ·rename_i q;rw [if_neg q];exact ih h e
theorem au.aput{k:Str}{a:AV}{v:Value}(ra:RV G W a v):∀{ks:List Str} {l:List AV} {vs:List Value},au G W l vs→au G W (Mine.d0 k a ks l).2 (Mine.d0 k v ks vs).2:=by
 intro zl
 induction zl with
 | nil=>
  intro _ _ h;exact au.cons ra au.nil
 | cons x ks ih=>
  intro zm;cases zm with
  | nil=>
   intro _ h;obtain rfl:=h;exact au.nil
  | cons y l=>
   intro _ h;obtain ⟨u,r,rfl,h1,h⟩:=h;rw [fj,fj]
   split
   ·exact au.cons ra h
   ·exact au.cons h1 (ih h)
theorem Rep.putObj(R:Rep G W fm st s){h':Heap}{t:Nat}{i:Nat}{ao ao':AO}{x:Addr}{o':Obj}
  (hl:st.hp i = some ao) (hx:W.al i = some x) (hk:Heap.ExtBut x s.heap h') (ho:h'.get? x = some o') (hr:OR G W ao' o'):Rep G W fm (st.put i ao') {s with heap:=h',toks:=t}:=by
 refine R.upd (k:= .obj i) (ao:=ao) (ao':=ao') (o':=o') hl hx hk ho hr (if_pos rfl) fun k' ao'' hk' e=>?_;cases k' with
 | obj j=>exact (if_neg (fun (q:j = i)=>hk' (q▸rfl))).symm.trans e
 | loc=>exact e
 | cell y=>exact e
theorem Rep.liveObj(R:Rep G W fm st s){i:Nat}{ao:AO}{x:Addr}(hl:st.hp i = some ao)(hx:W.al i = some x):∃o,s.heap.get? x = some o∧OR G W ao o:=by
 obtain ⟨a,o,p,q,r,z⟩:=R.live (.obj i) ao hl;rw [show addrOf W fm (.obj i)= W.al i from rfl,hx] at p;cases p;exact ⟨o,r,z⟩
theorem Rep.inK(O:G.Ok)(R:Rep G W fm st s):G.K.In s.heap:=O.K.keeps R.keep
noncomputable def rU:AV→Bool
 | .raw _=>true
 | _=>false
theorem RV.handed{a:AV}{v:Value}(h:RV G W a v)(hr:rU a = false):handedIn v = true:=by
 cases a with
 | raw _=>cases hr
 | none=>obtain rfl:=h;rfl
 | bool=>obtain rfl:=h;rfl
 | int=>obtain ⟨_,rfl⟩:=h;rfl
 | str=>obtain ⟨_,rfl⟩:=h;rfl
 | bytes=>obtain ⟨_,rfl⟩:=h;rfl
 | tup=>obtain ⟨_,_,_,rfl,_⟩:=h;rfl
 | lst=>obtain ⟨_,_,_,rfl,_⟩:=h;rfl
 | dct=>obtain ⟨_,_,_,rfl,_⟩:=h;rfl
 | ref=>obtain ⟨_,rfl,_⟩:=h;rfl
 | obj=>obtain ⟨_,_,_,rfl,_⟩:=h;rfl
 | nxt=>obtain ⟨_,_,_,rfl,_⟩:=h;rfl
 | slc=>obtain ⟨_,_,_,_,_,rfl,_⟩:=h;rfl
 | rng=>obtain ⟨_,_,_,_,rfl,_⟩:=h;rfl
 | vals=>obtain ⟨_,_,_,rfl,_⟩:=h;rfl
noncomputable def kG(G:Gd)(cx:Cx)(fm:Fm)(X:Value→St→Prop)(a:AV)(name:Str)(st:St)(Q:AV→St→Prop):Prop:=
 ∀W₀ v,RV G W₀ a v→J G cx fm X W₀ (getAttr v name true) (RV G) st Q
noncomputable def tN(G:Gd)(cx:Cx)(fm:Fm)(X:Value→St→Prop)(a:AV)(name:Str)(b:AV)(st:St)(Q:St→Prop):Prop:=
 ∀W₀ v u,RV G W₀ a v→RV G W₀ b u→J G cx fm X W₀ (setAttr v name u) RU st fun Z st'=>Q st'
theorem J.release{vs ks:List Value}{β γ:Type}{f:Unit→Sem γ}{R:Wd→β→γ→Prop}{Q:β→St→Prop}(h:J G cx fm X W₀ (f ()) R st Q):J G cx fm X W₀ (PySem.release vs ks >>= f) R st Q:=
 fun W s A hA hW hR hT=>wpAny_bind (wpAny_release (h W s A hA hW hR hT))
theorem J.release'{vs ks:List Value}{Q:Unit→St→Prop}(h:Q () st):J G cx fm X W₀ (PySem.release vs ks) RU st Q:=
 fun W s A hA hW hR hT=>wpAny_release ⟨W,st,(),.refl _,hR,trivial,h⟩
theorem Ev.attr{value:PySem.Expr}{name:Str}{pos:Pos}(h:Ev G cx fm X value st fun a st₁=>kG G cx fm X a name st₁ Q)(hb:∀env w,attributeBase value name env w = w:=by intro _ _;rfl):
  Ev G cx fm X (.Attribute value name pos) st Q:=by
 unfold Ev;rw [arm_eval_Attribute,hb];refine J.bind (J.mono (J.from h) (fun a st₁ h₁ W₁ v Z ra=>J.standAt ?_) fun Z Y z=>z);refine J.bind (J.holding (J.mono (h₁ W₁ v ra) (fun b st₂ h₂ W₂ u Z rb=>?_) fun Z Y z=>z));intro W s A hA hW hR hT;exact wpAny_bind (wpAny_letTemporaryGo (wpAny_pure ⟨W,st₂,b,.refl _,hR,rb.mono hW,h₂⟩))
theorem Asg.attr{o:PySem.Expr}{name:Str}{pos:Pos}{b:AV}{Q:St→Prop}(h:Ev G cx fm X o st fun a st₁=>tN G cx fm X a name b st₁ Q):cY G cx fm X (.Attribute o name pos) b st Q:=by
 intro W₀ v rv;rw [arm_assign_Attribute];refine J.bind (J.holding (J.mono (J.from h) (fun a st₁ h₁ W₁ u le ra=>J.standAt ?_) fun Z Y z=>z));refine J.bind (J.holding (J.mono (h₁ W₁ u v ra (rv.mono le)) (fun Z st₂ h₂ W₂ Y V U=>?_) fun Z Y z=>z));exact J.release' h₂
theorem an.augAttr{o:PySem.Expr}{name:Str}{tpos pos:Pos}{op:Operator}{value:PySem.Expr}{Q:AF→St→Prop}
  (h:Ev G cx fm X o st fun a st₁=>kG G cx fm X a name st₁ fun old st₂=>Ev G cx fm X value st₂ fun v st₃=>i6 G cx fm X op old v st₃ fun new st₄=>tN G cx fm X a name new st₄ (Q .next)):
  an G cx fm X (.AugAssign (.Attribute o name tpos) op value pos) st Q:=by
 unfold an;rw [arm_exec_AugAssign_2];refine J.standAt (J.bind (J.mono (J.from h) (fun a st₁ h₁ W₁ u Z ra=>?_) fun Z Y z=>z));refine J.bind (J.holding (J.standAt ?_)) (β:=AV) (R₁:=RV G);refine J.bind (J.mono (h₁ W₁ u ra) (fun old st₂ h₂ W₂ ov le₂ ro=>?_) fun Z Y z=>z);refine J.bind (J.holding (J.mono (J.from h₂) (fun v st₃ h₃ W₃ vv le₃ rv=>J.standAt ?_) fun Z Y z=>z));refine J.operate (J.mono (h₃ W₃ ov vv (ro.mono le₃) rv) (fun new st₄ h₄=>?_) fun Z Y z=>z);intro W₄ nv le₄ rn;refine J.standAt (J.bind (J.holding (J.mono (h₄ W₄ u nv ((ra.mono le₄)) rn) (fun Z st₅ h₅ W₅ Y V U=>?_) fun Z Y z=>z)));exact J.release (J.pure (b:=AF.next) (fun Z Y=>rfl) h₅)
end
end
section
section
variable {G:Gd}{cx:Cx}{fm:Fm}{X:Value→St→Prop}{W₀ W:Wd}{st:St}{s:Shared}{Q:AV→St→Prop}
noncomputable def jV(G:Gd)(cls c:Value):Prop:=∀{W fm st s A E e} {Q:Bool→Shared→Prop},Rep G W fm st s→vm W fm e cls s→Q true s→wpAny G.M A (excMatches e c) Q E s
noncomputable def oR(G:Gd)(fm:Fm)(t:PySem.Expr)(c:Value):Prop:=∀{W st s A E} {Q:Value→Shared→Prop},Rep G W fm st s→Q c s→wpAny G.M A (eval t fm.env) Q E s
theorem Load.global{x:Str}{pos:Pos}{v:Value}(O:G.Ok)(hl:fm.kind x = some .globalImplicit)(hv:G.mg x = some v)(hd:(x ==("__debug__" :Str))= false:=by decide):oR G fm (.Name x pos) v:=by
 intro W st s A E Q hR hQ;rw [eval_Name _ _ _ hd];refine wpAny_bind (wpAny_standAt ?_);unfold loadName;simp only [Env.blockKind,hR.ok.fn,hR.ok.kind hl,ScopeKind.isAnnotationScope,Bool.false_and,Bool.false_eq_true,if_false];exact Calls.loadGlobal_global (hR.ok.gl▸O.gl.keeps hR.keep) hv hQ
theorem Load.builtin{x:Str}{pos:Pos}{v:Value}(O:G.Ok)(hl:fm.kind x = some .globalImplicit)(hn:G.mg x = Option.none)(hv:G.mb x = some v)(hd:(x ==("__debug__" :Str))= false:=by decide):oR G fm (.Name x pos) v:=by
 intro W st s A E Q hR hQ;rw [eval_Name _ _ _ hd];refine wpAny_bind (wpAny_standAt ?_);unfold loadName;simp only [Env.blockKind,hR.ok.fn,hR.ok.kind hl,ScopeKind.isAnnotationScope,Bool.false_and,Bool.false_eq_true,if_false];exact Calls.loadGlobal_builtin (hR.ok.gl▸O.gl.keeps hR.keep) hn (hR.ok.bl▸O.bl.keeps hR.keep) hv hQ
theorem an.try_{t:PySem.Expr}{b₀:Stmt}{suite body orelse:List Stmt}{p pos:Pos}{cls c:Value}{Q:AF→St→Prop}(hf:fm.IsFn)(ht:oR G fm t c)(hc:jV G cls c)
  (h:Ex G cx fm (fun cls' st'=>cls' = cls∧Ex G ⟨cx.n,false⟩ fm cO (b₀::suite) st' Q) body st fun f st₁=>match f with | .next=>Ex G cx fm X orelse st₁ Q | f=>Q f st₁):
  an G cx fm X (.Try body [.ExceptHandler (some t) Option.none (b₀::suite) p] orelse [] pos) st Q:=by
 intro W s A hA hW hR hT;refine wpAny_Try_except (i9 hT (h W s A hA (bot_le _) hR hT) (fun f s₁ hT₁ z=>?_) fun e s₁ hT₁ z=>?_)
 ·obtain ⟨W₁,st₁,af,le,R₁,rf,hq⟩:=z;cases af with
  | next=>cases rf;exact wpAny_mono (hq W₁ s₁ A hA (bot_le _) R₁ hT₁) (fun Z Y y=>y.le le) fun Z Y y=>y.le le
  | brk=>cases rf;exact ⟨W₁,st₁,.brk,le,R₁,rfl,hq⟩
  | cont=>cases rf;exact ⟨W₁,st₁,.cont,le,R₁,rfl,hq⟩
  | ret x=>obtain ⟨v,rfl,rv⟩:=rf;exact ⟨W₁,st₁,.ret x,le,R₁,⟨v,rfl,rv⟩,hq⟩
 ·obtain ⟨W₁,st₁,cls',le,R₁,fl,rfl,hq⟩:=z;refine lI hf hA R₁ fl fun h₂ R₂ fl₂=>?_;have hAm:(⟨cx.n,false⟩:Cx).In fm (A.mark (some e)):=⟨fun q=>(nomatch q),hA.depth,hA.units,hA.frames⟩
  refine wpAny_handleBy_cons (codeAny_handlers_test (ht R₂ (hc R₂ fl₂ ?_))) (by obtain ⟨a,_,_,rfl,_⟩:=fl;nofun)
  refine codeAny_handlers_suite (nD R₂ fl₂ fun h₃ R₃ fl₃=>?_);exact wpAny_mono (hq W₁ _ _ hAm (bot_le _) R₃ hT₁) (fun f s₄ z=>z.le le) fun Z Y z=>z.no.elim
theorem Catch.type{T:String}(hexc:isSubtype (.type T) (.type "BaseException")= Pure.pure true)(hnt:isSubtype (.type ((Manifest.find? T).elim "type" fun x=>x.metatype)) (.type "tuple")= Pure.pure false)(hsub:isSubtype (.type T) (.type T)= Pure.pure true):jV G (.type T) (.type T):=by
 intro W fm st s A E e Q hR fl hQ;obtain ⟨a,o,vs,rfl,ho,hcls,_⟩:=fl;exact wpAny_excMatches_type (X:=T) ⟨o,ho,hcls⟩ hexc hnt hsub hQ
theorem Catch.stop:jV G (.type "StopIteration") (.type "StopIteration"):=
 Catch.type (by rw [isSubtype_type];kernel_rfl) (by rw [isSubtype_type];kernel_rfl) (by rw [isSubtype_type];kernel_rfl)
theorem Catch.cls{nm q:Str}{C N:Addr}{bs bm:List Value}{hdct:Bool}{sn:List Str}{sub:List Value}{ab:Bool}{col:Option Bool}{dd:Option Addr}{k0 k1 k2 k3 k5:Option Value}{newId:String}(O:G.Ok)
  (hC:G.K.lookup C = some (excClassObj nm q C N bs bm hdct sn sub ab col dd k0 k1 k2 k3 k5 newId)) (hbase:bm.contains (.type "BaseException")= true):jV G (.ref C) (.ref C):=by
 intro W fm st s A E e Q hR fl hQ;obtain ⟨a,o,vs,rfl,ho,hcls,_⟩:=fl;obtain ⟨hp,g,d,t,os⟩:=s;exact wpAny_excMatches_sub_self (O.K.keeps hR.keep _ _ hC) ho hcls hbase hQ
theorem an.raise{nm q:Str}{C N:Addr}{bs bm:List Value}{hdct:Bool}{sn:List Str}{sub:List Value}{ab:Bool}{col:Option Bool}{dd:Option Addr}{k0 k1 k2 k3 k5:Option Value}{newId B initId:String}{mN:Str→Option Value}
  {x:Str} {np cpos pos:Pos} {args:List PySem.Expr} {Q:AF→St→Prop} (O:G.Ok) (hc:cx.calm = true) (F:ExcBaseFacts B newId initId bm) (hC:G.K.lookup C = some (excClassObj nm q C N bs bm hdct sn sub ab col dd k0 k1 k2 k3 k5 newId)) (hN:G.h₀.Ns N mN) (hni:mN "__init__" = Option.none)
  (ht:oR G fm (.Name x np) (.ref C)) (h:aU G cx fm X cpos args st fun as st₁=>as.length≤sizeLine∧X (.ref C) st₁) (hplain:∀env,(backTo cpos (starEach args env)).any (·.1)= false:=by intro _;rfl):
  an G cx fm X (.Raise (some (.Call (.Name x np) args [] cpos)) Option.none pos) st Q:=by
 intro W s A hA hW hR hT;refine wpAny_Raise_call_sub F (hA.calm hc) (hplain _) hni (ht hR ⟨rfl,wpAny_mono (h _ W s A hA (bot_le _) hR hT) (fun a s₂ z=>?_) fun Z Y z=>z⟩) (mN:=mN) (N:=N) (C:=C) (nm:=nm) (q:=q) (bs:=bs) (hdct:=hdct) (sn:=sn) (sub:=sub) (ab:=ab) (col:=col) (dd:=dd) (k0:=k0) (k1:=k1) (k2:=k2) (k3:=k3) (k5:=k5);obtain ⟨W₂,st₂,as,le,R₂,⟨hkw,rs⟩,hz,hX⟩:=z;refine ⟨hkw,rs.length▸hz,O.K.keeps R₂.keep _ _ hC,hN.keeps R₂.keep,fun h' e hm=>?_⟩;obtain ⟨t,ht,h1,h2⟩:=hm.there;exact ⟨W₂,st₂,_,le,R₂.keeps (t:=s₂.toks) hm.keeps,⟨e,_,_,rfl,ht,rfl,rfl,by simp,R₂.free hm.new,.inl rfl⟩,hX⟩
end
end
section
open PySem.Calls Builtin Builtin.ObjectAttr Builtin.Getset_descriptor
section
variable {G:Gd}{cx:Cx}{fm:Fm}{X:Value→St→Prop}{W₀ W:Wd}{st:St}{s:Shared}{Q:AV→St→Prop}
structure d8(G:Gd)(C:Addr):Prop where
 get:findIn G.K (.ref C) "__getattribute__" = some (some (.builtin "object.__getattribute__"))
 ga:findIn G.K (.ref C) "__getattr__" = some Option.none
 set:findIn G.K (.ref C) "__setattr__" = some (some (.builtin "object.__setattr__"))
 over:plainOver G.K C = true
 makes:makesIn G.K C = true
 keep:keepIn G.K (.ref C)= true
theorem aa.cls(O:G.Ok){C:Addr}(c:d8 G C):aa G (.ref C):=fun M A E s hk=>by
 obtain ⟨k,_,L⟩:=looks_keep (M:=M) c.keep (O.K.keeps hk);exact ⟨k,fun Q' h=>L A Q' E s (fun Z Y e=>e) h⟩
theorem Rep.inst(R:Rep G W fm st s){C:Addr}{i:Nat}{v:Value}{ks:List Str}{l:List AV}(ha:RV G W (.obj C i) v)(hi:st.hp i = some (.inst ks l)):
  ∃x d ox es n vs,v = .ref x∧InstAt s.heap x ox C (some (dictOf es n))∧ox.dict = some d∧W.al i = some d∧s.heap.get? d = some (dictOf es n)∧ir es ks vs∧au G W l vs:=by
 obtain ⟨x,d,o,rfl,hF,hc,hd,hp,hal⟩:=ha;obtain ⟨od,ho,es,n,vs,rfl,he,rs⟩:=R.liveObj hi hal;refine ⟨x,d,o,es,n,vs,rfl,⟨R.frozen _ _ hF,hc,by unfold notCls;rw [hp],?_⟩,hd,hal,ho,he,rs⟩
 rw [hd];exact ho
theorem Get.obj{C:Addr}{i:Nat}{name:Str}{ks:List Str}{l:List AV}{b:AV}(O:G.Ok)(c:d8 G C)(hh:hasDictIn G.K C = true)(ha:findIn G.K (.ref C) name = some Option.none)
  (hi:st.hp i = some (.inst ks l)) (hx:cU name ks l = some b) (hr:rU b = false) (h:Q b st):kG G cx fm X (.obj C i) name st Q:=by
 intro W₀ v rv W s A hA hW hR hT;obtain ⟨x,d,ox,es,n,vs,rfl,I,hd,hal,ho,he,rs⟩:=hR.inst (rv.mono hW) hi;obtain ⟨u,hu,ru⟩:=rs.aget hx;exact get_value (hR.inK O) I c.get (findObj_own hh ha rfl (by show getL name es = _;rw [he.get,hu])) (ru.handed hr) ⟨W,st,b,.refl _,hR.toks _,ru,h⟩
theorem Mth.obj{C f:Addr}{i:Nat}{name:Str}{ks:List Str}{l:List AV}(O:G.Ok)(c:d8 G C)(hf:findIn G.K (.ref C) name = some (some (.ref f)))(ht:isFn G.K (.ref f)= true)
  (hi:st.hp i = some (.inst ks l)) (hx:name∉ks):nj G cx fm X (.obj C i) name (.ref f) [.obj C i] st:=by
 intro W s A E pl Q v hA hR rv hQ;have rv':=rv;obtain ⟨x,d,ox,es,n,vs,rfl,I,hd,hal,ho,he,rs⟩:=hR.inst rv hi;have hno:cU name ks vs = Option.none:=by
  have:∀(ks:List Str) (vs:List Value),name∉ks→cU name ks vs = Option.none:=fun ks=>by
   induction ks with
   | nil=>intro vs _;cases vs <;> rfl
   | cons k r ih=>
    intro vs hk;cases vs with
    | nil=>rfl
    | cons v vs=>rw [cB,if_neg (fun (q:k = name)=>hk (by rw [q];exact .head _))];exact ih vs fun q=>hk (.tail _ q)
  exact this ks vs hx
 refine method_fn (hR.inK O) I c.get c.ga hf (beq_iff_eq.mp ht) ?_ (hQ [.ref x] s.toks (au.cons rv' au.nil));show (lookIn name (dictOf es n)).map _ = _;rw [lookIn_dict,he.get,hno];rfl
theorem Set.obj{C:Addr}{i:Nat}{name:Str}{ks:List Str}{l:List AV}{b:AV}{Q:St→Prop}(O:G.Ok)(c:d8 G C)(hh:hasDictIn G.K C = true)(ht:takerIn G.K C name = some Option.none)
  (hi:st.hp i = some (.inst ks l)) (hz:ks.length≤900) (h:Q (st.put i (.inst (d0 name b ks l).1 (d0 name b ks l).2))):tN G cx fm X (.obj C i) name b st Q:=by
 intro W₀ v u rv ru W s A hA hW hR hT;obtain ⟨x,d,ox,es,n,vs,rfl,I,hd,hal,ho,he,rs⟩:=hR.inst (rv.mono hW) hi;have hK:=hR.inK O;refine set_plain hK I c.set (osa_open (s:={s with toks:=s.toks+1}) hK I c.over ht fun bb=>?_);obtain ⟨cd,hc,hd'⟩:=any_some hh;obtain ⟨hx,hcl,hn,-⟩:=I;obtain ⟨oc,odi,oda,osl⟩:=ox;dsimp only at hcl hd;subst hcl hd;refine wpAny_bind (wpAny_pure (wpAny_bind (wpAny_bind (wpAny_loadPart hx (wpAny_bind (looks_clsIn hK hc _ _ _ _ (fun Z Y e=>e) ?_))))));rw [hd'];refine wpAny_pure (a:=some d) (wpAny_bind (wpAny_pure (wpAny_bind ?_)));unfold nsSet;refine wpAny_bind (wpAny_bind (wpAny_askSetting (wpAny_pure (wpAny_bind (wpAny_mkText (wpAny_bind (wpAny_loadPart ho ?_)))))));dsimp only;have hl:((! es.toArray.any (·.key.isStr name))&& es.toArray.any (·.refKey))= false:=by
  have:es.toArray.any (·.refKey)= false:=by
   rw [List.any_toArray,List.any_eq_false];intro e hm;have:∀{es:List DictEntry} {ks:List Str} {vs:List Value},ir es ks vs→∀e∈es,e.refKey = false:=fun {es}=>by
    induction es with
    | nil=>intro _ _ _ e hm;cases hm
    | cons a r ih=>
     intro ks vs h e hm;obtain ⟨k,t,r',us,rfl,rfl,hk,h⟩:=h;rcases mC hm with rfl | hm
     ·unfold DictEntry.refKey;rw [hk]
     ·exact ih h e hm
   rw [this he e hm];simp
  rw [this,Bool.and_false]
 rw [aRefKeyMayBeTheName_at,hl];refine wpAny_updatePart ho ?_;have hput:=putName_dict name (PyData.keyHash G.w.params name) (.str name (s.toks+1)) u es n;have ho':=Heap.get?_update_self (Obj.putName name (PyData.keyHash G.w.params name) (.str name (s.toks+1)) u) ho (by rw [hput];rfl)
 rw [hput] at ho';have he':=he.put (name:=name) (hsh:=PyData.keyHash G.w.params name) (t₀:=s.toks+1) (v:=u);have hlen:(putL name (PyData.keyHash G.w.params name) (.str name (s.toks+1)) u es).length≤1000:=by
  rw [he'.length.1];exact lT gG (by change Ad)
 refine wpAny_bind (wpAny_lookBehind ho' (pastItsLine_dict (by rw [List.size_toArray,sizeLine_eq];change yS)) ?_)
 refine wpAny_pure ?_;refine ⟨W,_,(),.refl _,hR.putObj (t:=s.toks+2) hi hal (Heap.SameBut.update ..).extBut ho' (ao':= .inst (d0 name b ks l).1 (d0 name b ks l).2) ⟨_,_,(d0 name u ks vs).2,rfl,?_,rs.aput (ru.mono hW)⟩,trivial,h⟩;rw [so (u:=u) (us:=vs) rs.length];exact he'
structure iM(G:Gd)(C:Addr)(name:Str)(p:Addr)(k:Nat):Prop where
 find:findIn G.K (.ref C) name = some (some (.ref p))
 get:specialIn G.K (.ref p) "__get__" = some (some (.builtin "member_descriptor.__get__"))
 takes:takesIn G.K (.ref p)= some true
 typ:typeIn G.K (.ref p)= some (.type "member_descriptor")
 at_:slotIn G.K p C = some k
 lt:k < 1000
theorem Rep.slots(R:Rep G W fm st s){C:Addr}{i:Nat}{v:Value}{l:List AV}(ha:RV G W (.ref i) v)(hi:st.hp i = some (.slots C l)):
  ∃x dx od vs,v = .ref x∧W.al i = some x∧W.F dx = some od∧s.heap.get? x = some ⟨.ref C,some dx,.plain,(vs.map some).toArray⟩∧InstAt s.heap x ⟨.ref C,some dx,.plain,(vs.map some).toArray⟩ C (some od)∧au G W l vs:=by
 obtain ⟨x,rfl,hal⟩:=ha;obtain ⟨o,ho,dx,od,hF,vs,rfl,rs⟩:=R.liveObj hi hal;exact ⟨x,dx,od,vs,rfl,hal,hF,ho,⟨ho,rfl,rfl,R.frozen _ _ hF⟩,rs⟩
theorem Get.slot{C p:Addr}{i k:Nat}{name:Str}{l:List AV}{b:AV}(O:G.Ok)(c:d8 G C)(S:iM G C name p k)(hcl:(clsIn G.K C).isSome = true)
  (hi:st.hp i = some (.slots C l)) (hx:l[k]? = some b) (hr:rU b = false) (h:Q b st):kG G cx fm X (.ref i) name st Q:=by
 intro W₀ v rv W s A hA hW hR hT;obtain ⟨x,dx,od,vs,rfl,hal,hF,ho,I,rs⟩:=hR.slots (rv.mono hW) hi;obtain ⟨u,hu,ru⟩:=rs.get hx;have hK:=hR.inK O;refine get_bind hK I c.get (findObj_data hcl S.find S.get S.takes) c.ga (wpAny_call (slot_get (s:={s with toks:=s.toks+1}) hK I S.at_ (v:=u) (by simp [hu]) ?_))
 show wpAny _ _ (handedOut u) _ _ _;rw [handedOut_of (ru.handed hr)];exact wpAny_pure ⟨W,st,b,.refl _,hR.toks _,ru,h⟩
noncomputable def g9(l:List AV)(k:Nat)(b:AV):List AV:=if k < l.length then l.set k b else l++ [b]
theorem Set.slot{C p:Addr}{i k:Nat}{name:Str}{l:List AV}{b:AV}{Q:St→Prop}(O:G.Ok)(c:d8 G C)(S:iM G C name p k)
  (hi:st.hp i = some (.slots C l)) (hk:k≤l.length) (h:Q (st.put i (.slots C (g9 l k b)))):tN G cx fm X (.ref i) name b st Q:=by
 intro W₀ v u rv ru W s A hA hW hR hT;obtain ⟨x,dx,od,vs,rfl,hal,hF,hx,I,rs⟩:=hR.slots (rv.mono hW) hi;have hK:=hR.inK O;refine set_plain hK I c.set (osa_descr (s:={s with toks:=s.toks+1}) KF.slot_mset hK I c.over (by unfold takerIn;rw [S.find,Option.bind_some];show Option.map _ (takesIn G.K (.ref p))= _;rw [S.takes];rfl) S.typ ?_)
 obtain ⟨n,tn,owner,behind,tb,d,sl,cd,ho,hc,hm,hb,hkk⟩:=slot_of hK S.at_;have hlt:=S.lt;have hlen:=rs.length;have hnew:((⟨.ref C,some dx,.plain,(vs.map some).toArray⟩:Obj).slots++Array.replicate (k+1 - (vs.map some).toArray.size) Option.none).setIfInBounds k (some u)=((if k < vs.length then vs.set k u else vs++ [u]).map some).toArray:=by
  dsimp only
  by_cases q:k < vs.length
  ·rw [if_pos q];have:k+1 - (vs.map some).toArray.size = 0:=by simp;change yL
   rw [this];simp [List.map_set]
  ·have hkv:k = vs.length:=by change AJ
   rw [if_neg q];have:k+1 - (vs.map some).toArray.size = 1:=by simp;change yU
   rw [this];subst hkv;simp [Array.replicate]
 obtain ⟨hh,g,dr,t,os⟩:=s;have L0:=I.type (M:=model G.prog G.w);have L1:=looks_mroIn (M:=model G.prog G.w) hK hm;have L2:Looks (model G.prog G.w) hh (Slots.slotNamesOf (.ref C)) cd.slotNames:=(looks_clsIn hK hc).andThen .now;dsimp only at ho hx L0 L1;have f0:=looks_field (M:=model G.prog G.w) ho 0 (v:= .str n tn) rfl;have f1:=looks_field (M:=model G.prog G.w) ho 1 (v:=owner) rfl;have f3:=looks_field (M:=model G.prog G.w) ho 3 (v:= .builtin "proto.slot#set") rfl;have f4:=looks_field (M:=model G.prog G.w) ho 4 (v:= .int behind tb) rfl;refine codeAny_call_builtin KF.slot_mset.plain KF.entry_mset (KF.slot_mset.check _ _ _ _ _ _ _ _ ⟨_,ho,rfl⟩ (KF.args_mset _ _ _) ?_);unfold Builtin.«member_descriptor.__set__» descrSet descrStoreThrough descrCheckInstance descrNameAndClass isInstance;have f5:Looks (model G.prog G.w) hh (descrItself (.ref p)) [.ref p]:=((Looks.ld (part:=Option.none) ho).andThen .now).andThen (Looks.of_pure (by kernel_rfl))
 repeat lk
 refine ⟨Code.quiet_builtin _ (by decide+kernel),codeAny_builtin KF.entry_slotset ?_⟩
 unfold Builtin.«proto.slot#set» Slots.target
 repeat lk
 rw [if_neg hb,← hkk];refine wpAny_pure (wpAny_bind ?_);unfold setSlotAt;dsimp only;refine wE (by rw [sizeLine_eq];exact Nat.not_le.mpr (Nat.lt_trans hlt (by decide))) ?_
 refine wpAny_updatePart hx (wpAny_pure ?_);have hx':=Heap.get?_update_self (fun o=>{o with slots:=(o.slots++Array.replicate (k+1 - o.slots.size) Option.none).setIfInBounds k (some u)}) hx rfl;rw [hnew] at hx';refine ⟨W,_,(),.refl _,hR.putObj (t:=t+1) hi hal (Heap.SameBut.update ..).extBut hx' (ao':= .slots C (g9 l k b)) ⟨dx,od,hF,_,rfl,?_⟩,trivial,h⟩;unfold g9;rw [hlen]
 split
 ·exact rs.set (ru.mono hW)
 ·exact rs.append (au.cons (ru.mono hW) au.nil)
noncomputable def aH(G:Gd)(cx:Cx)(fm:Fm)(X:Value→St→Prop)(f:Addr)(as:List AV)(st:St)(Q:AV→St→Prop):Prop:=
 ∀W s A vs,cx.In fm A→Rep G W fm st s→0 < s.toks→au G W as vs→codeAny G.M A (.call (.ref f) ⟨vs,[]⟩) (qe (dZ G W fm (RV G) Q) (QE G W fm X)) s
theorem aH.cal{f:Addr}{as:List AV}(h:aH G cx fm X f as st Q):bB G cx fm X (.ref f) as st Q:=by
 intro W₀ vs rs W s A hA hW hR hT;refine wpAny_call (codeAny_mono (h W s A vs hA hR hT (rs.mono hW)) fun r s' z=>?_);rcases r with e | (v | _ | _ | _) <;> first | exact z | exact z.elim
theorem Fun.mk{f:Addr}{fd:FuncData}{body:List Stmt}{as:List AV}{ps:List (Str×AV)}{n:Nat}(O:G.Ok)(K:cA G f fd body)(hn:n+1≤cx.n)
  (hb:fS G fd as ps) (hnd:(fd.scope.names.map (·.1)).Nodup) (hps:∀x∈ps.map (·.1),fd.scope.names.lookup x = some .local∨fd.scope.names.lookup x = some .cell)
  (h:∀env,sK env fd.scope→Ex G ⟨n,cx.calm⟩ (o7 fd env fm) (uZ X st) body ⟨bZ ps,st.hp⟩ (mY Q st)):
  aH G cx fm X f as st Q:=fun W s A vs hA hR hT rs=>tg O K hA hn hR hT rs hb hnd hps h
theorem pR(C:Addr)(vs:List Value)(kw:List (Str×Value)):(Code.builtin "type.__call__" ⟨.ref C::vs,kw⟩).weight = 1:=by kernel_rfl
theorem sW(C:Addr)(vs:List Value)(kw:List (Str×Value)):(Code.builtin "type.__call__" ⟨.ref C::vs,kw⟩).envs = []:=by kernel_rfl
theorem rM(C:Addr)(vs:List Value)(kw:List (Str×Value)):(Code.builtin "type.__call__" ⟨.ref C::vs,kw⟩).cUnits = 1:=by kernel_rfl
theorem hZ{A:Around}{C:Addr}{vs:List Value}{n:Nat}(hA:cx.In fm A)(hn:n+1≤cx.n):(⟨n,cx.calm⟩:Cx).In fm (A.under (.builtin "type.__call__" ⟨.ref C::vs,[]⟩)):=by
 refine ⟨hA.calm,?_,?_,?_,hA.frames.2⟩
 ·show A.depth+(Code.builtin "type.__call__" ⟨.ref C::vs,[]⟩).weight+8 * n+400 < recursionLimit;rw [pR];have:=hA.depth;change Bm
 ·show A.units+(Code.builtin "type.__call__" ⟨.ref C::vs,[]⟩).cUnits+80 * n+200 < cLine;rw [rM];have:=hA.units;change Ac
 ·show pushEnvs (Code.builtin "type.__call__" ⟨.ref C::vs,[]⟩).envs A.frames = _;rw [sW];exact hA.frames.1
theorem Cal.makeObj{C fI:Addr}{as:List AV}{n:Nat}(O:G.Ok)(c:d8 G C)(hi:findIn G.K (.ref C) "__init__" = some (some (.ref fI)))(hf:isFn G.K (.ref fI)= true)(hn:n+1≤cx.n)
  (h:∀i,st.hp i = Option.none→aH G ⟨n,cx.calm⟩ fm X fI (.obj C i::as) (st.put i (.inst [] [])) fun r st'=>r = .none∧Q (.obj C i) st'):bB G cx fm X (.ref C) as st Q:=by
 intro W₀ vs rs W s A hA hW hR hT;obtain ⟨hh,g,d,t,os⟩:=s;have hK:=hR.inK O;obtain ⟨i,hi0,le₁,R₁⟩:=hR.pushM emptyDict t;have R₁:=R₁ (.inst [] []) ⟨[],0,[],rfl,⟨rfl,rfl⟩,au.nil⟩;obtain ⟨le₂,R₂⟩:=R₁.pushF (instObj C hh.objs.size) t;have hsz:(hh.push emptyDict).objs.size = hh.objs.size+1:=Heap.size_push ..;dsimp only at le₂ R₂;rw [hsz] at le₂ R₂;have le:=le₁.trans le₂;refine wpAny_call (make_core (makes_of hK c.makes) (looks_findIn hK hi) (fun self=>bind_fn hK self (beq_iff_eq.mp hf)) (.inl rfl) ?_);refine codeAny_mono (h i hi0 _ _ _ (.ref (hh.objs.size+1)::vs) (hZ hA hn) R₂ hT (au.cons ?_ ((rs.mono hW).mono le))) fun r s' z=>?_
 ·exact sZ.mk _ hh.objs.size _ rfl (if_pos rfl) rfl rfl rfl (if_pos rfl)
 ·rcases r with e | (_ | _ | _ | v)
  ·exact QE.le le z
  ·exact z.elim
  ·exact z.elim
  ·exact z.elim
  ·obtain ⟨W',st',a,le',R',ra,rfl,hq⟩:=z;refine ⟨ra,W',st',.obj C i,le.trans le',R',?_,hq⟩;refine RV.mono le' ?_;exact sZ.mk _ hh.objs.size _ rfl (if_pos rfl) rfl rfl rfl (if_pos rfl)
theorem Cal.makeSlots{C fI:Addr}{as:List AV}{n:Nat}(O:G.Ok)(c:d8 G C)(hi:findIn G.K (.ref C) "__init__" = some (some (.ref fI)))(hf:isFn G.K (.ref fI)= true)(hn:n+1≤cx.n)
  (h:∀i,st.hp i = Option.none→aH G ⟨n,cx.calm⟩ fm X fI (.ref i::as) (st.put i (.slots C [])) fun r st'=>r = .none∧Q (.ref i) st'):bB G cx fm X (.ref C) as st Q:=by
 intro W₀ vs rs W s A hA hW hR hT;obtain ⟨hh,g,d,t,os⟩:=s;have hK:=hR.inK O;obtain ⟨le₁,R₁⟩:=hR.pushF emptyDict t;obtain ⟨i,hi0,le₂,R₂⟩:=R₁.pushM (instObj C hh.objs.size) t;have R₂:=R₂ (.slots C []) ⟨hh.objs.size,emptyDict,if_pos rfl,[],rfl,au.nil⟩;have hsz:(hh.push emptyDict).objs.size = hh.objs.size+1:=Heap.size_push ..;dsimp only at le₂ R₂;rw [hsz] at le₂ R₂;have le:=le₁.trans le₂;refine wpAny_call (make_core (makes_of hK c.makes) (looks_findIn hK hi) (fun self=>bind_fn hK self (beq_iff_eq.mp hf)) (.inl rfl) ?_);refine codeAny_mono (h i hi0 _ _ _ (.ref (hh.objs.size+1)::vs) (hZ hA hn) R₂ hT (au.cons ?_ ((rs.mono hW).mono le))) fun r s' z=>?_
 ·exact eJ.mk _ rfl (if_pos rfl)
 ·rcases r with e | (_ | _ | _ | v)
  ·exact QE.le le z
  ·exact z.elim
  ·exact z.elim
  ·exact z.elim
  ·obtain ⟨W',st',a,le',R',ra,rfl,hq⟩:=z;refine ⟨ra,W',st',.ref i,le.trans le',R',RV.mono le' ?_,hq⟩;exact eJ.mk _ rfl (if_pos rfl)
end
end
section
section
variable {G:Gd}{cx:Cx}{fm:Fm}{X:Value→St→Prop}{W₀ W:Wd}{st:St}{s:Shared}{Q:AV→St→Prop}
theorem Mth.list{a:AV}{l:List AV}{name:Str}{id:String}(slot:Slot "list" name id)(hty:typeOf (.builtin id)= Pure.pure (.type "method_descriptor"))(hl:aM st a = some l):nj G cx fm X a name (.builtin id) [a] st:=by
 intro W s A E pl Q v hA hR rv hQ;have rv':=rv;obtain ⟨p,vs,n,rfl,hL,rs⟩:=hR.lst rv hl;exact getMethod_builtin hL.isList.typeIs PySem.F.plainAttrs_list slot hty (fun a e=>by cases e;exact ⟨_,hL,rfl⟩) (hQ [.ref p] s.toks (au.cons rv' au.nil))
inductive vL(h:Heap)(W:Wd)(i:Nat)(P:List Value→Prop)(v:Value):Prop
 | mk (p:Addr) (vs:List Value) (n:Nat) (e:v = .ref p) (a:W.al i = some p) (g:IsL h p vs.toArray n) (r:P vs)
theorem Rep.listM(R:Rep G W fm st s){i:Nat}{l:List AV}{v:Value}(ha:RV G W (.ref i) v)(hi:st.hp i = some (.list l)):vL s.heap W i (au G W l) v:=by
 have ha':=ha;obtain ⟨p,rfl,hal⟩:=ha;obtain ⟨p',vs,n,e,hL,rs⟩:=R.lst ha' (ai hi);cases e;exact ⟨p,vs,n,rfl,hal,hL,rs⟩
theorem Rep.putList(R:Rep G W fm st s){h':Heap}{t:Nat}{i:Nat}{l l':List AV}{p:Addr}{vs':List Value}{n:Nat}(hi:st.hp i = some (.list l))(hal:W.al i = some p)(hk:Heap.SameBut p s.heap h')(hL:IsL h' p vs'.toArray n)(rs:au G W l' vs'):
  Rep G W fm (st.put i (.list l')) {s with heap:=h',toks:=t}:=
 R.putObj hi hal hk.extBut hL ⟨vs',⟨rfl,rfl,rfl,n,rfl⟩,rs⟩
theorem Cal.append{i:Nat}{l:List AV}{a:AV}(hi:st.hp i = some (.list l))(hz:l.length≤sizeLine)(h:Q .none (st.put i (.list (l++ [a])))):bB G cx fm X (.builtin "list.append") [.ref i,a] st Q:=by
 intro W₀ vs rs W s A hA hW hR hT;obtain ⟨v,_,rfl,rv,u,_,rfl,ru,rfl⟩:=rs;obtain ⟨p,vs,n,rfl,hal,hL,rs⟩:=hR.listM (rv.mono hW) hi;refine gC hL (rs.length▸hz) fun h' n' hL' hs=>?_;exact ⟨W,_,.none,.refl _,hR.putList (t:=s.toks) hi hal hs hL' (rs.append (au.cons (ru.mono hW) au.nil)),rfl,h⟩
theorem jg(vs:List Value)(k:Nat):vs.toArray.eraseIdxIfInBounds k =(vs.eraseIdx k).toArray:=by
 simp
theorem au.erase:∀{l:List AV} {vs:List Value},au G W l vs→∀k,au G W (l.eraseIdx k) (vs.eraseIdx k):=by
 intro zl
 induction zl with
 | nil=>
  intro _ e _;obtain rfl:=e;exact au.nil
 | cons x l ih=>
  intro _ e k;obtain ⟨u,r,rfl,e1,e⟩:=e;cases k with
  | zero=>exact e
  | succ k=>exact au.cons e1 (ih e k)
theorem Cal.popLast{i:Nat}{l:List AV}{a:AV}(hi:st.hp i = some (.list (l++ [a])))(hz:(l++ [a]).length≤sizeLine)(h:Q a (st.put i (.list l))):bB G cx fm X (.builtin "list.pop") [.ref i] st Q:=by
 intro W₀ vs rs W s A hA hW hR hT;obtain ⟨v,_,rfl,rv,rfl⟩:=rs;obtain ⟨p,vs,n,rfl,hal,hL,rs⟩:=hR.listM (rv.mono hW) hi;have hlen:=rs.length;obtain ⟨y,hy,ry⟩:=rs.get (i:=l.length) (x:=a) (by simp)
 have hsz:vs.toArray.size - 1 = l.length:=by simp at hlen ⊢;change wF
 refine call_meets PySem.F.slot_list_pop ⟨_,hL,rfl⟩ PySem.F.entry_list_pop (PySem.F.args_list_pop_1 _) (MeetsSeq.list_pop_last p vs.toArray n y (by rw [hsz];simpa using hy) (by simpa [← hlen] using hz)) ⟨hL,?_⟩
 have hL':=IsL.update hL (fun xs=>xs.eraseIdxIfInBounds (vs.toArray.size - 1));rw [hsz,jg] at hL';refine ⟨W,_,a,.refl _,hR.putList (t:=s.toks) (l':=l) hi hal (Heap.SameBut.update ..) (by rw [hsz];exact hL') ?_,ry,h⟩
 have:=rs.erase l.length
 rwa [List.eraseIdx_append_of_length_le (Nat.le_refl _),Nat.sub_self,List.eraseIdx_cons_zero,List.append_nil] at this
theorem Cal.clear{i:Nat}{l:List AV}(hi:st.hp i = some (.list l))(hz:l.length≤sizeLine)(h:Q .none (st.put i (.list []))):bB G cx fm X (.builtin "list.clear") [.ref i] st Q:=by
 intro W₀ vs rs W s A hA hW hR hT;obtain ⟨v,_,rfl,rv,rfl⟩:=rs;obtain ⟨p,vs,n,rfl,hal,hL,rs⟩:=hR.listM (rv.mono hW) hi;refine call_meets PySem.F.slot_list_clear ⟨_,hL,rfl⟩ PySem.F.entry_list_clear (PySem.F.args_list_clear_1 _) (AutoSeq1.list_clear_list_0 p vs.toArray n (by simpa [← rs.length] using hz)) ⟨hL,?_⟩
 have hL':=IsL.update hL (fun Z=> #[]);exact ⟨W,_,.none,.refl _,hR.putList (t:=s.toks) (vs':= []) hi hal (Heap.SameBut.update ..) hL' au.nil,rfl,h⟩
theorem Bin.addListF{a b:AV}{l l':List AV}(ha:aM st a = some l)(hb:aM st b = some l')(hz:l.length+l'.length≤sizeLine)(h:Q (.lst (l++l')) st):ji G cx fm X .Add a b st Q:=by
 intro W₀ v u rv ru W s A hA hW hR hT;obtain ⟨p,vs,n,rfl,hL,rs⟩:=hR.lst (rv.mono hW) ha;obtain ⟨q,us,m,rfl,hL',rs'⟩:=hR.lst (ru.mono hW) hb;refine P.add_list hL hL' ?_ (by simpa [← rs.length,← rs'.length] using hz)
 obtain ⟨le,hR'⟩:=hR.pushF {cls:= .type "list",data:= .seq (vs.toArray++us.toArray)} s.toks;refine ⟨_,st,.lst (l++l'),le,hR',?_,h⟩;exact dh.mk _ _ (vs++us) rfl (if_pos rfl) ⟨rfl,rfl,rfl,0,by simp⟩ ((rs.append rs').mono le)
theorem au.strs:∀{ys:List Str} {vs:List Value},au G W (ys.map .str) vs→StrsAre vs ys:=by
 intro zl
 induction zl with
 | nil=>
  intro _ e;obtain rfl:=e;exact .nil
 | cons y ys ih=>
  intro _ e;obtain ⟨u,r,rfl,⟨t,rfl⟩,e⟩:=e;exact .cons y t (ih e)
theorem c9(ys:List Str)(k:Str):ys.any (·== k)= decide (k∈ys):=by
 rw [Bool.eq_iff_iff];simp
theorem Cmp.inStrs{a:AV}{ys:List Str}{k:Str}(ha:fJ st a = some (ys.map .str))(h:Q (.bool (decide (k∈ys))) st):dH G cx fm X .In (.str k) a st Q:=by
 intro W₀ v u rv ru W s A hA hW hR hT;obtain ⟨t,rfl⟩:=rv;obtain ⟨p,T,vs,n,hT,rfl,hp,rs⟩:=hR.seq (ru.mono hW) ha;have hs:=rs.strs;rcases hT with rfl | rfl
 ·exact in_list_strs (IsL.isList hp) hs ⟨W,st,_,.refl _,hR,by rw [c9];simp,h⟩
 ·exact in_tuple_strs ⟨_,hp,rfl,n,rfl⟩ (by simpa using hs) ⟨W,st,_,.refl _,hR,by rw [c9];simp,h⟩
theorem Cmp.notInStrs{a:AV}{ys:List Str}{k:Str}(ha:fJ st a = some (ys.map .str))(h:Q (.bool (! decide (k∈ys))) st):dH G cx fm X .NotIn (.str k) a st Q:=by
 intro W₀ v u rv ru W s A hA hW hR hT;obtain ⟨t,rfl⟩:=rv;obtain ⟨p,T,vs,n,hT,rfl,hp,rs⟩:=hR.seq (ru.mono hW) ha;have hs:=rs.strs;rcases hT with rfl | rfl
 ·exact notin_list_strs (IsL.isList hp) hs ⟨W,st,_,.refl _,hR,by rw [c9];simp,h⟩
 ·exact notin_tuple_strs ⟨_,hp,rfl,n,rfl⟩ (by simpa using hs) ⟨W,st,_,.refl _,hR,by rw [c9];simp,h⟩
end
end
section
theorem cL:∀(ks:List Str) (vs:List Value) (k:Str),ks.length = vs.length→valueAt (ks.zip vs) k = cU k ks vs
 | [],_,_,_=>by simp [valueAt];rfl
 | x::ks,[],_,h=>by cases h
 | x::ks,y::vs,k,h=>by
  have ih:=cL ks vs k (Nat.succ.inj h);unfold valueAt at ih ⊢;simp only [List.zip_cons_cons,List.find?_cons,cB]
  by_cases q:x = k
  ·simp [q]
  ·simp only [q,decide_false,if_false];exact ih
noncomputable def dJ{α:Type}(k:Str):List Str→List α→List Str×List α
 | x::ks,y::vs=>if x = k then (ks,vs) else (x::(dJ k ks vs).1,y::(dJ k ks vs).2)
 | ks,vs=>(ks,vs)
theorem eV{α:Type}{k x:Str}{y:α}{ks:List Str}{vs:List α}:dJ k (x::ks) (y::vs)= if x = k then (ks,vs) else (x::(dJ k ks vs).1,y::(dJ k ks vs).2):=rfl
theorem mt{α:Type}{k:Str}:∀{ks:List Str} {vs:List α},ks.length = vs.length→(dJ k ks vs).1.length =(dJ k ks vs).2.length:=by
 intro zl
 induction zl with
 | nil=>
  intro zm;cases zm with
  | nil=>
   intro _;exact rfl
  | cons _ _=>
   intro h;cases h
 | cons x ks ih=>
  intro zm;cases zm with
  | nil=>
   intro h;cases h
  | cons y vs=>
   intro h;rw [eV];split
   ·exact Nat.succ.inj h
   ·simp [ih (Nat.succ.inj h)]
theorem rj{α β:Type}{k:Str}:∀{ks:List Str} {vs:List α} {us:List β},vs.length = us.length→(dJ k ks vs).1 =(dJ k ks us).1:=by
 intro zl
 induction zl with
 | nil=>
  intro _ _ _;exact rfl
 | cons x ks ih=>
  intro zm;cases zm with
  | nil=>
   intro us e;cases us with | nil=>rfl | cons _ _=>cases e
  | cons y vs=>
   intro us e;cases us with
   | nil=>cases e
   | cons z us=>
    rw [eV,eV];split
    ·rfl
    ·dsimp only;rw [ih (Nat.succ.inj e)]
theorem fH{k:Str}:∀{ks:List Str} {vs:List Value},ks.length = vs.length→ks.Nodup→without (ks.zip vs) k =(dJ k ks vs).1.zip (dJ k ks vs).2
 | [],[],_,_=>rfl
 | [],_::_,h,_=>by cases h
 | _::_,[],h,_=>by cases h
 | x::ks,y::vs,h,hn=>by
  have hn':=List.nodup_cons.mp hn;have ih:=fH (k:=k) (Nat.succ.inj h) hn'.2;unfold without at ih ⊢;rw [eV]
  by_cases q:x = k
  ·subst q;rw [if_pos rfl,List.zip_cons_cons,List.filter_cons,if_neg (by simp)]
   rw [List.filter_eq_self];rintro ⟨a,b⟩ hm;have:=(List.of_mem_zip hm).1;simp only [ne_eq,decide_eq_true_eq];rintro rfl;exact hn'.1 this
  ·rw [if_neg q,List.zip_cons_cons,List.filter_cons,if_pos (by simpa using q),ih];rfl
section
variable {G:Gd}{cx:Cx}{fm:Fm}{X:Value→St→Prop}{W₀ W:Wd}{st:St}{s:Shared}{Q:AV→St→Prop}
theorem isDict.len{o:Obj}{ks:List Str}{vs:List Value}(h:isDict G o ks vs):ks.length = vs.length:=match h with | ⟨_,_,_,_,_,_,h,_⟩=>h
theorem isDict.nodup{o:Obj}{ks:List Str}{vs:List Value}(h:isDict G o ks vs):ks.Nodup:=match h with | ⟨_,_,_,_,_,_,_,h⟩=>h
theorem isDict.e{o:Obj}{ks:List Str}{vs:List Value}(h:isDict G o ks vs):∃ep,ew G o ks vs ep:=by obtain ⟨a,es,ep,b,c,d,e,f⟩:=h;exact ⟨ep,a,es,b,c,d,e,f⟩
set_option tactic.hygienic true in
theorem au.aget_none{k:Str}:∀{ks:List Str} {l:List AV} {vs:List Value},au G W l vs→Mine.cU k ks l = Option.none→Mine.cU k ks vs = Option.none:=by
 intro zl
 induction zl with
 | nil=>
  intro _ _ _ _;rfl
 | cons x ks ih=>
  intro zm;cases zm with
  | nil=>
   intro _ h _;obtain rfl:=h;rfl
  | cons y l=>
   intro _ h e;obtain ⟨v,r,rfl,h1,h⟩:=h;rw [cB] at e ⊢
   split at e
   ·cases e
   ·rename_i q;rw [if_neg q];exact ih h e
theorem au.adel{k:Str}:∀{ks:List Str} {l:List AV} {vs:List Value},ks.length = l.length→au G W l vs→au G W (Mine.dJ k ks l).2 (Mine.dJ k ks vs).2:=by
 intro zl
 induction zl with
 | nil=>
  intro _ _ _ h;exact h
 | cons x ks ih=>
  intro zm;cases zm with
  | nil=>
   intro _ e _;cases e
  | cons y l=>
   intro _ e h;obtain ⟨v,r,rfl,h1,h⟩:=h;rw [eV,eV]
   split
   ·exact h
   ·exact au.cons h1 (ih (Nat.succ.inj e) h)
theorem Mth.dict{a:AV}{ks:List Str}{l:List AV}{name:Str}{id:String}(slot:Slot "dict" name id)(hty:typeOf (.builtin id)= Pure.pure (.type "method_descriptor"))(hl:fB st a = some (ks,l)):nj G cx fm X a name (.builtin id) [a] st:=by
 intro W s A E pl Q v hA hR rv hQ;have rv':=rv;obtain ⟨p,o,vs,rfl,ho,hd,rs⟩:=hR.dct rv hl;exact getMethod_builtin (hd.dictOf ho).typeIs PySem.F.plainAttrs_dict slot hty (fun a e=>by cases e;exact ⟨_,ho,hd.1.2.1⟩) (hQ [.ref p] s.toks (au.cons rv' au.nil))
theorem Cal.dictGet{a:AV}{ks:List Str}{l:List AV}{k:Str}(O:G.Ok)(hl:fB st a = some (ks,l))(h:Q ((cU k ks l).getD .none) st):bB G cx fm X (.builtin "dict.get") [a,.str k] st Q:=by
 intro W₀ vs rs W s A hA hW hR hT;obtain ⟨v,_,rfl,rv,u,_,rfl,⟨t,rfl⟩,rfl⟩:=rs;have rv':=rv.mono hW;obtain ⟨p,o,vs,rfl,ho,hd,rs⟩:=hR.dct rv' hl;have hD:=hd.dictOf ho;refine call_meetsIn PySem.F.slot_dict_get hD.typeIs PySem.F.entry_dict_get (PySem.F.args_dict_get_2 _ _) (meets_dict_get (strKind G.prog G.w) p (strKind_is G.prog G.w k t) (fP O hR rv' hl)) ⟨_,hD.mapOf,?_⟩;show dZ _ _ _ _ _ _ _;rw [cL _ _ _ hd.len];refine ⟨W,st,_,.refl _,hR.toks _,?_,h⟩;cases e:cU k ks l with
 | some x=>obtain ⟨u,hu,ru⟩:=rs.aget e;rw [hu];exact ru
 | none=>rw [rs.aget_none e];exact rfl
theorem d9(k:Str):∀{ks:List Str} {l:List AV},ks.length = l.length→(cU k ks l).isSome = decide (k∈ks)
 | [],[],_=>by rfl
 | x::ks,[],h=>by cases h
 | x::ks,y::l,h=>by
  have ih:=d9 k (Nat.succ.inj h);rw [cB]
  by_cases q:x = k
  ·simp [q]
  ·rw [if_neg q,ih];have:¬k = x:=fun e=>q e.symm;simp [this]
 | [],_::_,h=>by cases h
theorem Cmp.inDict{a:AV}{ks:List Str}{l:List AV}{k:Str}(O:G.Ok)(hl:fB st a = some (ks,l))(h:Q (.bool (decide (k∈ks))) st):dH G cx fm X .In (.str k) a st Q:=by
 intro W₀ v u rv ru W s A hA hW hR hT;obtain ⟨t,rfl⟩:=rv;have ru':=ru.mono hW;obtain ⟨p,o,vs,rfl,ho,hd,rs⟩:=hR.dct ru' hl;have hD:=hd.dictOf ho;refine wpAny_in_of (strKind_is G.prog G.w k t) (fP O hR ru' hl) hD.mapOf ?_;refine ⟨W,st,_,.refl _,hR.toks _,?_,h⟩;rw [cL _ _ _ hd.len];rw [df]
 congr 1
 rw [← d9 k (hd.len.trans rs.length.symm)];cases e:cU k ks l with
 | some x=>obtain ⟨u,hu,ru⟩:=rs.aget e;rw [hu];rfl
 | none=>rw [rs.aget_none e];rfl
inductive zp(d:Nat)(b:AV)(Q:St→Prop)(kv:AV)(st₂:St):Prop
 | mk (k:Str) (ks:List Str) (l:List AV) (ep:Nat) (hk:kv = .str k) (hd:st₂.hp d = some (.dict ks l ep)) (hz:ks.length≤sizeLine) (h:∀ep',Q (st₂.put d (.dict (dput ks l k b).1 (dput ks l k b).2 ep')))
inductive BJ(G:Gd)(cx:Cx)(fm:Fm)(X:Value→St→Prop)(i:PySem.Expr)(b:AV)(Q:St→Prop)(a:AV)(st₁:St):Prop
 | mk (d:Nat) (ha:a = .ref d) (h:Ev G cx fm X i st₁ (zp d b Q))
theorem Asg.subDict{o i:PySem.Expr}{pos:Pos}{b:AV}{Q:St→Prop}
  (h:Ev G cx fm X o st (BJ G cx fm X i b Q)):
  cY G cx fm X (.Subscript o i pos) b st Q:=by
 intro W₀ v rv;rw [arm_assign_Subscript];refine J.bind (J.holding (J.mono (J.from h) (fun a st₁ h₁ W₁ u le ra=>?_) fun Z Y z=>z));obtain ⟨d,rfl,h₁⟩:=h₁;refine J.bind (J.holding (J.mono (J.from h₁) (fun kv st₂ h₂ W₂ kx le₂ rk=>J.standAt ?_) fun Z Y z=>z));obtain ⟨k,ks,l,ep,rfl,hd,hz,hQ⟩:=h₂;obtain ⟨t,rfl⟩:=rk;refine J.bind (J.holding ?_) (β:=Unit) (R₁:=RU);intro W s A hA hW hR hT;obtain ⟨p,ob,vs,rfl,ho,hdi,rs⟩:=hR.dctE ((ra.mono le₂).mono hW) hd;have hD:=hdi.isDict;refine wpAny_setItem_pairs (strKind_is G.prog G.w k t) (hD.dictOf ho) (fun h' hd' hs=>?_) (by simp [← hD.len];exact hz)
 obtain ⟨o',g1,g2⟩:=eo hd' (gw hD.len hD.nodup) (gI hD.len);obtain ⟨ep',g2⟩:=g2.e;have hal:W.al d = some p:=by obtain ⟨a,e,hal⟩:=ra;cases e;exact hW.al _ _ (le₂.al _ _ hal)
 have rbv:=(rv.mono le).mono (le₂.trans hW);refine ⟨W,st₂.put d (.dict (dput ks l k b).1 (dput ks l k b).2 ep'),(),.refl _,hR.putObj (t:=s.toks+1) hd hal hs.extBut g1 ⟨_,?_,rs.dput rbv⟩,trivial,fun W₃ Z le₃ Y=>J.release' (hQ ep')⟩;rw [iz (us:=vs) (u:=v)];exact g2
theorem Cal.values{d:Nat}{ks:List Str}{l:List AV}{ep:Nat}(O:G.Ok)(hd:st.hp d = some (.dict ks l ep))(h:Q (.vals (.ref d)) st):bB G cx fm X (.builtin "dict.values") [.ref d] st Q:=by
 intro W₀ vs rs W s A hA hW hR hT;obtain ⟨v,_,rfl,rv,rfl⟩:=rs;have rv':=rv.mono hW;obtain ⟨p,ob,vs,rfl,ho,hdi,rs⟩:=hR.dctE rv' hd;have hD:=hdi.isDict.dictOf ho;refine call_meetsIn PySem.F.slot_dict_values hD.typeIs PySem.F.entry_dict_values (PySem.F.args_dict_values_1 _) (meets_dict_values (strKind G.prog G.w) p (fP O hR rv' (bv hd))) ⟨⟨_,hD⟩,?_⟩;obtain ⟨le,hR'⟩:=hR.pushF {cls:= .type "dict_values",data:= .fields #[.ref p]} s.toks;refine ⟨_,st,.vals (.ref d),le,hR',?_,h⟩;have:=rv'.mono le;exact rl.mk _ _ (.ref p) rfl (if_pos rfl) rfl rfl this
theorem Ev.dict0{pos:Pos}(h:∀i,st.hp i = Option.none→Q (.ref i) (st.put i (.dict [] [] 0))):Ev G cx fm X (.Dict [] [] pos) st Q:=by
 refine J.of_eq (t':=do PySem.standAt pos;newDict) rfl (J.standAt ?_)
 intro W s A hA hW hR hT;refine wpAny_newObj_type ?_ (by simp [sizeOk])
 obtain ⟨i,hi,le,hR'⟩:=hR.pushM {cls:= .type "dict",data:= .dict #[]} s.toks;refine ⟨_,_,.ref i,le,hR' (.dict [] [] 0) ⟨[],⟨⟨rfl,rfl,rfl⟩,#[],rfl,?_,?_,rfl,List.nodup_nil⟩,au.nil⟩,?_,h i hi⟩
 ·intro e he;simp at he
 ·exact .nil
 ·exact eJ.mk _ rfl (if_pos rfl)
inductive AN(d:Nat)(Q:AF→St→Prop)(kv:AV)(st₂:St):Prop
 | mk (k:Str) (ks:List Str) (l:List AV) (ep:Nat) (hk:kv = .str k) (hd:st₂.hp d = some (.dict ks l ep)) (hz:ks.length≤sizeLine) (hm:k∈ks) (h:∀ep',Q .next (st₂.put d (.dict (dJ k ks l).1 (dJ k ks l).2 ep')))
inductive BQ(G:Gd)(cx:Cx)(fm:Fm)(X:Value→St→Prop)(i:PySem.Expr)(Q:AF→St→Prop)(a:AV)(st₁:St):Prop
 | mk (d:Nat) (ha:a = .ref d) (h:Ev G cx fm X i st₁ (AN d Q))
theorem an.delDict{o i:PySem.Expr}{spos pos:Pos}{Q:AF→St→Prop}
  (h:Ev G cx fm X o st (BQ G cx fm X i Q)):an G cx fm X (.Delete [.Subscript o i spos] pos) st Q:=by
 refine J.of_eq (t':=do
  PySem.standAt pos
  (do
   (do
    let ov ← eval o fm.env
    let iv ← PySem.holding [ov] (eval i fm.env)
    PySem.standAt spos
    PySem.holding [ov,iv] (delItem ov iv)
    PySem.release [ov,iv] [])
   Pure.pure ())
  Pure.pure .next) rfl ?_
 refine J.standAt (J.bind (β:=Unit) (R₁:=RU) (J.bind (β:=Unit) (R₁:=RU) (J.bind (J.mono (J.from h) (fun a st₁ h₁ W₁ u le ra=>?_) fun Z Y z=>z))));obtain ⟨d,rfl,h₁⟩:=h₁;refine J.bind (J.holding (J.mono (J.from h₁) (fun kv st₂ h₂ W₂ kx le₂ rk=>J.standAt ?_) fun Z Y z=>z));obtain ⟨k,ks,l,ep,rfl,hd,hz,hk,hQ⟩:=h₂;obtain ⟨t,rfl⟩:=rk;refine J.bind (J.holding ?_) (β:=Unit) (R₁:=RU);intro W s A hA hW hR hT;obtain ⟨p,ob,vs,rfl,ho,hdi,rs⟩:=hR.dctE ((ra.mono le₂).mono hW) hd;have hD:=hdi.isDict;have hDO:=hD.dictOf ho;have hlen:=hD.len.trans rs.length.symm;refine wpAny_delItem_slot hDO.typeIs (by decide) PySem.F.slot_dict_delitem (call_meetsIn PySem.F.slot_dict_delitem hDO.typeIs PySem.F.entry_dict_delitem (PySem.F.args_dict_delitem_2 _ _) (meets_dict_delitem_pairs (strKind G.prog G.w) p (strKind_is G.prog G.w k t)) ⟨_,hDO,?_,?_,fun h' hd' hs=>?_⟩)
 ·simp [← hD.len];exact hz
 ·rw [cL _ _ _ hD.len];have:=d9 k hlen;simp only [hk,decide_true] at this;obtain ⟨x,hx⟩:=Option.isSome_iff_exists.mp this;obtain ⟨u,hu,_⟩:=rs.aget hx;rw [hu];rfl
 ·obtain ⟨o',g1,g2⟩:=eo hd' (fH hD.len hD.nodup) (mt hD.len);obtain ⟨ep',g2⟩:=g2.e;have hal:W.al d = some p:=by obtain ⟨a,e,hal⟩:=ra;cases e;exact hW.al _ _ (le₂.al _ _ hal)
  refine ⟨W,st₂.put d (.dict (dJ k ks l).1 (dJ k ks l).2 ep'),(),.refl _,hR.putObj (t:=s.toks+1) hd hal hs.extBut g1 ⟨_,?_,rs.adel hlen⟩,trivial,fun W₃ Z le₃ Y=>J.release' fun W₄ Z Y V=>J.pure (b:=()) (fun Z Y=>trivial) fun W₅ Z Y V=>J.pure (b:=AF.next) (fun Z Y=>rfl) (hQ ep')⟩;rw [rj (us:=vs) rs.length];exact g2
end
end
section
section
variable {G:Gd}{cx:Cx}{fm:Fm}{X:Value→St→Prop}{W₀ W:Wd}{st:St}{s:Shared}{Q:AV→St→Prop}
theorem dP.setOf{h:Heap}{a:Addr}{o:Obj}{S:Str→Bool}{n:Nat}(x:dP G o S n)(ho:h.get? a = some o):h.SetOf (strKind G.prog G.w) a S n:=
 by obtain ⟨es,ep,t,e1,e2,e3⟩:=x;exact ⟨o,es,ep,t,ho,e1,e2,e3⟩
theorem dP.of{h:Heap}{a:Addr}{S:Str→Bool}{n:Nat}(x:h.SetOf (strKind G.prog G.w) a S n):∃o,h.get? a = some o∧dP G o S n:=
 by obtain ⟨o,es,ep,t,ho,e⟩:=x;exact ⟨o,ho,es,ep,t,e⟩
inductive xq(G:Gd)(h:Heap)(W:Wd)(i:Nat)(S:Str→Bool)(n:Nat)(v:Value):Prop
 | mk (p:Addr) (e:v = .ref p) (a:W.al i = some p) (g:h.SetOf (strKind G.prog G.w) p S n)
theorem Rep.set(R:Rep G W fm st s){i:Nat}{S:Str→Bool}{n:Nat}{v:Value}(ha:RV G W (.ref i) v)(hi:st.hp i = some (.set S n)):xq G s.heap W i S n v:=by
 obtain ⟨p,rfl,hal⟩:=ha;obtain ⟨o,ho,hs⟩:=R.liveObj hi hal;exact ⟨p,rfl,hal,dP.setOf hs ho⟩
theorem Mth.setAdd{i:Nat}{S:Str→Bool}{n:Nat}(hi:st.hp i = some (.set S n)):nj G cx fm X (.ref i) "add" (.builtin "set.add") [.ref i] st:=by
 intro W s A E pl Q v hA hR rv hQ;obtain ⟨p,rfl,hal,hS⟩:=hR.set rv hi;exact getMethod_set_add hS (hQ [.ref p] s.toks (au.cons rv au.nil))
theorem eS(k:Str)(t:Tok):(Value.str k t).scannable = true:=rfl
theorem Cal.setAdd{i:Nat}{S:Str→Bool}{n:Nat}{k:Str}(hi:st.hp i = some (.set S n))(hn:n < 4000)(h:Q .none (st.put i (.set (fun k'=>S k' || decide (k' = k)) (if S k then n else n+1)))):bB G cx fm X (.builtin "set.add") [.ref i,.str k] st Q:=by
 intro W₀ vs rs W s A hA hW hR hT;obtain ⟨v,_,rfl,rv,u,_,rfl,⟨t,rfl⟩,rfl⟩:=rs;obtain ⟨p,rfl,hal,hS⟩:=hR.set (rv.mono hW) hi;refine call_set_add (strKind_is G.prog G.w k t) (eS k t) hS (by show n+1 < 4096;change zz) fun h' hs hS'=>?_
 obtain ⟨o',g1,g2⟩:=dP.of hS';exact ⟨W,_,.none,.refl _,hR.putObj (t:=s.toks+1) (ao':= .set _ _) hi hal hs.extBut g1 g2,by simp,h⟩
theorem Cmp.inSet{i:Nat}{S:Str→Bool}{n:Nat}{k:Str}(hi:st.hp i = some (.set S n))(h:Q (.bool (S k)) st):dH G cx fm X .In (.str k) (.ref i) st Q:=by
 intro W₀ v u rv ru W s A hA hW hR hT;obtain ⟨t,rfl⟩:=rv;obtain ⟨p,rfl,hal,hS⟩:=hR.set (ru.mono hW) hi;exact wpAny_inSet_of (strKind_is G.prog G.w k t) (eS k t) hS ⟨W,st,_,.refl _,hR.toks _,by simp,h⟩
theorem Cal.set0(h:∀i,st.hp i = Option.none→Q (.ref i) (st.put i (.set (fun Z=>false) 0))):bB G cx fm X (.type "set") [] st Q:=by
 intro W₀ vs rs W s A hA hW hR hT;obtain rfl:=rs;refine call_set_0 fun led=>?_;obtain ⟨i,hi,le,hR'⟩:=hR.pushM {cls:= .type "set",dict:=Option.none,data:= .set #[] 0 (.fresh 0 0 led)} s.toks;refine ⟨_,_,.ref i,le,hR' (.set (fun Z=>false) 0) ⟨#[],0,_,⟨rfl,rfl,rfl⟩,rfl,fun e he=>by simp at he,fun k=>by simp,by decide,by rfl,rfl⟩,?_,h i hi⟩
 exact eJ.mk _ rfl (if_pos rfl)
theorem Cal.len{a:AV}{l:List AV}(ha:fJ st a = some l)(hz:l.length≤sizeLine)(h:Q (.int l.length) st):bB G cx fm X (.builtin "len") [a] st Q:=by
 intro W₀ vs rs W s A hA hW hR hT;obtain ⟨v,_,rfl,rv,rfl⟩:=rs;obtain ⟨p,T,vs,n,hT,rfl,hp,rs⟩:=hR.seq (rv.mono hW) ha;have hlen:=rs.length;have hfit:((vs.toArray.size:Nat):Int) < 2 ^ 63:=by
  have:=bK;have:(vs.toArray.size:Int)≤sizeLine:=by simp [← hlen];exact_mod_cast hz
  change vj
 have fin:∀t k,dZ G W fm (RV G) Q (.int vs.toArray.size t) {s with toks:=k}:=fun t k=>⟨W,st,.int l.length,.refl _,hR.toks _,by simp [hlen],h⟩
 rcases hT with rfl | rfl
 ·exact Calls.call_len_list (IsL.isList hp) hfit (fin _ _)
 ·exact P.len_tuple hp (by omega) (fin _ _)
theorem Tru.list{a:AV}{l:List AV}{Q:Bool→St→Prop}(ha:aM st a = some l)(hz:l.length≤sizeLine)(h:Q (! l.isEmpty) st):jU G cx fm X a st Q:=by
 intro W₀ v rv W s A hA hW hR hT;obtain ⟨p,vs,n,rfl,hL,rs⟩:=hR.lst (rv.mono hW) ha;have hlen:=rs.length;have hfit:((vs.toArray.size:Nat):Int) < 2 ^ 63:=by
  have:=bK;have:(vs.toArray.size:Int)≤sizeLine:=by simp [← hlen];exact_mod_cast hz
  change vj
 refine wpAny_truthy_list hL.isList hfit ⟨W,st,_,.refl _,hR.toks _,?_,h⟩;cases l <;> cases vs <;> simp_all
theorem Cal.tuple{a:AV}{l:List AV}(ha:aM st a = some l)(hz:l.length≤sizeLine)(h:Q (.tup l) st):bB G cx fm X (.type "tuple") [a] st Q:=by
 intro W₀ vs rs W s A hA hW hR hT;obtain ⟨v,_,rfl,rv,rfl⟩:=rs;obtain ⟨p,vs,n,rfl,hL,rs⟩:=hR.lst (rv.mono hW) ha;refine call_tuple_list hL.isList (fun h' hk=>?_) (by simpa [← rs.length] using hz)
 have R₁:=hR.keeps (t:=s.toks) hk;obtain ⟨le,hR'⟩:=R₁.pushF {cls:= .type "tuple",data:= .seq vs.toArray} s.toks;refine ⟨_,st,.tup l,le,hR',?_,h⟩;exact dh.mk _ _ (vs) rfl (if_pos rfl) ⟨rfl,rfl,rfl,0,rfl⟩ (rs.mono le)
theorem sr{ks:List Str}{us vs:List Value}{acc:Array Value}{n:Nat}(hlen:ks.length = us.length)(hn:n = ks.length)(ha:ItemsOf (fun i v=>∃k x,(ks.zip us)[i]? = some (k,x)∧(strKind G.prog G.w).is k v = true) acc n):au G W (ks.map .str) acc.toList:=by
 subst hn;refine au.of_get (by simp [ha.1]) fun i x v hx hv=>?_
 obtain ⟨k,y,h1,h2⟩:=ha.2 i v (by rw [← Array.getElem?_toList];exact hv)
 rw [gM] at hx;rw [List.getElem?_zip_eq_some] at h1;rw [h1.1] at hx;cases hx;exact Value.isStrOf_shape h2
theorem Cal.listKeys{a:AV}{ks:List Str}{l:List AV}(O:G.Ok)(hc:cx.calm = true)(ha:fB st a = some (ks,l))(hz:ks.length≤sizeLine)(h:Q (.lst (ks.map .str)) st):bB G cx fm X (.type "list") [a] st Q:=by
 intro W₀ vs rs W s A hA hW hR hT;obtain ⟨v,_,rfl,rv,rfl⟩:=rs;have rv':=rv.mono hW;obtain ⟨p,o,vs,rfl,ho,hd,rs⟩:=hR.dct rv' ha;obtain ⟨ep,hde⟩:=hd.e;have hzl:(ks.zip vs).length = ks.length:=by simp [hd.len]
 refine kdl_call (kdl_dict (knd:=strKind G.prog G.w) (kvs:=ks.zip vs) (ep:=ep) (fP O hR rv' ha)) (hA.calm hc) (dictAt ho hde) (by rw [hzl];exact hz) fun h' tk acc c hk hn hi=>?_
 obtain ⟨le,hR'⟩:=hR.freezeNew (t:=tk) hk (aw _) hn;refine ⟨_,st,.lst (ks.map .str),le,hR',?_,h⟩;exact dh.mk _ _ (acc.toList) rfl (if_pos rfl) ⟨rfl,rfl,rfl,c,by simp⟩ (sr (us:=vs) (vs:= []) hd.len hzl hi)
theorem gK{a:Addr}{items:Array Value}{n:Nat}(hfit:(items.size:Int) < 2 ^ 63):Meets (Builtin.«bool.__new__» ⟨[.type "bool",.ref a],[]⟩)
  (fun Z R s=>IsL s.heap a items n∧R (.ok (.ret (.bool (! items.isEmpty)))) {s with toks:=s.toks+1+1}):=
 Meets.of_wp fun prog w A R s hs=>by
  obtain ⟨hp,g,d,tk,os⟩:=s;obtain ⟨hl,hs⟩:=hs;have f1:=PySem.F.conv_sub_bool
  repeat (any_goals (first | assumption | with_reducible refine wpAny_truthy_list (IsL.isList hl) hfit ?_ | wp_step))
  all_goals first | exact ⟨_,rfl,hs⟩ | skip
theorem Cal.boolList{a:AV}{l:List AV}(ha:aM st a = some l)(hz:l.length≤sizeLine)(h:Q (.bool (! l.isEmpty)) st):bB G cx fm X (.type "bool") [a] st Q:=by
 intro W₀ vs rs W s A hA hW hR hT;obtain ⟨v,_,rfl,rv,rfl⟩:=rs;obtain ⟨p,vs,n,rfl,hL,rs⟩:=hR.lst (rv.mono hW) ha;have hlen:=rs.length;have hfit:((vs.toArray.size:Nat):Int) < 2 ^ 63:=by
  have:=bK;have:(vs.toArray.size:Int)≤sizeLine:=by simp [← hlen];exact_mod_cast hz
  change vj
 refine call_bool_1 (gK hfit) ⟨hL,⟨?_,W,st,_,.refl _,hR.toks _,?_,h⟩⟩
 ·exact rfl
 ·rw [df];congr 1;cases l <;> cases vs <;> simp_all
end
end
section
open Builtin Builtin.ObjectAttr
theorem vI:typeLookup (.type "list_iterator") "__getattribute__" = Pure.pure (some (.builtin "object.__getattribute__")):=by rw [typeLookup_type,builtinLookup_eq_fast];kernel_rfl
theorem yD:typeLookup (.type "list_iterator") "__next__" = Pure.pure (some (.builtin "list_iterator.__next__")):=by rw [typeLookup_type,builtinLookup_eq_fast];kernel_rfl
theorem tO(self:Value):bindSpecial (.builtin "object.__getattribute__") self = Pure.pure (.builtin "object.__getattribute__",[self]):=
 (Slot.of (T:= "object") (name:= "__getattribute__") (owner:= "object") (n:= "__getattribute__") (by rw [typeLookup_type,builtinLookup_eq_fast];kernel_rfl) (by decide+kernel) (by decide+kernel) (by decide+kernel)
  (.inl (by decide+kernel)) (by rw [isSubtype_type];kernel_rfl)).bind self
theorem tT:Slot "list_iterator" "__getattribute__" "object.__getattribute__" :=
 Slot.of (owner:= "object") (n:= "__getattribute__") (by rw [typeLookup_type,builtinLookup_eq_fast];kernel_rfl) (by decide+kernel) (by decide+kernel) (by decide+kernel)
  (.inl (by decide+kernel)) (by rw [isSubtype_type];kernel_rfl)
theorem oW:typeOf (.builtin "list_iterator.__next__")= Pure.pure (.type "wrapper_descriptor"):=by show builtinType _ = _;rw [builtinType_eq_fast];kernel_rfl
theorem uR:typeLookup (.type "wrapper_descriptor") "__get__" = Pure.pure (some (.builtin "wrapper_descriptor.__get__")):=by rw [typeLookup_type,builtinLookup_eq_fast];kernel_rfl
theorem uQ:typeLookup (.type "wrapper_descriptor") "__set__" = Pure.pure Option.none:=by rw [typeLookup_type,builtinLookup_eq_fast];kernel_rfl
theorem uU:typeLookup (.type "wrapper_descriptor") "__delete__" = Pure.pure Option.none:=by rw [typeLookup_type,builtinLookup_eq_fast];kernel_rfl
theorem rN:entryFor table "object.__getattribute__" = some Builtin.«object.__getattribute__»:=entryFor_of_tree (by kernel_rfl)
theorem tu(a b:Value):argsOk "object.__getattribute__" ⟨[a,b],[]⟩:=by unfold argsOk;kernel_rfl
theorem lW:Slot "wrapper_descriptor" "__get__" "wrapper_descriptor.__get__" :=
 Slot.of (owner:= "wrapper_descriptor") (n:= "__get__") (by rw [typeLookup_type,builtinLookup_eq_fast];kernel_rfl) (by decide+kernel) (by decide+kernel) (by decide+kernel)
  (by first | exact .inl (by decide+kernel) | exact .inr (by decide+kernel)) (by rw [isSubtype_type];kernel_rfl)
theorem pU:entryFor table "wrapper_descriptor.__get__" = some Builtin.«wrapper_descriptor.__get__»:=entryFor_of_tree (by kernel_rfl)
theorem sf(a b c:Value):argsOk "wrapper_descriptor.__get__" ⟨[a,b,c],[]⟩:=by unfold argsOk;kernel_rfl
theorem rV:isSubtype (.type "list_iterator") (.type "list_iterator")= Pure.pure true:=by rw [isSubtype_type];kernel_rfl
set_option maxHeartbeats 1000000 in
theorem sa{prog:Program}{w:World}{A:Around}{E:Value→Shared→Prop}{s:Shared}{it:Addr}{o:Obj}{Q:Value→Shared→Prop}(ho:s.heap.get? it = some o)(hc:o.cls = .type "list_iterator")(hdd:o.dict = Option.none)(hdt:∃vs,o.data = .fields vs)
  (h:Q (.ref s.heap.objs.size) {s with heap:=s.heap.push {cls:= .type "method-wrapper",data:= .fields #[.builtin "list_iterator.__next__",.ref it]},toks:=s.toks+1}):
  wpAny (model prog w) A (getAttr (.ref it) "__next__" true) Q E s:=by
 have hT:s.TypeIs (.ref it) "list_iterator" :=⟨o,ho,hc⟩;have hT':({s with toks:=s.toks+1}:Shared).TypeIs (.ref it) "list_iterator" :=⟨o,ho,hc⟩;unfold getAttr getAttrBy;refine wpAny_bind (wpAny_mkText (wpAny_holding (wpAny_bind (wpAny_typeOf hT' (wpAny_bind (wpAny_of_eq vI ?_))))));show wpAny _ _ (getAttrByItsOwn _ _ _ _ _ _) _ _ _;unfold getAttrByItsOwn;refine wpAny_bind (wpAny_pure (wpAny_bind (wpAny_attempt (wpAny_holding ?_))));show wpAny _ _ (boundAndCalled _ _ _) _ _ _;unfold boundAndCalled;rw [tO];refine wpAny_bind (wpAny_pure ?_);refine wpAny_call_entry tT hT' rN ?_ (tu _ _);obtain ⟨hp,g,d,tk,os⟩:=s;obtain ⟨oc,od,odt,osl⟩:=o;obtain ⟨vs,hdt⟩:=hdt;dsimp only at hc hdt hdd;subst hc hdt hdd;unfold Builtin.«object.__getattribute__»;have f1:=yD;have f2:=oW;have f3:=uR;have f4:=uQ;have f5:=uU;have f6:=rV
 repeat (any_goals (first | assumption | with_reducible refine wpAny_loadPart_at ho ?_ | wp_step))
 refine codeAny_call_builtin lW.plain pU (lW.check _ _ _ _ _ _ _ _ oW (sf _ _ _) ?_);unfold Builtin.«wrapper_descriptor.__get__»;refine wpAny_bind (wpAny_of_eq (a:=(.builtin "list_iterator.__next__",some (.ref it),some (.type "list_iterator"))) (by first | rfl | kernel_rfl) ?_)
 dsimp only
 wp_delta
 refine wpAny_bind ?_
 wp_delta
 refine wpAny_bind ?_
 wp_delta
 refine wpAny_pure ?_;dsimp only;have hT2:(⟨hp,g,d,tk+1,os⟩:Shared).TypeIs (.ref it) "list_iterator" :=⟨_,ho,rfl⟩;refine wpAny_bind (wpAny_isInstance hT2 rV ?_);refine wE (by decide) ?_
 refine wpAny_pure ?_;unfold newFields;refine wpAny_bind (wpAny_newObj_type (wpAny_pure ?_));refine wpAny_pure ⟨_,rfl,?_⟩;exact wpAny_pure h
theorem se(v:Value):checkBoundCall "list_iterator.__next__" ⟨[v],[]⟩= Pure.pure ():=by kernel_rfl
section
variable {prog:Program}{w:World}{A:Around}{E:Value→Shared→Prop}{s:Shared}{m it l:Addr}{om o:Obj}
theorem j9{Q:Value→Shared→Prop}(hm:s.heap.get? m = some om)(hmc:om.cls = .type "method-wrapper")(hmd:om.data = .fields #[.builtin "list_iterator.__next__",.ref it])
  (h:wpAny (model prog w) A.in1 (Builtin.«list_iterator.__next__» ⟨[.ref it],[]⟩) (fun fin s'=>match fin with | .done (.ret v)=>Q v s' | _=>False) E s):wpAny (model prog w) A (call (.ref m) []) Q E s:=by
 refine wpAny_call (codeAny_of_tree ?_);show wpAny _ _ (callAny (.ref m) _) _ _ _;obtain ⟨oc,od,odt,osl⟩:=om;dsimp only at hmc hmd;subst hmc hmd;refine nd_load hm ?_;show wpAny _ _ (checkBoundCall "list_iterator.__next__" ⟨[.ref it],[]⟩ >>= fun Z=>again (.builtin "list_iterator.__next__" ⟨[.ref it],[]⟩)) _ _ _;rw [se];refine wpAny_bind (wpAny_pure (wpAny_pure ⟨plainId_quiet (by decide+kernel) _,codeAny_builtin entry_listiter_next ?_⟩))
 rw [Around.under_plainId (by decide+kernel) _]
 refine wpAny_mono h (fun fin s' z=>?_) fun Z Y z=>z;rcases fin with (_ | _ | _ | _) | _ <;> first | exact z | exact z.elim
theorem jh{Q:Fin→Shared→Prop}{items:Array Value}{i:Nat}{x:Value}(hit:s.heap.get? it = some o)(hd:o.data = .fields #[.ref l,.int i 0])(hl:s.heap.IsList l items)(hx:items[i]? = some x)
  (hQ:Q (.done (.ret x)) {s with heap:=s.heap.update it (Obj.mapFields (·.setIfInBounds 1 (rawInt (i+1))))}):wpAny (model prog w) A (Builtin.«list_iterator.__next__» ⟨[.ref it],[]⟩) Q E s:=by
 obtain ⟨ol,hol,_,nl,hdl⟩:=hl;refine (wpAny_bind (wpAny_field hit hd (x:= .ref l) rfl ?_):wpAny _ _ (field (.ref it) 0 >>= _) _ _ s);show wpAny _ _ (if (Value.ref l == Value.none)= true then _ else _) _ _ s;refine wE (show ¬((Value.ref l == Value.none)= true) from Bool.false_ne_true) ?_;refine (wpAny_bind (wpAny_field hit hd (x:= .int i 0) rfl ?_):wpAny _ _ (field (.ref it) 1 >>= _) _ _ s);refine (wpAny_bind (wpAny_seqItems hol hdl ?_):wpAny _ _ (seqItems? (.ref l) >>= _) _ _ s);simp only [Int.toNat_natCast,hx];exact wpAny_bind (wpAny_setField hit hd (by simp) (wpAny_pure hQ))
theorem kA{Q:Fin→Shared→Prop}{items:Array Value}{i:Nat}(hh:A.handled = Option.none)(hit:s.heap.get? it = some o)(hd:o.data = .fields #[.ref l,.int i 0])(hl:s.heap.IsList l items)(hx:items[i]? = Option.none)
  (hQ:∀h' e vs,Heap.ExtBut it s.heap h'→(∃o',h'.get? it = some o')→s.heap.get? e = Option.none→h'.get? e = some {cls:= .type "StopIteration",data:= .fields vs}→1 < vs.size→vs[1]? = some .none→E (.ref e) {s with heap:=h'}):
  wpAny (model prog w) A (Builtin.«list_iterator.__next__» ⟨[.ref it],[]⟩) Q E s:=by
 obtain ⟨ol,hol,_,nl,hdl⟩:=hl;refine (wpAny_bind (wpAny_field hit hd (x:= .ref l) rfl ?_):wpAny _ _ (field (.ref it) 0 >>= _) _ _ s);show wpAny _ _ (if (Value.ref l == Value.none)= true then _ else _) _ _ s;refine wE (show ¬((Value.ref l == Value.none)= true) from Bool.false_ne_true) ?_;refine (wpAny_bind (wpAny_field hit hd (x:= .int i 0) rfl ?_):wpAny _ _ (field (.ref it) 1 >>= _) _ _ s);refine (wpAny_bind (wpAny_seqItems hol hdl ?_):wpAny _ _ (seqItems? (.ref l) >>= _) _ _ s);simp only [Int.toNat_natCast,hx];refine wpAny_bind (wpAny_rule (wpAny_bind (wpAny_setField hit hd (by simp) ?_)))
 refine (wpAny_bind ?_:wpAny _ _ (newExc (.type "StopIteration") [] >>= _) _ _ _);simp only [newExc,newTuple];refine wpAny_bind (wpAny_newObj_type ?_ (by size_fits))
 refine wpAny_bind (m:=firstArgMember _ _) (wpAny_of_eq (a:=Value.none) (by first | rfl | (simp only [firstArgMember];rfl)) ?_)
 refine wpAny_newObj_type ?_ (by size_fits)
 refine wpAny_raiseNew_none hh ?_;have h1:=Heap.get?_update_self (Obj.mapFields (·.setIfInBounds 0 Value.none)) hit (Obj.isFreed_of_fields (Obj.data_mapFields hd _));refine hQ _ _ _ (fun b ob hb e=>?_) ⟨_,Heap.get?_push_of_some _ (Heap.get?_push_of_some _ h1)⟩ ?_ (Heap.get?_push_size _ rfl) ?_ ?_
 ·exact Heap.get?_push_of_some _ (Heap.get?_push_of_some _ ((Heap.get?_update_other _ _ (Ne.symm hb)).trans e))
 ·refine Heap.get?_none_of_le ?_;rw [Heap.size_push,Heap.size_after_update];exact Nat.le_succ _
 ·rw [Array.size_append];exact Nat.lt_add_right _ (by simp)
 ·rw [Array.getElem?_append_left (by simp)];rfl
theorem iE{Q:Value→Shared→Prop}{items:Array Value}(hl:s.heap.IsList l items)(hQ:Q (.ref s.heap.objs.size) {s with heap:=s.heap.push {cls:= .type "list_iterator",data:= .fields #[.ref l,.int 0 0]}}):
  wpAny (model prog w) A (call (.builtin "iter") [.ref l]) Q E s:=by
 refine Calls.call_function_entry (id:= "iter") (b:=Builtin.«iter») (by decide+kernel) (by decide+kernel) (entryFor_of_tree (by kernel_rfl)) (by unfold argsOk;kernel_rfl) ?_
 unfold Builtin.«iter»;refine wpAny_bind (wpAny_of_eq (a:= [.ref l]) (by first | rfl | kernel_rfl) ?_)
 exact wpAny_bind (wpAny_pyIter_list hl (wpAny_pure ⟨_,rfl,hQ⟩))
end
section
variable {G:Gd}{cx:Cx}{fm:Fm}{X:Value→St→Prop}{W₀ W:Wd}{st:St}{s:Shared}{Q:AV→St→Prop}
noncomputable def St.del(st:St)(i:Nat):St:={st with hp:=fun j=>if j = i then Option.none else st.hp j}
set_option tactic.hygienic true in
theorem Rep.forget(R:Rep G W fm st s){h':Heap}{t:Nat}{i:Nat}{x:Addr}(hx:W.al i = some x)(hF:W.F x = Option.none)(hk:Heap.ExtBut x s.heap h')(ho:∃o',h'.get? x = some o'):Rep G W fm (st.del i) {s with heap:=h',toks:=t}:=by
 have hH:W.H x = Option.none:=R.alH _ _ hx;refine ⟨fun b y e=>hk _ _ (fun w=>by subst w;rw [hF] at e;cases e) (R.frozen b y e),fun b y e=>by obtain ⟨o',h,r⟩:=R.held b y e;exact ⟨o',hk _ _ (fun w=>by subst w;rw [hH] at e;cases e) h,r⟩,R.base,fun k' b' e=>?_,R.inj,fun k a e=>(if hax:a = x then (by obtain ⟨o',q⟩:=ho;exact ⟨o',hax▸q⟩) else by obtain ⟨o,q⟩:=R.lt k a e;exact ⟨o,hk _ _ hax q⟩),R.fin,R.gens,R.os,R.outs,R.ok,R.FH,R.alH⟩
 have e':st.get fm k' = some b'∧k'≠ .obj i:=by
  cases k' with
  | obj j=>
   have e:(if j = i then Option.none else st.hp j)= some b':=e
   split at e
   ·cases e
   ·rename_i q;exact ⟨e,fun w=>q (Key.obj.inj w)⟩
  | loc=>exact ⟨e,nofun⟩
  | cell y=>exact ⟨e,nofun⟩
 obtain ⟨b,y,p',q',r',z'⟩:=R.live k' b' e'.1;exact ⟨b,y,p',q',hk _ _ (fun w=>e'.2 (R.inj k' (.obj i) x (w▸p') hx)) r',z'⟩
theorem Ev.named{x:Str}{npos pos:Pos}{value:PySem.Expr}(hl:aX fm x)(h:Ev G cx fm X value st fun a st₁=>Q a (st₁.setLoc x a)):Ev G cx fm X (.NamedExpr (.Name x npos) value pos) st Q:=by
 unfold Ev;rw [arm_eval_NamedExpr];refine J.bind (J.mono (J.from h) (fun a st₁ h₁ W₁ v Z ra=>?_) fun Z Y z=>z);refine J.bind (J.holding (J.mono (Asg.name (cx:=cx) (X:=X) (pos:=npos) hl (Q:=fun st'=>st' = st₁.setLoc x a) rfl W₁ v ra) ?_ fun Z Y z=>z)) (β:=Unit) (R₁:=RU);rintro _ st₂ rfl W₂ _ le _;exact J.pure (b:=a) (fun W hW=>(ra.mono le).mono hW) h₁
theorem an.asg2{t t':PySem.Expr}{value:PySem.Expr}{pos:Pos}{Q:AF→St→Prop}(h:Ev G cx fm X value st fun a st₁=>cY G cx fm X t a st₁ fun st₂=>cY G cx fm X t' a st₂ (Q .next))
  (hst:noStar [t,t'] = true:=by rfl) (h2:swappedStores [t,t'] value (dY fm.names)= Pure.pure Option.none:=by rfl):an G cx fm X (.Assign [t,t'] value pos) st Q:=by
 intro W s A hA hW hR hT;have e:exec (.Assign [t,t'] value pos) fm.env =(do
   PySem.standAt pos
   let v ← eval value fm.env
   assignStores fm.env v (← swappedStores [t,t'] value fm.env) ((assignEach [t,t'] fm.env).map (·.2))):=rfl
 rw [e,(aW (env':=dY fm.names) hR.ok.fn hR.ok.names).trans h2,bh _ hst];refine wpAny_bind (wpAny_standAt ?_);refine wpAny_bind (i9 hT (h W s A hA (bot_le _) hR hT) (fun v s₁ hT₁ z=>?_) fun Z Y V z=>z);obtain ⟨W₁,st₁,a,le,R₁,ra,h₁⟩:=z;refine wpAny_bind (wpAny_pure ?_);refine (wpAny_bind (wpAny_bind (wpAny_holding (i9 hT₁ (h₁ W₁ v ra W₁ s₁ A hA (.refl _) R₁ hT₁) (fun Z s₂ hT₂ z=>?_) fun Z Y V z=>z.le le))):wpAny _ _ ((PySem.holding [v] (PySem.assign t fm.env v) >>= fun Z=>PySem.assign t' fm.env v) >>= fun Z=>Pure.pure Flow.next) _ _ _);obtain ⟨W₂,st₂,_,le₂,R₂,_,h₂⟩:=z;refine wpAny_mono (h₂ W₂ v (ra.mono le₂) W₂ s₂ A hA (.refl _) R₂ hT₂) (fun Z s₃ z=>?_) fun Z Y z=>z.le (le.trans le₂);obtain ⟨W₃,st₃,_,le₃,R₃,_,h₃⟩:=z;exact wpAny_pure ⟨W₃,st₃,.next,(le.trans le₂).trans le₃,R₃,rfl,h₃⟩
theorem Cal.iter{i:Nat}{l:List AV}(hi:st.hp i = some (.list l))(h:∀j,st.hp j = Option.none→Q (.ref j) (st.put j (.iter i 0))):bB G cx fm X (.builtin "iter") [.ref i] st Q:=by
 intro W₀ vs rs W s A hA hW hR hT;obtain ⟨v,_,rfl,rv,rfl⟩:=rs;have rv':=rv.mono hW;obtain ⟨p,vs,n,rfl,hal,hL,rs⟩:=hR.listM rv' hi;refine iE hL.isList ?_;obtain ⟨j,hj,le,hR'⟩:=hR.pushM {cls:= .type "list_iterator",data:= .fields #[.ref p,.int 0 0]} s.toks;refine ⟨_,_,.ref j,le,hR' (.iter i 0) ⟨p,le.al _ _ hal,rfl,rfl,rfl⟩,?_,h j hj⟩;exact eJ.mk _ rfl (if_pos rfl)
theorem Get.next{i j k:Nat}(hi:st.hp i = some (.iter j k))(h:Q (.nxt i) st):kG G cx fm X (.ref i) "__next__" st Q:=by
 intro W₀ v rv W s A hA hW hR hT;have rv':=rv.mono hW;obtain ⟨p,rfl,hal⟩:=rv';obtain ⟨o,ho,a,ha,hc,hdd,hd⟩:=hR.liveObj hi hal;refine sa ho hc hdd ⟨_,hd⟩ ?_;obtain ⟨le,hR'⟩:=hR.pushF {cls:= .type "method-wrapper",data:= .fields #[.builtin "list_iterator.__next__",.ref p]} (s.toks+1);refine ⟨_,st,.nxt i,le,hR',?_,h⟩;exact vk.mk _ _ p rfl (if_pos rfl) rfl rfl hal
inductive xZ(X:Value→St→Prop)(Q:AV→St→Prop)(a:AV)(st₁:St):Prop
 | mk (i j k:Nat) (l:List AV) (e:a = .nxt i) (hi:st₁.hp i = some (.iter j k)) (hj:st₁.hp j = some (.list l)) (hz:l.length≤sizeLine)
   (yes:∀x,l[k]? = some x→Q x (st₁.put i (.iter j (k+1)))) (no:l[k]? = Option.none→X (.type "StopIteration") (st₁.del i))
theorem Ev.callNext{func:PySem.Expr}{pos:Pos}(hcalm:cx.calm = true)(h:Ev G cx fm X func st (xZ X Q))
  (hc:∀env,eval (.Call func [] [] pos) env =(do callWith pos (← eval func env) [] (backTo pos (starEach [] env)) (backToKw pos (keywordEach [] env))):=by intro _;rfl):Ev G cx fm X (.Call func [] [] pos) st Q:=by
 unfold Ev;rw [hc];refine J.bind (J.mono (J.from h) (fun a st₁ h₁ W₁ v Z ra=>?_) fun Z Y z=>z);obtain ⟨i,j,k,l,rfl,hi,hj,hz,hyes,hno⟩:=h₁;intro W s A hA hW hR hT;have ra':=ra.mono hW;obtain ⟨m,om,it,rfl,hmF,hmc,hmd,hal⟩:=ra';refine cG (PySem.evalArgs_none ⟨rfl,.machine,fun Q' hq=>?_,?_⟩)
 ·unfold keeperOf;refine wpAny_bind (wpAny_load (hR.frozen _ _ hmF) ?_);rw [hmd,hmc];exact wpAny_pure hq
 have hm:=hR.frozen _ _ hmF;obtain ⟨o,ho,a,ha,hoc,hod,hodt⟩:=hR.liveObj hi hal;obtain ⟨p,vs,n,e,hal',hL,rs⟩:=hR.listM (v:= .ref a) (eJ.mk a rfl ha) hj;cases e;refine j9 hm hmc hmd ?_;cases hx:l[k]? with
 | some x=>
  obtain ⟨y,hy,ry⟩:=rs.get hx;refine jh ho hodt hL.isList (x:=y) (by simpa using hy) ?_
  have hd':=Obj.data_mapFields hodt (·.setIfInBounds 1 (rawInt (k+1)));have ho':=Heap.get?_update_self (Obj.mapFields (·.setIfInBounds 1 (rawInt (k+1)))) ho (Obj.isFreed_of_fields hd');refine ⟨W,_,x,.refl _,hR.putObj (t:=s.toks) hi hal (Heap.SameBut.update ..).extBut ho' (ao':= .iter j (k+1)) ⟨a,ha,(Obj.cls_mapFields ..).trans hoc,?_,?_⟩,ry,hyes x hx⟩
  ·obtain ⟨c,d,dt,sl⟩:=o;cases dt <;> exact hod
  ·rw [hd'];simp [rawInt]
 | none=>
  refine kA (hA.calm hcalm) ho hodt hL.isList (by simpa [rs.length] using hx) fun h' e vs' hk hit he he' hs hv=>?_
  have hF:W.F it = Option.none:=by
   obtain ⟨b,_,p',q',_⟩:=hR.live (.obj i) _ hi;rw [show addrOf W fm (.obj i)= W.al i from rfl,hal] at p';cases p';exact q'.1
  exact ⟨W,st₁.del i,_,.refl _,hR.forget (t:=s.toks) hal hF hk hit,⟨e,_,vs',rfl,he',rfl,rfl,hs,hR.free he,.inl hv⟩,hno hx⟩
end
end
section
section
variable {G:Gd}{cx:Cx}{fm:Fm}{X:Value→St→Prop}{W₀ W:Wd}{st:St}{s:Shared}{Q:AV→St→Prop}
noncomputable def b4(G:Gd)(cx:Cx)(fm:Fm)(X:Value→St→Prop)(e:Option PySem.Expr)(st:St)(Q:Option Int→St→Prop):Prop:=
 J G cx fm X bot (evalPart e fm.env) (fun _ (k:Option Int) v=>IsPart v k) st Q
theorem b4.none{Q:Option Int→St→Prop}(h:Q Option.none st):b4 G cx fm X Option.none st Q:=J.pure (b:=Option.none) (fun Z Y=> .none) h
inductive Av(Q:Option Int→St→Prop)(a:AV)(st₁:St):Prop
 | mk (i:Int) (ha:a = .int i) (h:Q (some i) st₁)
theorem b4.some{e:PySem.Expr}{Q:Option Int→St→Prop}(h:Ev G cx fm X e st (Av Q)):b4 G cx fm X (some e) st Q:=by
 intro W s A hA hW hR hT;refine wpAny_mono (h W s A hA hW hR hT) (fun v s' z=>?_) fun Z Y z=>z;obtain ⟨W',st',a,le,R,ra,i,rfl,hq⟩:=z;obtain ⟨t,rfl⟩:=ra;exact ⟨W',st',Option.some i,le,R,.int i t,hq⟩
theorem Ev.slice{lower upper step:Option PySem.Expr}{p:Pos}(h:b4 G cx fm X lower st fun l st₁=>b4 G cx fm X upper st₁ fun u st₂=>b4 G cx fm X step st₂ fun t st₃=>Q (.slc l u t) st₃):
  Ev G cx fm X (.Slice lower upper step p) st Q:=by
 intro W s A hA hW hR hT;refine wpAny_Slice (i9 hT (h W s A hA hW hR hT) (fun vl s₁ hT₁ z=>?_) fun Z Y V z=>z);obtain ⟨W₁,st₁,l,le₁,R₁,pl,h₁⟩:=z;refine i9 hT₁ (h₁ W₁ s₁ A hA (bot_le _) R₁ hT₁) (fun vu s₂ hT₂ z=>?_) fun Z Y V z=>z.le le₁;obtain ⟨W₂,st₂,u,le₂,R₂,pu,h₂⟩:=z;refine wpAny_mono (h₂ W₂ s₂ A hA (bot_le _) R₂ hT₂) (fun vt s₃ z=>?_) fun Z Y z=>z.le (le₁.trans le₂);obtain ⟨W₃,st₃,t,le₃,R₃,pt,h₃⟩:=z;obtain ⟨le,hR'⟩:=R₃.pushF {cls:= .type "slice",data:= .fields #[vl,vu,vt]} s₃.toks;refine ⟨_,st₃,.slc l u t,((le₁.trans le₂).trans le₃).trans le,hR',?_,h₃⟩;exact vb.mk _ _ vl vu vt rfl (if_pos rfl) rfl rfl pl pu pt
theorem Rep.slc(R:Rep G W fm st s){l u t:Option Int}{v:Value}(h:RV G W (.slc l u t) v):∃a vl vu vt,v = .ref a∧s.heap.IsSliceOf a vl vu vt∧IsPart vl l∧IsPart vu u∧IsPart vt t:=by
 obtain ⟨a,o,vl,vu,vt,rfl,hF,hc,hd,p1,p2,p3⟩:=h;exact ⟨a,vl,vu,vt,rfl,⟨o,R.frozen _ _ hF,hc,hd⟩,p1,p2,p3⟩
noncomputable def pick{α:Type}(l:List α)(lo hi st:Option Int):List α:=
 (sliceRange (sliceBounds lo hi st l.length).1 (sliceBounds lo hi st l.length).2.1 (sliceBounds lo hi st l.length).2.2).filterMap (l[·]?)
theorem au.filterGet{l:List AV}{vs:List Value}(rs:au G W l vs):∀is:List Nat,au G W (is.filterMap (l[·]?)) (is.filterMap (vs[·]?)):=by
 intro zl
 induction zl with
 | nil=>
  exact au.nil
 | cons i is ih=>
  simp only [List.filterMap_cons];cases e:l[i]? with
  | none=>
   have:vs[i]? = Option.none:=by rw [List.getElem?_eq_none_iff] at e ⊢;rw [← rs.length];exact e
   rw [this];exact ih
  | some x=>obtain ⟨v,hv,rv⟩:=rs.get e;rw [hv];exact au.cons rv (ih)
theorem iT(vs:List Value)(lo hi st:Option Int):slicePick vs.toArray lo hi st =(pick vs lo hi st).toArray:=by
 unfold slicePick pick;simp
theorem Sub.sliceF{value slice:PySem.Expr}{a:AV}{l:List AV}{lo hi t:Option Int}{ops:Value→Value→List Value}(hl:aM st a = some l)(ht:t≠some 0)(hz:l.length≤sizeLine)(h:Q (.lst (pick l lo hi t)) st)
  (hs:∀o i,subscripted slice false o i = PySem.operate (ops o i) (getItem o i)):cZ G cx fm X value slice a (.slc lo hi t) st Q:=by
 intro W₀ v u hv hu W s A hA hW hR hT;obtain ⟨p,vs,n,rfl,hL,rs⟩:=hR.lst (hv.mono hW) hl;obtain ⟨b,vl,vu,vt,rfl,hsl,p1,p2,p3⟩:=hR.slc (hu.mono hW);refine tail_any hL.isList.typeIs slot_list_getitem.lookup (wpAny_getItem_list_slice hL.isList hsl p1 p2 p3 ht ?_ (by simpa [← rs.length] using hz)) (hs _ _)
 rw [iT];obtain ⟨le,hR'⟩:=hR.pushF {cls:= .type "list",data:= .seq (pick vs lo hi t).toArray} s.toks;refine ⟨_,st,.lst (pick l lo hi t),le,hR',?_,h⟩;refine dh.mk _ _ (pick vs lo hi t) rfl (if_pos rfl) ⟨rfl,rfl,rfl,0,rfl⟩ ?_;have:=(rs.mono le).filterGet (sliceRange (sliceBounds lo hi t l.length).1 (sliceBounds lo hi t l.length).2.1 (sliceBounds lo hi t l.length).2.2);have e:pick vs lo hi t =(sliceRange (sliceBounds lo hi t l.length).1 (sliceBounds lo hi t l.length).2.1 (sliceBounds lo hi t l.length).2.2).filterMap (vs[·]?):=by unfold pick;rw [← rs.length]
 rw [← e] at this;exact this
theorem bD{α:Type}(l:List α)(lo hi:Option Int):pick l lo hi Option.none =(l.drop (lo.elim 0 (clipAt l.length))).take (hi.elim l.length (clipAt l.length) - lo.elim 0 (clipAt l.length)):=by
 unfold pick;rw [sliceBounds_plain];simp only [sliceRange_one];generalize lo.elim 0 (clipAt l.length)= a;generalize hi.elim l.length (clipAt l.length)= b;have key:∀(n a:Nat),(List.range' a n).filterMap (l[·]?)=(l.drop a).take n:=fun n=>by
  induction n with
  | zero=>intro a;simp
  | succ n ih=>
   intro a;rw [List.range'_succ,List.filterMap_cons];cases e:l[a]? with
   | none=>
    have hl:l.length≤a:=List.getElem?_eq_none_iff.mp e;dsimp only;rw [ih,List.drop_eq_nil_of_le (Nat.le_succ_of_le hl),List.drop_eq_nil_of_le hl];simp
   | some x=>
    dsimp only;obtain ⟨h1,h2⟩:=gS e;rw [ih,List.drop_eq_getElem_cons h1,List.take_succ_cons,h2]
 first
  | exact key _ _
  | (have:=key (b - a) a;simpa [List.range'_eq_map_range] using this)
theorem pick_from{α:Type}(l:List α)(a:Nat):pick l (some (a:Int)) Option.none Option.none = l.drop a:=by
 rw [bD];simp only [Option.elim,clipAt_nat];rcases Nat.le_total a l.length with h | h
 ·rw [Nat.min_eq_left h];exact List.take_of_length_le (by simp)
 ·rw [Nat.min_eq_right h,List.drop_eq_nil_of_le h,List.drop_eq_nil_of_le (Nat.le_refl _)];simp
theorem gm{α:Type}(l:List α)(b:Nat):pick l Option.none (some (b:Int)) Option.none = l.take b:=by
 rw [bD];simp only [Option.elim,clipAt_nat,List.drop_zero,Nat.sub_zero];rcases Nat.le_total b l.length with h | h
 ·rw [Nat.min_eq_left h]
 ·rw [Nat.min_eq_right h,List.take_of_length_le (Nat.le_refl _),List.take_of_length_le h]
theorem fM{α:Type}(l:List α):pick l Option.none (some (-1)) Option.none = l.dropLast:=by
 rw [bD];have:clipAt l.length (-1)= l.length - 1:=clipAt_neg l.length 1 (Nat.le_refl _);simp only [Option.elim,this,List.drop_zero,Nat.sub_zero];rw [List.dropLast_eq_take]
theorem Bind.p1{fd:FuncData}{x:Str}{a:AV}(h:∀v,bindArgs fd ⟨[v],[]⟩= Pure.pure [(x,v)]):fS G fd [a] [(x,a)]:=by
 intro fm st W s A E vs Q R rs hQ;have rs':=rs;obtain ⟨v,_,rfl,rv,rfl⟩:=rs;rw [h];exact wpAny_pure (hQ W s [(x,v)] (.refl _) R rfl rs')
theorem Bind.p2{fd:FuncData}{x y:Str}{a b:AV}(h:∀v u,bindArgs fd ⟨[v,u],[]⟩= Pure.pure [(x,v),(y,u)]):fS G fd [a,b] [(x,a),(y,b)]:=by
 intro fm st W s A E vs Q R rs hQ;have rs':=rs;obtain ⟨v,_,rfl,rv,u,_,rfl,ru,rfl⟩:=rs;rw [h];exact wpAny_pure (hQ W s [(x,v),(y,u)] (.refl _) R rfl rs')
theorem Bind.p4{fd:FuncData}{x y z w:Str}{a b c d:AV}(h:∀v u t r,bindArgs fd ⟨[v,u,t,r],[]⟩= Pure.pure [(x,v),(y,u),(z,t),(w,r)]):fS G fd [a,b,c,d] [(x,a),(y,b),(z,c),(w,d)]:=by
 intro fm st W s A E vs Q R rs hQ;have rs':=rs;obtain ⟨v,_,rfl,rv,u,_,rfl,ru,t,_,rfl,rt,r,_,rfl,rr,rfl⟩:=rs;rw [h];exact wpAny_pure (hQ W s [(x,v),(y,u),(z,t),(w,r)] (.refl _) R rfl rs')
theorem im{A:Around}{E:Value→Shared→Prop}{l:List AV}{vs:List Value}{Q:Value→Shared→Prop}(R:Rep G W fm st s)(rs:au G W l vs)(hz:l.length≤sizeLine)(h:∀W' s' v,W.Le W'→Rep G W' fm st s'→RV G W' (.tup l) v→Q v s'):
  wpAny G.M A (newTuple vs) Q E s:=by
 refine wpAny_newObj_type ?_ (by simpa [sizeOk,← rs.length] using hz)
 obtain ⟨le,hR'⟩:=R.pushF {cls:= .type "tuple",data:= .seq vs.toArray} s.toks;refine h _ _ _ le hR' ?_;exact dh.mk _ _ (vs) rfl (if_pos rfl) ⟨rfl,rfl,rfl,0,rfl⟩ (rs.mono le)
theorem Bind.star1{fd:FuncData}{x y:Str}{a:AV}{l:List AV}(hz:l.length≤sizeLine)(h:∀v us,bindArgs fd ⟨v::us,[]⟩=(newTuple us >>= fun t=>Pure.pure [(x,v),(y,t)])):fS G fd (a::l) [(x,a),(y,.tup l)]:=by
 intro fm st W s A E vs Q R rs hQ;obtain ⟨v,us,rfl,rv,rs⟩:=rs;rw [h];refine wpAny_bind (im R rs hz fun W' s' t le R' rt=>wpAny_pure (hQ W' s' [(x,v),(y,t)] le R' rfl ?_));exact au.cons (rv.mono le) (au.cons rt au.nil)
theorem Bind.star2{fd:FuncData}{x y z:Str}{a b:AV}{l:List AV}(hz:l.length≤sizeLine)(h:∀v u us,bindArgs fd ⟨v::u::us,[]⟩=(newTuple us >>= fun t=>Pure.pure [(x,v),(y,u),(z,t)])):fS G fd (a::b::l) [(x,a),(y,b),(z,.tup l)]:=by
 intro fm st W s A E vs Q R rs hQ;obtain ⟨v,_,rfl,rv,u,us,rfl,ru,rs⟩:=rs;rw [h];refine wpAny_bind (im R rs hz fun W' s' t le R' rt=>wpAny_pure (hQ W' s' [(x,v),(y,u),(z,t)] le R' rfl ?_));exact au.cons (rv.mono le) (au.cons (ru.mono le) (au.cons rt au.nil))
end
end
section
section
variable {G:Gd}{cx:Cx}{fm:Fm}{X:Value→St→Prop}{W₀ W:Wd}{st:St}{s:Shared}{Q:AV→St→Prop}
noncomputable def vM:AV→Option Bool
 | .none=>some true
 | .bool _=>some false
 | .str _=>some false
 | _=>Option.none
noncomputable def wS(a:Bool):AV→Option Bool
 | .none=>some false
 | .bool b=>some (a == b)
 | _=>Option.none
noncomputable def vU(a:Str):AV→Option Bool
 | .none=>some false
 | .str b=>some (a == b)
 | _=>Option.none
noncomputable def wA(a:Int):AV→Option Bool
 | .int b=>some (a == b)
 | _=>Option.none
noncomputable def nQ:AV→AV→Option Bool
 | .none,b=>vM b
 | .bool a,b=>wS a b
 | .str a,b=>vU a b
 | .int a,b=>wA a b
 | _,_=>Option.none
theorem pF{a b:AV}{r:Bool}{v u:Value}(h:nQ a b = some r)(rv:RV G W a v)(ru:RV G W b u)(A:Around)(s:Shared):SeqAt.EqAt A s v u r:=by
 cases a with
 | none=>
  obtain rfl:=rv;cases b with
  | none=>cases h;obtain rfl:=ru;exact .same _
  | bool x=>cases h;obtain rfl:=ru;exact .none_bool _
  | str x=>cases h;obtain ⟨t,rfl⟩:=ru;exact .none_str _ _
  | _=>cases h
 | bool x=>
  obtain rfl:=rv;cases b with
  | none=>cases h;obtain rfl:=ru;exact .bool_none _
  | bool y=>cases h;obtain rfl:=ru;exact .bool_bool _ _
  | _=>cases h
 | str x=>
  obtain ⟨t,rfl⟩:=rv;cases b with
  | none=>cases h;obtain rfl:=ru;exact .str_none _ _
  | str y=>cases h;obtain ⟨t',rfl⟩:=ru;exact .str_str _ _ _ _
  | _=>cases h
 | int x=>
  obtain ⟨t,rfl⟩:=rv;cases b with
  | int y=>cases h;obtain ⟨t',rfl⟩:=ru;exact .int_int _ _ _ _
  | _=>cases h
 | _=>cases h
noncomputable def cI:List AV→List AV→Option Bool
 | [],[]=>some true
 | a::l,b::m=>(nQ a b).bind fun x=>(cI l m).map fun y=>x && y
 | _,_=>Option.none
theorem ii:∀{l m:List AV} {r:Bool} {vs us:List Value},cI l m = some r→au G W l vs→au G W m us→∀(A:Around) (s:Shared),
  vs.length = us.length∧∃e:Nat→Bool,(∀j (h1:j < vs.length) (h2:j < us.length),SeqAt.EqAt A s vs[j] us[j] (e j))∧(List.range vs.length).all e = r:=by
 intro zl
 induction zl with
 | nil=>
  intro zm;cases zm with
  | nil=>
   intro _ _ _ h r1 r2 A s;cases h;obtain rfl:=r1;obtain rfl:=r2;exact ⟨rfl,fun Z=>true,fun j h=>absurd h (Nat.not_lt_zero _),rfl⟩
  | cons _ _=>
   intro _ _ _ h _ _ _ _;cases h
 | cons a l ih=>
  intro zm;cases zm with
  | cons b m=>
   intro _ _ _ h r1 r2 A s;obtain ⟨v,vs,rfl,rv,r1⟩:=r1;obtain ⟨u,us,rfl,ru,r2⟩:=r2;obtain ⟨x,hx,h⟩:=Option.bind_eq_some_iff.mp h;obtain ⟨y,hy,rfl⟩:=oM h;obtain ⟨hl,e,he,hr⟩:=ih hy r1 r2 A s;refine ⟨congrArg (·+1) hl,fun j=>j.casesOn x e,fun j h1 h2=>?_,?_⟩
   ·cases j with
    | zero=>exact pF hx rv ru A s
    | succ j=>exact he j (Nat.lt_of_succ_lt_succ h1) (Nat.lt_of_succ_lt_succ h2)
   ·rw [List.length_cons,List.range_succ_eq_map,List.all_cons,List.all_map,← hr];rfl
  | nil=>
   intro _ _ _ h _ _ _ _;cases h
theorem fG:∀{ys zs:List Str},ys.length = zs.length→cI (ys.map .str) (zs.map .str)= some (decide (ys = zs))
 | [],[],_=>congrArg some (decide_eq_true rfl).symm
 | [],_::_,h=>by cases h
 | _::_,[],h=>by cases h
 | y::ys,z::zs,h=>by
  have ih:=fG (Nat.succ.inj h);show (cI (ys.map .str) (zs.map .str)).map (fun b=>(y == z)&& b)= _;rw [ih];show some _ = _
  congr 1
  rw [Bool.eq_iff_iff];simp
theorem Cmp.eqFlat{a b:AV}{l m:List AV}{r:Bool}(ha:aM st a = some l)(hb:aM st b = some m)(hf:cI l m = some r)(h:Q (.bool r) st):dH G cx fm X .Eq a b st Q:=by
 intro W₀ v u rv ru W s A hA hW hR hT;obtain ⟨p,vs,n,rfl,hL,rs⟩:=hR.lst (rv.mono hW) ha;obtain ⟨q,us,n',rfl,hL',rs'⟩:=hR.lst (ru.mono hW) hb;have hu:A.units < cLine:=by have:=hA.units;change pe
 obtain ⟨hl,e,he,hall⟩:=ii hf rs rs' A.in1 s;refine SeqAt.eq_listAt (e:=e) hL.isList hL'.isList (by simpa using hl) hu (fun j h1 h2=>?_) ⟨W,st,_,.refl _,hR,?_,h⟩
 ·simpa using he j (by simpa using h1) (by simpa using h2)
 ·rw [df,List.size_toArray,hall]
theorem Cmp.neFlat{a b:AV}{l m:List AV}{r:Bool}(ha:aM st a = some l)(hb:aM st b = some m)(hf:cI l m = some r)(h:Q (.bool (! r)) st):dH G cx fm X .NotEq a b st Q:=by
 intro W₀ v u rv ru W s A hA hW hR hT;obtain ⟨p,vs,n,rfl,hL,rs⟩:=hR.lst (rv.mono hW) ha;obtain ⟨q,us,n',rfl,hL',rs'⟩:=hR.lst (ru.mono hW) hb;have hu:A.units < cLine:=by have:=hA.units;change pe
 obtain ⟨hl,e,he,hall⟩:=ii hf rs rs' A.in1 s;refine SeqAt.RcNeAt.lists (e:=e) hL.isList hL'.isList (by simpa using hl) hu (fun j h1 h2=>?_) _ _ _ _ ⟨W,st,_,.refl _,hR,?_,h⟩
 ·simpa using he j (by simpa using h1) (by simpa using h2)
 ·rw [df,List.size_toArray,hall]
theorem Cmp.neStrs{a b:AV}{ys zs:List Str}(ha:aM st a = some (ys.map .str))(hb:aM st b = some (zs.map .str))(h:Q (.bool (! decide (ys = zs))) st):dH G cx fm X .NotEq a b st Q:=by
 by_cases hl:ys.length = zs.length
 ·exact Cmp.neFlat ha hb (fG hl) h
 ·have hne:decide (ys = zs)= false:=decide_eq_false fun e=>hl (by rw [e])
  intro W₀ v u rv ru W s A hA hW hR hT;obtain ⟨p,vs,n,rfl,hL,rs⟩:=hR.lst (rv.mono hW) ha;obtain ⟨q,us,n',rfl,hL',rs'⟩:=hR.lst (ru.mono hW) hb;have hu:A.units < cLine:=pe hA.units;refine SeqAt.RcNeAt.lists_lengths hL.isList hL'.isList ?_ hu _ _ _ _ ⟨W,st,.bool true,.refl _,hR,rfl,by rw [hne] at h;exact h⟩
  have h1:=rs.length;have h2:=rs'.length;simp only [List.length_map] at h1 h2;simpa [← h1,← h2] using hl
end
end
section
section
variable {G:Gd}{cx:Cx}{fm:Fm}{X:Value→St→Prop}{W₀ W:Wd}{st:St}{s:Shared}{Q:AV→St→Prop}
theorem eL{M:Model}{A:Around}{E:Value→Shared→Prop}{a b:Value}{U:String}{Q:Option Value→Shared→Prop}(ha:s.TypeIs a "list")(hb:s.TypeIs b U)(hU:fillsNumberSlot (.type U) "add" = Pure.pure false)(h:Q Option.none s):wpAny M A (binaryOp1 "add" a b) Q E s:=by
 unfold binaryOp1;refine wpAny_bind (wpAny_typeOf ha (wpAny_bind (wpAny_typeOf hb (wpAny_bind (wpAny_of_eq noFill_list_add ?_)))));generalize (Value.type "list" == Value.type U)= c;cases c with
 | true=>exact wpAny_pure h
 | false=>
  show wpAny M A (fillsNumberSlot (.type U) "add" >>= _) Q E s;exact wpAny_bind (wpAny_of_eq hU (wpAny_pure h))
theorem gQ:fillsInplaceSlot (.type "list") "add" (Operator.Add == .Add)= Pure.pure false:=by
 unfold fillsInplaceSlot;show (typeLookup (.type "list") (dunderI "add") >>= fun fi=>Pure.pure (fi.isSome && ! isSeqSlot fi))= Pure.pure false;rw [PySem.F.slot_list_iadd.lookup,pure_bind];have:isSeqSlot (some (.builtin "list.__iadd__"))= true:=by decide+kernel
 rw [this];rfl
theorem fC{M:Model}{A:Around}{E:Value→Shared→Prop}{a b:Value}{U:String}{Q:Value→Shared→Prop}(ha:s.TypeIs a "list")(hb:s.TypeIs b U)(hU:fillsNumberSlot (.type U) "add" = Pure.pure false)
  (hc:wpAny M A (PySem.call (.builtin "list.__iadd__") [a,b]) Q E s):wpAny M A (inplaceOp .Add a b) Q E s:=by
 unfold inplaceOp;refine wpAny_holding ?_;refine wpAny_bind (wpAny_typeOf ha (wpAny_bind (wpAny_of_eq gQ ?_)));show wpAny M A (if false = true then _ else _) Q E s;refine wE Bool.false_ne_true ?_;refine wpAny_bind (eL ha hb hU ?_);refine wpAny_bind (wpAny_of_eq (PySem.seqSlot_of PySem.F.slot_list_iadd.lookup (by decide+kernel)) ?_)
 exact wpAny_bind (wpAny_rule hc)
theorem gT(l:Addr)(items:Array Value)(n:Nat)(b:Addr)(items2:Array Value)(n2:Nat)(hs0:¬(! items.isEmpty && Builtin.List.listTooLong (items.size+items2.size))= true)(hs1:items.size≤sizeLine)(hs2:items.size+items2.size≤sizeLine+1):
  Meets (Builtin.«list.__iadd__» ⟨[.ref l,.ref b],[]⟩) (fun Z R s=>s.heap.get? l = some {cls:= .type "list",dict:=Option.none,data:= .seq items n,slots:=#[]}∧s.heap.get? b = some {cls:= .type "tuple",dict:=Option.none,data:= .seq items2 n2,slots:=#[]}∧R (.ok (.ret (Value.ref l))) {s with heap:=s.heap.update l (Obj.mapSeq fun x=>x++items2),toks:=s.toks}):=
 .of_wp fun prog w A R s h=>by
  obtain ⟨hp,g,d,tk,os⟩:=s;obtain ⟨hl,hb,h⟩:=h;have f1:=AutoSeq1.idx_int;have f2:=AutoSeq1.sub_tuple_tuple;have f3:=AutoSeq1.sub_list_list;have f4:=AutoSeq1.sub_tuple_list;have f5:=AutoSeq1.sub_list_tuple;have hz':(items++items2).size≤sizeLine+1:=by rw [Array.size_append];exact hs2
  wp_walk using (wpAny_updateSeq hl rfl (hz:=hs1) (_hz':=hz')),AutoSeq1.wpAny_loadPart' hl,AutoSeq1.wpAny_loadPart' hb;exact ⟨_,rfl,h⟩
theorem IBin.addList{i:Nat}{b:AV}{l l':List AV}(hi:st.hp i = some (.list l))(hb:fJ st b = some l')(hz:l.length+l'.length≤sizeLine)(h:Q (.ref i) (st.put i (.list (l++l')))):i6 G cx fm X .Add (.ref i) b st Q:=by
 intro W₀ v u rv ru W s A hA hW hR hT;obtain ⟨p,vs,n,rfl,hal,hL,rs⟩:=hR.listM (rv.mono hW) hi;obtain ⟨q,T,us,n',hT,rfl,hq,rs'⟩:=hR.seq (ru.mono hW) hb;have h1:=rs.length;have h2:=rs'.length;have hs0:¬(! vs.toArray.isEmpty && Builtin.List.listTooLong (vs.toArray.size+us.toArray.size))= true:=by
  simp [Builtin.List.listTooLong];intro _;have:sizeLine≤2 ^ 60:=by decide
  change zV
 have hfin:dZ G W fm (RV G) Q (.ref p) {s with heap:=s.heap.update p (Obj.mapSeq fun x=>x++us.toArray),toks:=s.toks}:=by
  have hL':=IsL.update hL (fun xs=>xs++us.toArray);refine ⟨W,_,.ref i,.refl _,hR.putList (t:=s.toks) (vs':=vs++us) hi hal (Heap.SameBut.update ..) (by simpa using hL') (rs.append rs'),?_,h⟩
  exact eJ.mk p rfl hal
 have z1:vs.length≤sizeLine:=lT (qE h1.symm) (lT (Nat.le_add_right _ _) hz);have z2:vs.length+us.length≤sizeLine+1:=Nat.le_succ_of_le (h1▸h2▸hz);rcases hT with rfl | rfl
 ·refine fC ⟨_,hL,rfl⟩ ⟨_,hq,rfl⟩ noFill_list_add ?_;exact call_meets PySem.F.slot_list_iadd ⟨_,hL,rfl⟩ PySem.F.entry_list_iadd (PySem.F.args_list_iadd_2 _ _) (AutoSeq1.list___iadd___list_list_0 p vs.toArray n q us.toArray n' hs0 (by simp;exact z1) (by simp;exact z2)) ⟨hL,hq,hfin⟩
 ·refine fC ⟨_,hL,rfl⟩ ⟨_,hq,rfl⟩ noFill_tuple_add ?_;exact call_meets PySem.F.slot_list_iadd ⟨_,hL,rfl⟩ PySem.F.entry_list_iadd (PySem.F.args_list_iadd_2 _ _) (gT p vs.toArray n q us.toArray n' hs0 (by simp;exact z1) (by simp;exact z2)) ⟨hL,hq,hfin⟩
theorem dQ(vs:List Value):∀(n:Nat) (acc:List Value),List.foldl (fun x1 x2=>x1++x2) acc.toArray (List.replicate n vs.toArray)=(acc++(List.replicate n vs).flatten).toArray:=by
 intro zl
 induction zl with
 | zero=>
  intro acc;simp
 | succ n ih=>
  intro acc;rw [List.replicate_succ,List.foldl_cons,List.append_toArray,ih];simp [List.replicate_succ]
theorem au.times{l:List AV}{vs:List Value}(rs:au G W l vs):∀m:Nat,au G W (List.replicate m l).flatten (List.replicate m vs).flatten:=by
 intro zl
 induction zl with
 | zero=>
  exact au.nil
 | succ m ih=>
  rw [List.replicate_succ,List.replicate_succ,List.flatten_cons,List.flatten_cons];exact rs.append (ih)
set_option tactic.hygienic true in
theorem Bin.mulListF{a:AV}{l:List AV}{k:Int}(ha:aM st a = some l)(hlo: -(2 ^ 63:Int)≤k)(hhi:k < 2 ^ 63)(hz:l.length * k.toNat≤2 ^ 24)(h:Q (.lst (List.replicate k.toNat l).flatten) st):ji G cx fm X .Mult a (.int k) st Q:=by
 intro W₀ v u rv ru W s A hA hW hR hT;obtain ⟨t,rfl⟩:=ru;obtain ⟨p,vs,n,rfl,hL,rs⟩:=hR.lst (rv.mono hW) ha;have hlen:=rs.length;rw [hlen] at hz;refine wpAny_binaryOp_repeat_ref (T:= "list") (U:= "int") (by decide) ⟨_,hL,rfl⟩ (fun s'=>typeIs_int s' k t) noFill_list_mul F.fills_int_mul F.slot_int_rmul repeat_list F.slot_int_index.lookup
  (call_meets F.slot_int_rmul (typeIs_int s k t) F.entry_int_rmul (F.args_int_rmul_2 _ _) (int___rmul___int_list k t p vs.toArray n)
   ⟨hL,rfl,⟨_,hL,rfl⟩,call_meets F.slot_list_mul ⟨_,hL,rfl⟩ F.entry_list_mul (F.args_list_mul_2 _ _)
    (AutoListH.list___mul___list_int_3 p vs.toArray n k t (by simp [Builtin.List.listFitsIndex];change Ao) (by simp only [List.size_toArray];exact Nat.not_lt.mpr (lT hz (by decide))) (by simp [Builtin.List.listTooLong,sizeLine];assumption))
    ⟨hL,?_⟩⟩)
 obtain ⟨le,hR'⟩:=hR.pushF {cls:= .type "list",data:= .seq (List.foldl (fun x1 x2=>x1++x2) #[] (List.replicate (if vs.toArray.isEmpty = true then 0 else k.toNat) vs.toArray))} s.toks;refine ⟨_,st,.lst (List.replicate k.toNat l).flatten,le,hR',?_,h⟩;refine dh.mk _ _ ((List.replicate k.toNat vs).flatten) rfl (if_pos rfl) ⟨rfl,rfl,rfl,0,?_⟩ ?_
 ·have:=dQ vs (if vs.toArray.isEmpty = true then 0 else k.toNat) [];simp only [List.nil_append] at this;show Data.seq (List.foldl _ #[] _) 0 = _;rw [this]
  congr 1
  split
  ·rename_i q;have:vs = []:=by simpa using q
   subst this;simp
  ·rfl
 ·exact (rs.mono le).times _
theorem Cal.index{a:AV}{ys:List Str}{k:Str}{j:Nat}(ha:aM st a = some (ys.map .str))(hj:ys[j]? = some k)(hno:∀m,m < j→ys[m]?≠some k)(hz:ys.length≤sizeLine)(h:Q (.int j) st):bB G cx fm X (.builtin "list.index") [a,.str k] st Q:=by
 intro W₀ vs rs W s A hA hW hR hT;obtain ⟨v,_,rfl,rv,u,_,rfl,⟨t,rfl⟩,rfl⟩:=rs;obtain ⟨p,vs,n,rfl,hL,rs⟩:=hR.lst (rv.mono hW) ha;have hlen:=rs.length;rw [lN] at hlen;have key:∀m (hm:m < vs.toArray.size),∃y t',ys[m]? = some y∧vs.toArray[m] = .str y t':=fun m hm=>by
  have hm':m < ys.length:=by simpa [hlen] using hm
  obtain ⟨w,hw,rw'⟩:=rs.get (i:=m) (x:= .str ys[m]) (by simp [hm'])
  obtain ⟨t',rfl⟩:=rw';exact ⟨ys[m],t',by simp [hm'],by have:=(gS hw).2;simpa using this⟩
 have hjl:j < ys.length:=(gS hj).1;have hj':j < vs.toArray.size:=by simpa [← hlen] using hjl
 let e:Value→Bool:=fun v=>match v with | .str y _=>y == k | _=>false
 refine call_meets PySem.F.slot_list_index ⟨_,hL,rfl⟩ PySem.F.entry_list_index (PySem.F.args_list_index_2 _ _) (MeetsSeq.list_index p vs.toArray n (.str k t) e (fun y hy=>?_) j hj' ?_ ?_ ?_) ⟨hL,W,st,.int j,.refl _,hR.toks _,?_,h⟩
 ·obtain ⟨m,hm,rfl⟩:=Array.mem_iff_getElem.mp hy;obtain ⟨y,t',_,e'⟩:=key m hm;rw [e'];have hq:e (.str y t')=(y.cps.toList == k.cps.toList):=by
   show (y == k)= _;rw [Bool.eq_iff_iff,beq_iff_eq,beq_iff_eq];constructor
   ·rintro rfl;rfl
   ·intro q;cases y;cases k;simp only [Str.mk.injEq];exact Array.toList_inj.mp q
  rw [hq];exact SeqRoads2.EqGives.str _ _ _ _
 ·have:=bK;have:(j:Int) < sizeLine:=by exact_mod_cast (Nat.lt_of_lt_of_le hjl hz)
  with_reducible exact zN ‹_› ‹_›
 ·obtain ⟨y,t',h1,h2⟩:=key j hj';rw [h2];rw [hj] at h1;cases h1;simp [e]
 ·intro m hm hmj;obtain ⟨y,t',h1,h2⟩:=key m hm;rw [h2];have:y≠k:=fun q=>hno m hmj (q▸h1);simpa [e] using this
 ·exact Exists.intro _ rfl
end
end
section
section
variable {G:Gd}{cx:Cx}{fm:Fm}{X:Value→St→Prop}{W₀ W:Wd}{st:St}{s:Shared}{Q:AV→St→Prop}
theorem au.ints:∀{ns:List Int} {vs:List Value},au G W (ns.map .int) vs→IntsAre vs ns:=by
 intro zl
 induction zl with
 | nil=>
  intro _ e;obtain rfl:=e;exact .nil
 | cons y ys ih=>
  intro _ e;obtain ⟨u,r,rfl,⟨t,rfl⟩,e⟩:=e;exact .cons y t (ih e)
theorem Cal.sum{a:AV}{ns:List Int}(hc:cx.calm = true)(ha:aM st a = some (ns.map .int))(h:Q (.int ns.sum) st):bB G cx fm X (.builtin "sum") [a] st Q:=by
 intro W₀ vs rs W s A hA hW hR hT;obtain ⟨v,_,rfl,rv,rfl⟩:=rs;obtain ⟨p,vs,n,rfl,hL,rs⟩:=hR.lst (rv.mono hW) ha;have hi:=rs.ints;obtain ⟨xs,hx⟩:=hi.allInts.items;have hl':s.heap.IsList p (intItems xs):=hx▸hL.isList;refine sum_intListG (hA.calm hc) hl' fun h' tk t' hk=>?_;have e1:ns = xs.toList.map (·.1):=by
  rw [← nums_intItems,← hx];exact (show numsOf vs.toArray.toList = ns from hi.numsOf).symm
 have e2:preSum (numAt xs) xs.size = ns.sum:=by
  rw [preSum_eq,List.take_of_length_le (by simp),e1]
 rw [e2];exact ⟨W,st,.int ns.sum,.refl _,hR.keeps hk,Exists.intro _ rfl,h⟩
noncomputable def signs(x:Str):List Str:=x.cps.toList.map fun c=>⟨#[c]⟩
theorem Cal.ord{c:Nat}(h:Q (.int c) st):bB G cx fm X (.builtin "ord") [.str ⟨#[c]⟩] st Q:=by
 intro W₀ vs rs W s A hA hW hR hT;obtain ⟨v,_,rfl,⟨t,rfl⟩,rfl⟩:=rs;exact P.ord_of_char ⟨W,st,.int c,.refl _,hR.toks _,Exists.intro _ rfl,h⟩
theorem Cal.chr{i:Int}(hi:0≤i∧i < 256)(h:Q (.str ⟨#[i.toNat]⟩) st):bB G cx fm X (.builtin "chr") [.int i] st Q:=by
 intro W₀ vs rs W s A hA hW hR hT;obtain ⟨v,_,rfl,⟨t,rfl⟩,rfl⟩:=rs;refine P.chr_of_int ?_ ⟨W,st,.str ⟨#[i.toNat]⟩,.refl _,hR.toks _,Exists.intro _ rfl,h⟩;simp;omega
theorem Cal.bytesInts{a:AV}{ns:List Int}(hc:cx.calm = true)(ha:aM st a = some (ns.map .int))(hr:∀n∈ns,0≤n∧n < 256)(hz:ns.length≤sizeLine)(h:Q (.bytes (byteArr ns)) st):bB G cx fm X (.type "bytes") [a] st Q:=by
 intro W₀ vs rs W s A hA hW hR hT;obtain ⟨v,_,rfl,rv,rfl⟩:=rs;obtain ⟨p,vs,n,rfl,hL,rs⟩:=hR.lst (rv.mono hW) ha;have hlen:=rs.length;refine call_bytes_ints hL.isList rs.ints hr (by simpa [← hlen] using hz) (hA.calm hc) fun h' t k hk=>?_
 exact ⟨W,st,.bytes (byteArr ns),.refl _,hR.keeps hk,Exists.intro _ rfl,h⟩
theorem Cal.join{a:AV}{x:Str}{ys:List Str}(ha:aM st a = some (ys.map .str))(hok:(ys.map (·.length)).sum+ys.length * x.length≤16777216)(h:Q (.str (Txt.join x ys)) st):bB G cx fm X (.builtin "str.join") [.str x,a] st Q:=by
 intro W₀ vs rs W s A hA hW hR hT;obtain ⟨_,_,rfl,⟨t,rfl⟩,v,_,rfl,rv,rfl⟩:=rs;obtain ⟨p,vs,n,rfl,hL,rs⟩:=hR.lst (rv.mono hW) ha;exact join_list hL.isList (by simpa using rs.strs) hok fun t' k=>⟨W,st,.str (Txt.join x ys),.refl _,hR.toks _,Exists.intro _ rfl,h⟩
set_option maxRecDepth 100000 in
theorem Mth.str{x:Str}{name:Str}{id:String}(slot:Slot "str" name id)(hty:typeOf (.builtin id)= Pure.pure (.type "method_descriptor")):nj G cx fm X (.str x) name (.builtin id) [.str x] st:=by
 intro W s A E pl Q v hA hR rv hQ;have rv':=rv;obtain ⟨t,rfl⟩:=rv;exact getMethod_builtin (typeIs_str _ _ _) PySem.F.plainAttrs_str slot hty (fun a e=>by cases e) (hQ [.str x t] s.toks (au.cons rv' au.nil))
end
end
section
theorem pj:typeLookup (.type "list") "keys" = Pure.pure none:=by rw [typeLookup_type,builtinLookup_eq_fast];kernel_rfl
section
variable {prog:Program}{w:World}{A:Around}{E:Value→Shared→Prop}{s:Shared}
theorem uC{a:Addr}{xs:Array Value}{k:Nat}{Q:Option Value→Shared→Prop}(hx:s.heap.get? a = some {cls:= .type "list",dict:=none,data:= .seq xs k,slots:=#[]})(hA:A.handled = none)
  (h:∀h' tk,(∀b o,s.heap.get? b = some o→h'.get? b = some o)→Q none {s with heap:=h',toks:=tk}):wpAny (model prog w) A (getAttr? (.ref a) "keys") Q E s:=by
 obtain ⟨hp,g,d,tk,os⟩:=s;have hT:∀tk',(⟨hp,g,d,tk',os⟩:Shared).TypeIs (.ref a) "list" :=fun Z=>⟨_,hx,rfl⟩;have f1:=sub_AttributeError;have f3:=F.slot_list_getattribute.lookup;have f4:=F.slot_list_getattribute.bind (.ref a);have f5:=am_list_getattr_none;unfold getAttr? getAttrBy? getAttrBy
 repeat (any_goals (first | assumption | exact hT _ | ((with_reducible show wpAny _ _ (call (Value.builtin "list.__getattribute__") _ _) _ _ _);refine call_meets F.slot_list_getattribute (hT _) am_entry_list_getattribute (F.args_list_getattribute_2 _ _) (meets_getattribute_miss_list a xs k #[] "keys" _ pj (by decide) (by rw [sizeLine_eq];decide)) ⟨hx,hA,fun h' tk' e hx'=>?_⟩) | wp_step))
 obtain ⟨t',u',he⟩:=hx'.there;show wpAny _ _ (getattributeRaised _ _ _ _ _ _ _) _ _ _;unfold getattributeRaised
 repeat (any_goals (first | assumption | wp_step))
 exact h _ _ hx'.keeps
end
theorem c8:entryFor table "dict.update.loop" = some Builtin.«dict.update.loop»:=entryFor_of_fast (by kernel_rfl)
theorem bC:plainId "dict.update.loop" = true:=by decide+kernel
noncomputable def ax(prs:List (Str×AV)):List Str×List AV:=prs.foldl (fun b p=>dput b.1 b.2 p.1 p.2) ([],[])
theorem eQ(prs:List (Str×AV)):(ax prs).1.length≤prs.length:=by
 have key:∀(l:List (Str×AV)) (b:List Str×List AV),(l.foldl (fun b p=>dput b.1 b.2 p.1 p.2) b).1.length≤b.1.length+l.length:=by
  intro l
  induction l with
  | nil=>intro b;simp
  | cons p l ih=>
   intro b;rw [List.foldl_cons];have:=ih (dput b.1 b.2 p.1 p.2);have h2:(dput b.1 b.2 p.1 p.2).1.length≤b.1.length+1:=by unfold dput;split <;> simp
   exact lT this (lT (Nat.add_le_add_right h2 _) (qE (by rw [List.length_cons,Nat.add_assoc,Nat.add_comm 1])))
 simpa [ax] using key prs ([],[])
section
variable {G:Gd}{cx:Cx}{fm:Fm}{X:Value→St→Prop}{W₀ W:Wd}{st:St}{s:Shared}{Q:AV→St→Prop}
theorem mE{A:Around}{R:Result→Shared→Prop}{a:AV}{l it d:Addr}{prs:List (Str×AV)}(ra:RV G W a (.ref l))(hl:aM st a = some (prs.map fun p=> .tup [.str p.1,p.2]))(hz:prs.length≤1000)(hh:A.handled = none)(hne:it≠d):
  ∀(k i:Nat) (s:Shared),prs.length - i = k→i≤prs.length→Rep G W fm st s→aF W fm it→aF W fm d→(∃o,s.heap.get? it = some o∧o.cls = .type "list_iterator" ∧o.data = .fields #[.ref l,.int i 0])→
  (∃o vs,s.heap.get? d = some o∧isDict G o (ax (prs.take i)).1 vs∧au G W (ax (prs.take i)).2 vs)→
  (∀s',Rep G W fm st s'→(∃o vs,s'.heap.get? d = some o∧isDict G o (ax prs).1 vs∧au G W (ax prs).2 vs)→R (.ok (.ret .none)) s')→
  codeAny G.M A (.builtin "dict.update.loop" ⟨[.ref d,.ref it,rawInt i,.none],[]⟩) R s:=by
 intro k
 induction k with
 | zero=>
  intro i s hk hi Rp fri frd hit hd hR;obtain ⟨p,vs,n,e,hL,rs⟩:=Rp.lst ra hl;cases e;have hin:i = prs.length:=Nat.le_antisymm hi (Nat.le_of_sub_eq_zero hk);subst hin;refine codeAny_builtin c8 ?_;rw [Around.under_plainId bC _];refine (wpAny_bind (wpAny_pyNext_list_end hh hit hL.isList (by rw [← List.length_map (as:=prs),rs.length];simp) fun h' hs=>?_):wpAny _ A.in1 (pyNext (.ref it) >>= _) _ _ s)
  refine wpAny_bind (wpAny_pure ?_);refine wpAny_pure ?_;rw [List.take_length] at hd;obtain ⟨o,us,g1,g2⟩:=hd;exact hR _ (Rp.extBut (t:=s.toks) hs fri.F fri.H fri.k) ⟨o,us,hs _ _ (Ne.symm hne) g1,g2⟩
 | succ k ih=>
  intro i s hk hi Rp fri frd hit hd hR;obtain ⟨p,vs,n,e,hL,rs⟩:=Rp.lst ra hl;cases e;have hlt:i < prs.length:=Nat.lt_of_sub_pos (Nat.lt_of_lt_of_eq (Nat.succ_pos k) hk.symm);obtain ⟨v,hv,rv⟩:=rs.get (i:=i) (x:= .tup [.str prs[i].1,prs[i].2]) (by rw [gM,gE hlt];rfl)
  obtain ⟨q,us,m,rfl,hq,rus⟩:=Rp.tup rv;obtain ⟨_,_,rfl,⟨t,rfl⟩,u,_,rfl,ru,rfl⟩:=rus;refine codeAny_builtin c8 ?_;rw [Around.under_plainId bC _];refine (wpAny_bind (wpAny_pyNext_list_item hit hL.isList (x:= .ref q) (by simpa using hv) fun h' hit' hs=>?_):wpAny _ A.in1 (pyNext (.ref it) >>= _) _ _ s)
  have Rp':=Rp.extBut (t:=s.toks) hs.extBut fri.F fri.H fri.k;have hq':h'.get? q = some {cls:= .type "tuple",dict:=Option.none,data:= .seq [Value.str prs[i].1 t,u].toArray m,slots:=#[]}:=by
   obtain ⟨q',us',m',e,hq',_⟩:=Rp'.tup rv;refine (hs.2 q ?_).trans hq;intro e;obtain ⟨o,ho,hc,_⟩:=hit;rw [e,ho] at hq;cases hq;injection hc with hc;exact absurd hc (by decide)
  obtain ⟨o,us,g1,g2,g3⟩:=hd;have g1':h'.get? d = some o:=(hs.2 d (Ne.symm hne)).trans g1;refine wpAny_bind (wpAny_holding ?_);refine wpAny_bind (wpAny_tryCatch ?_);unfold Builtin.Dict.pairItems;refine wpAny_bind (wpAny_typeOf (T:= "tuple") ⟨_,hq',rfl⟩ ?_);refine wT (by decide) ?_
  refine wpAny_bind (wpAny_seqItems hq' rfl (wpAny_pure ?_));show wpAny _ _ (PySem.holding _ (dictSet d (.str prs[i].1 t) u)) _ _ _;have hlen:(ax (prs.take i)).1.length≤sizeLine:=lT (eQ _) (lT (List.length_take_le' _ _) (lT hz (by rw [sizeLine_eq];decide)))
  refine wpAny_holding (jQ (G:=G) g1' g2 hlen fun h'' o'' k1 k2 k3=>?_);refine wpAny_pure ⟨plainId_quiet bC _,?_⟩;have Rp'':=Rp'.extBut (t:=s.toks+1) k3.extBut frd.F frd.H frd.k;have e1:ax (prs.take (i+1))= dput (ax (prs.take i)).1 (ax (prs.take i)).2 prs[i].1 prs[i].2:=by
   unfold ax;rw [List.take_add_one,gE hlt,Option.toList_some,List.foldl_append];rfl
  rw [show ((i:Int)+1)=((i+1:Nat):Int) by push_cast;rfl]
  refine ih (i+1) _ ((Nat.sub_add_eq _ _ _).trans (congrArg Nat.pred hk)) hlt Rp'' fri frd ?_ ⟨o'',(dput (ax (prs.take i)).1 us prs[i].1 u).2,k1,?_,?_⟩ hR
  ·obtain ⟨oi,i1,i2,i3⟩:=hit';exact ⟨oi,(k3.2 it hne).trans i1,i2,i3⟩
  ·rw [e1,iz (us:=us) (u:=u)];exact k2
  ·rw [e1];exact g3.dput ru
theorem Cal.dictPairs{a:AV}{prs:List (Str×AV)}(O:G.Ok)(hc:cx.calm = true)(hl:aM st a = some (prs.map fun p=> .tup [.str p.1,p.2]))(hz:prs.length≤1000)(h:Q (.dct (ax prs).1 (ax prs).2) st):bB G cx fm X (.type "dict") [a] st Q:=by
 intro W₀ vs rs W s A hA hW hR hT;obtain ⟨v,_,rfl,rv,rfl⟩:=rs;have rv':=rv.mono hW;obtain ⟨p,vs,n,rfl,hL,rs⟩:=hR.lst rv' hl;refine callType_codes (Q₁:=fun obj s₁=>obj = .ref s.heap.objs.size∧s₁ ={s with heap:=s.heap.push {cls:= .type "dict",data:= .dict #[]}}) F.kt_called_dict (F.kt_typeCall_dict_1 _) F.entry_dict_init (kt_code_dict_new _ ⟨rfl,rfl⟩) ?_;rintro obj s₁ ⟨rfl,rfl⟩;have R₁:=hR.pushJ {cls:= .type "dict",data:= .dict #[]} s.toks;have frd:aF W fm s.heap.objs.size:=hR.free (aw _);have hnew:(s.heap.push {cls:= .type "dict",data:= .dict #[]}).DictOf (strKind G.prog G.w) s.heap.objs.size []:=Heap.DictOf.new s.heap;refine ⟨hnew.typeIs,F.args_dict_init_2 _ _,?_⟩;unfold Builtin.«dict.__init__»;refine wpAny_bind ?_;unfold Builtin.Dict.selfAndRest;refine wpAny_bind (wpAny_notOrdered_dict hnew.typeIs ?_);refine (wpAny_pure ?_:wpAny _ _ (Pure.pure (s.heap.objs.size,[Value.ref p])) _ _ _);show wpAny _ _ (Builtin.Dict.updateFrom "dict.__init__" s.heap.objs.size (.ref p) [] .none) _ _ _;unfold Builtin.Dict.updateFrom;have hL₁:IsL (s.heap.push {cls:= .type "dict",data:= .dict #[]}) p vs.toArray n:=hL.push _;refine wpAny_bind (wpAny_typeOf (T:= "list") ⟨_,hL₁,rfl⟩ ?_);refine wT (by decide) ?_
 refine wpAny_bind (uC hL₁ (hA.calm hc) fun h₂ tk₂ hk₂=>?_);refine wT (by rfl) ?_
 refine wpAny_bind (wpAny_rule ?_);have hL₂:IsL h₂ p vs.toArray n:=hk₂ _ _ hL₁;have R₂:=R₁.keeps (t:=tk₂) hk₂;refine wpAny_bind (wpAny_pyIter_list hL₂.isList ?_);refine wpAny_pure ⟨plainId_quiet bC _,?_⟩;have R₃:=R₂.pushJ {cls:= .type "list_iterator",data:= .fields #[.ref p,.int 0 0]} tk₂;have hd₂:h₂.get? s.heap.objs.size = some {cls:= .type "dict",data:= .dict #[]}:=hk₂ _ _ (Heap.get?_push_size _ rfl);have hne:h₂.objs.size≠s.heap.objs.size:=fun e=>absurd (e▸Heap.lt_size hd₂) (Nat.lt_irrefl _);obtain ⟨od,ho1,ho2⟩:=eo (G:=G) (ks:= []) (vs:= []) hnew rfl rfl;refine mE (A:=A.in1) rv' hl hz (hA.calm hc) hne prs.length 0 _ rfl (Nat.zero_le _) R₃ (R₂.free (aw _)) frd ⟨_,Heap.get?_push_size _ rfl,rfl,rfl⟩ ⟨od,[],Heap.get?_push_of_some _ (hk₂ _ _ ho1),ho2,au.nil⟩ fun s' R' hd'=>?_;obtain ⟨o',us,g1,g2,g3⟩:=hd';have:=uN (b:=ax prs) O R' frd ⟨o',g1,us,g2,g3⟩ h;exact ⟨rfl,this⟩
end
end
section
section
variable {G:Gd}{cx:Cx}{fm:Fm}{X:Value→St→Prop}{W₀ W:Wd}{st:St}{s:Shared}{Q:AV→St→Prop}
noncomputable def cut(x:Str)(lo hi:Option Int):Str:=⟨(pick x.cps.toList lo hi Option.none).toArray⟩
set_option tactic.hygienic true in
theorem ph(x:Str)(lo hi:Option Int):Txt.slice x lo hi = cut x lo hi:=by
 have e:Builtin.Str.strSliceIndices lo hi 1 x.length = List.range' (lo.elim 0 (clipAt x.length)) (hi.elim x.length (clipAt x.length) - lo.elim 0 (clipAt x.length)):=by
  have:=sliceBounds_plain lo hi x.length;have e2:Builtin.Str.strSliceIndices lo hi 1 x.length = sliceRange (sliceBounds lo hi Option.none x.length).1 (sliceBounds lo hi Option.none x.length).2.1 (sliceBounds lo hi Option.none x.length).2.2:=rfl;rw [e2,sliceBounds_plain,sliceRange_one,List.range'_eq_map_range]
 have hp:pick x.cps.toList lo hi Option.none =(x.cps.toList.drop (lo.elim 0 (clipAt x.length))).take (hi.elim x.length (clipAt x.length) - lo.elim 0 (clipAt x.length)):=by
  rw [bD];rfl
 have hb:hi.elim x.length (clipAt x.length)≤x.length:=by
  cases hi with
  | none=>exact Nat.le_refl _
  | some i=>show clipAt x.length i≤x.length;unfold clipAt;change zL
 unfold Txt.slice cut
 split
 ·rename_i h;rw [e,List.length_range'] at h;rw [hp];simp only [beq_self_eq_true,Bool.true_and,beq_iff_eq] at h;have hn:x.length = x.cps.toList.length:=by simp [Str.length]
  by_cases h0:x.length = 0
  ·rw [h0] at hn;have:x.cps.toList = []:=List.eq_nil_of_length_eq_zero hn.symm;rw [this];obtain ⟨⟨c⟩⟩:=x;simp at this;subst this;simp
  ·have ha:lo.elim 0 (clipAt x.length)= 0:=by change AH
   rw [h,ha,List.drop_zero,hn,List.take_length]
 ·rw [e];have:(List.range' (lo.elim 0 (clipAt x.length)) (hi.elim x.length (clipAt x.length) - lo.elim 0 (clipAt x.length))).filterMap (x.cps[·]?)= pick x.cps.toList lo hi Option.none:=by
   unfold pick;have e2:sliceRange (sliceBounds lo hi Option.none x.cps.toList.length).1 (sliceBounds lo hi Option.none x.cps.toList.length).2.1 (sliceBounds lo hi Option.none x.cps.toList.length).2.2 = Builtin.Str.strSliceIndices lo hi 1 x.length:=by
    rw [show x.cps.toList.length = x.length by simp [Str.length]];rfl
   rw [e2,e]
   congr 1
   funext i
   simp
  rw [this]
theorem Sub.sliceStr{value slice:PySem.Expr}{x:Str}{lo hi:Option Int}{ops:Value→Value→List Value}(hz:x.length≤sizeLine)(h:Q (.str (cut x lo hi)) st)
  (hs:∀o i,subscripted slice false o i = PySem.operate (ops o i) (getItem o i)):cZ G cx fm X value slice (.str x) (.slc lo hi Option.none) st Q:=by
 intro W₀ v u hv hu W s A hA hW hR hT;obtain ⟨t,rfl⟩:=hv;obtain ⟨b,vl,vu,vt,rfl,hsl,p1,p2,p3⟩:=hR.slc (hu.mono hW);have q1:∃l:Option (Int×Tok),vl = partValue l∧l.map (·.1)= lo:=by cases p1 with | none=>exact ⟨Option.none,rfl,rfl⟩ | int i t=>exact ⟨some (i,t),rfl,rfl⟩
 have q2:∃l:Option (Int×Tok),vu = partValue l∧l.map (·.1)= hi:=by cases p2 with | none=>exact ⟨Option.none,rfl,rfl⟩ | int i t=>exact ⟨some (i,t),rfl,rfl⟩
 cases p3;obtain ⟨l1,rfl,rfl⟩:=q1;obtain ⟨l2,rfl,rfl⟩:=q2;refine tail_any (typeIs_str _ _ _) F.slot_str_getitem.lookup (wpAny_getItem_str_slice (l:=l1) (u:=l2) (st:=Option.none) hsl rfl ?_) (hs _ _);refine post_val_or_str ⟨lT (Txt.slice_le x _ _) hz,fun t' k=>?_⟩;refine ⟨W,st,.str (cut x (l1.map (·.1)) (l2.map (·.1))),.refl _,hR.toks _,?_,h⟩;simp only [kz];exact ⟨t',by rw [← ph];rfl⟩
inductive BN(y z:Str)(Q:AV→St→Prop)(a:AV)(st₁:St):Prop
 | mk (x:Str) (ha:a = .str x) (hz:x.length+(x.length+1)* z.length≤16777216) (h:Q (.str (Txt.replace x y z)) st₁)
theorem Cal.split{x y:Str}(hy:(y.length == 0)= false)(hz:x.length≤sizeLine)(hz2:(Txt.split x y).length≤sizeLine)(h:Q (.lst ((Txt.split x y).map .str)) st):bB G cx fm X (.builtin "str.split") [.str x,.str y] st Q:=by
 intro W₀ vs rs W s A hA hW hR hT;obtain ⟨_,_,rfl,⟨t,rfl⟩,_,_,rfl,⟨u,rfl⟩,rfl⟩:=rs;have fin:∀(l:List (Str×Tok)) (tk:Nat),l.map (·.1)= Txt.split x y→dZ G W fm (RV G) Q (.ref s.heap.objs.size) {s with heap:=s.heap.push {cls:= .type "list",data:= .seq (strValues l).toArray},toks:=tk}:=fun l tk hl=>by
  obtain ⟨le,hR'⟩:=hR.pushF {cls:= .type "list",data:= .seq (strValues l).toArray} tk;refine ⟨_,st,.lst ((Txt.split x y).map .str),le,hR',?_,h⟩;refine dh.mk _ _ (strValues l) rfl (if_pos rfl) ⟨rfl,rfl,rfl,0,rfl⟩ ?_;rw [← hl];refine au.of_get (by simp [strValues]) fun i a v ha hv=>?_
  simp only [strValues,List.getElem?_map,Option.map_map] at ha hv;cases hli:l[i]? with
  | none=>rw [hli] at ha;cases ha
  | some p=>
   rw [hli] at ha hv;simp only [Option.map_some,Option.some.injEq] at ha hv;subst ha hv;simp only [Function.comp,kz];exact ⟨_,rfl⟩
 cases h1:(decide (x.length < y.length) || decide (Builtin.Str.strKind x < Builtin.Str.strKind y))
 ·cases hf:(Builtin.Str.occurrences x y 0 x.length (x.length+1)).isEmpty
  ·have hsp:Txt.split x y = Builtin.Str.partsBetween x (Builtin.Str.occurrences x y 0 x.length (x.length+1)) y.length:=(if_neg (ne_true_of_eq_false h1)).trans (if_neg (ne_true_of_eq_false hf));refine call_meets F.slot_str_split (typeIs_str _ _ _) F.entry_str_split (F.args_str_split_2 _ _) (meets_str_split_sep x y t u h1 hy hf hz (hsp▸hz2)) ?_;show wants _ _ _ {s with toks:=_,heap:=s.heap.push {cls:= .type "list",data:= .seq (strsFrom s.toks (Builtin.Str.partsBetween x (Builtin.Str.occurrences x y 0 x.length (x.length+1)) y.length)).toArray}};rw [strsFrom_eq];exact fin (numbered s.toks _) _ ((numbered_texts _ _).trans hsp.symm)
  ·exact call_meets F.slot_str_split (typeIs_str _ _ _) F.entry_str_split (F.args_str_split_2 _ _) (meets_str_split_not_found x y t u h1 hy hf) (fin [(x,t)] s.toks ((if_neg (ne_true_of_eq_false h1)).trans (if_pos hf)).symm)
 ·exact call_meets F.slot_str_split (typeIs_str _ _ _) F.entry_str_split (F.args_str_split_2 _ _) (meets_str_split_cannot_occur x y t u h1) (fin [(x,t)] s.toks (if_pos h1).symm)
theorem nE{it:Addr}{b:Array UInt8}{t:Tok}:b7 G it ((KBw.bInts b).map .int) (fun Z=>True) fun W k o=>o.cls = .type "bytes_iterator" ∧o.data = .fields #[.bytes b t,.int k 0] where
 item:=by
  intro W s A fm st k o x E Q R c fr ho ⟨h1,h2⟩ hx h;rw [gM] at hx;obtain ⟨i,hi,rfl⟩:=oM hx;unfold KBw.bInts at hi;rw [gM] at hi;obtain ⟨c,hc,rfl⟩:=oM hi;refine KBw.next_item ⟨o,ho,h1,h2⟩ (c:=c) (by simpa using hc) fun h' hit hs=>?_
  obtain ⟨o',g1,g2,g3⟩:=hit;exact h _ _ W o' (.refl _) (R.extBut (t:=s.toks+1) hs.extBut fr.F fr.H fr.k) fr g1 ⟨g2,by simpa using g3⟩ (by simp)
 stop:=by
  intro W s A fm st o E Q hh R c fr ho ⟨h1,h2⟩ h;refine KBw.next_end hh ⟨o,ho,h1,h2⟩ (by simp [KBw.bInts]) fun h' hs=>?_
  exact h _ (R.extBut (t:=s.toks) hs fr.F fr.H fr.k)
 mono:=fun h x=>x
 self:=fun R ho x h=>KBw.pyIter_self ⟨_,ho,x.1,x.2⟩ h
 owned:=fun R fr ho x h=>bV ho x.1 (by decide) (h _ _ R ho x)
theorem Iter.bytes{b:Array UInt8}:b5 G (.bytes b) ((KBw.bInts b).map .int) fun Z=>True:=by
 intro W s A fm st E v Q c R ra h;obtain ⟨t,rfl⟩:=ra;refine KBw.pyIter_bytes ?_;exact h _ {cls:= .type "bytes_iterator",data:= .fields #[.bytes b t,.int 0 0]} _ _ W (.refl _) (R.pushJ _ s.toks) (R.free (aw _)) (Heap.get?_push_size _ rfl) nE ⟨rfl,rfl⟩
end
end
section
section
variable {G:Gd}{cx:Cx}{fm:Fm}{X:Value→St→Prop}{W₀ W:Wd}{st:St}{s:Shared}{Q:AV→St→Prop}
theorem iU{m:Sem Value}{rest:List (Bool×Sem Value)}{Q:List AV→St→Prop}(h:J G cx fm X bot m (RV G) st fun a st₁=>J G cx fm X bot (spliced rest) (au G) st₁ fun as st₂=>Q (a::as) st₂):J G cx fm X bot (spliced ((false,m)::rest)) (au G) st Q:=by
 rw [spliced];refine J.bind (J.mono h (fun a st₁ h₁ W₁ v Z ra=>?_) fun Z Y z=>z);simp only [Bool.false_eq_true,if_false];refine J.bind (R₁:=fun W (b:List Value) a=>a = [v]) (J.pure (b:= [v]) (fun Z Y=>rfl) fun W₂ here le hh=>?_);subst hh;refine J.bind (J.holding (J.mono (J.from h₁) (fun as st₂ h₂ W₃ vs le₃ rs=>?_) fun Z Y z=>z));exact J.pure (b:=a::as) (fun W hW=>au.cons (((ra.mono le).mono le₃).mono hW) (rs.mono hW)) h₂
theorem zg{as:List AV}{vs:List Value}(rs:au G W₀ as vs)(hz:as.length≤sizeLine)(h:Q (.tup as) st):J G cx fm X W₀ (newTuple vs) (RV G) st Q:=by
 intro W s A hA hW hR hT;have hz:vs.length≤sizeLine:=rs.length▸hz;refine wpAny_newObj_type ?_ (by simpa [sizeOk] using hz)
 obtain ⟨le,hR'⟩:=hR.freezeNew (t:=s.toks) (h':=s.heap.push {cls:= .type "tuple",data:= .seq vs.toArray}) (fun Z Y e=>Heap.get?_push_of_some _ e) (aw _) (Heap.get?_push_size _ rfl);refine ⟨_,st,.tup as,le,hR',?_,h⟩;exact dh.mk _ _ vs rfl (if_pos rfl) ⟨rfl,rfl,rfl,_,rfl⟩ ((rs.mono hW).mono le)
theorem wI{as:List AV}{vs:List Value}(rs:au G W₀ as vs)(hz:as.length≤sizeLine)(h:Q (.lst as) st):J G cx fm X W₀ (newList vs) (RV G) st Q:=by
 intro W s A hA hW hR hT;have hz:vs.length≤sizeLine:=rs.length▸hz;refine wpAny_newObj_type ?_ (by simpa [sizeOk] using hz)
 obtain ⟨le,hR'⟩:=hR.freezeNew (t:=s.toks) (h':=s.heap.push {cls:= .type "list",data:= .seq vs.toArray}) (fun Z Y e=>Heap.get?_push_of_some _ e) (aw _) (Heap.get?_push_size _ rfl);refine ⟨_,st,.lst as,le,hR',?_,h⟩;exact dh.mk _ _ vs rfl (if_pos rfl) ⟨rfl,rfl,rfl,_,rfl⟩ ((rs.mono hW).mono le)
end
end
section
noncomputable def W0(h:Heap):Wd:=⟨fun Z=>Option.none,h.get?,fun Z=>Option.none,fun Z=>false⟩
noncomputable abbrev kR(env:Env):Fm:=⟨env,ak env.scope.names,env.scope.names,fun Z=>Option.none,[env]⟩
set_option tactic.hygienic true in
theorem qb{G:Gd}{name:Str}{scope:Scope}{fa:Addr}{cd:Value}{s:Shared}{m cm:Str→Option Value}{cells:List (Addr×Obj)}{ps:List (Str×AV)}(F:Fr G.h₀ G.h₀.objs.size s.heap m)(N:News G.h₀ G.h₀.objs.size s.heap cells)
  (X:CellsAre cm (cellsFrom (G.h₀.objs.size+1) scope.names []) cells) (hk:scope.kind = .function) (hnd:(scope.names.map (·.1)).Nodup) (hg:s.gens = #[]) (ho:s.os = G.os)
  (hl:∀x av,scope.names.lookup x = some .local→bZ ps x = some av→∃v,m x = some v∧RV G (W0 G.h₀) av v) (hc:∀x av,scope.names.lookup x = some .cell→bZ ps x = some av→∃v,cm x = some v∧RV G (W0 G.h₀) av v):
  Rep G (W0 G.h₀) (kR (envOfC name scope G.h₀.objs.size fa cd)) ⟨bZ ps,fun Z=>Option.none⟩ s:=by
 have okc:=cellsFrom_ok scope.names (G.h₀.push {cls:= .type "dict",data:= .dict #[]}) (G.h₀.objs.size+1) [] ⟨fun Z Y hm=>(nomatch hm),List.Pairwise.nil⟩ (by rw [Heap.size_push];exact Nat.le_refl _)
 rw [Heap.size_push] at okc;have hab:∀n c,(n,c)∈cellsFrom (G.h₀.objs.size+1) scope.names []→G.h₀.objs.size < c:=fun n c hm=>(okc.1 n c hm).2;have C:Cl G.h₀.objs.size (cellsFrom (G.h₀.objs.size+1) scope.names []) s.heap cm:=Cl.of_news (own:= []) N X okc.2 hab;have own:∀x∈ak scope.names,∃c,(cellsFrom (G.h₀.objs.size+1) scope.names []).lookup x = some c:=fun y hy=>Option.isSome_iff_exists.mp (bI _ _ _ _ (.inl hy));have fresh:∀c,G.h₀.objs.size≤c→G.h₀.get? c = Option.none:=fun c hc=>Heap.get?_none_of_le hc;refine ⟨fun a o e=>F.keep a o e,fun a o e=>(nomatch e),fun a o e=>e,fun k ao e=>?_,fun k k' a e e'=>?_,fun k a e=>?_,⟨0,fun Z Y=>rfl⟩,hg,ho,⟨fun x av e=>(nomatch e),fun e he=>?_⟩,⟨hk,rfl,rfl,rfl,fun x hx=>aS hnd hx⟩,fun Z Y V=>rfl,fun Z Y V=>rfl⟩
 ·cases k with
  | obj i=>cases e
  | loc=>
   cases e;obtain ⟨o,es,ep,h1,h2,h3,h4⟩:=F.ns;refine ⟨G.h₀.objs.size,o,rfl,⟨fresh _ (Nat.le_refl _),rfl⟩,h1,es,ep,h2,h3,fun x av e=>?_⟩;dsimp only at e
   split at e
   ·rename_i hx;obtain ⟨v,hv,rv⟩:=hl x av hx e;exact ⟨v,by rw [h4];exact hv,rv⟩
   ·cases e
  | cell x=>
   by_cases hx:x∈ak scope.names
   ·have e':ao = AO.cell (bZ ps x):=by
     have:(if x∈ak scope.names then some (AO.cell (bZ ps x)) else Option.none)= some ao:=e;rw [if_pos hx] at this;cases this;rfl
    subst e';obtain ⟨c,hcl⟩:=own x hx;obtain ⟨o,ho,hd⟩:=C.cell x c hcl;refine ⟨c,o,(if_pos hx).trans hcl,⟨fresh c (Nat.le_of_lt (hab x c (mem_of_lookup hcl))),rfl⟩,ho,cm x,hd,fun av e=>?_⟩;exact hc x av (aS hnd hx) e
   ·have:(if x∈ak scope.names then some (AO.cell (bZ ps x)) else Option.none)= some ao:=e;rw [if_neg hx] at this;cases this
 ·cases k with
  | obj i=>cases e
  | loc=>
   cases k' with
   | obj i=>cases e'
   | loc=>rfl
   | cell y=>
    cases e
    by_cases hy:y∈ak scope.names
    ·have:(cellsFrom (G.h₀.objs.size+1) scope.names []).lookup y = some G.h₀.objs.size:=(if_pos hy).symm.trans e';exact absurd (hab _ _ (mem_of_lookup this)) (Nat.lt_irrefl _)
    ·exact absurd ((if_neg hy).symm.trans e') (by nofun)
  | cell x=>
   by_cases hx:x∈ak scope.names
   ·have e1:(cellsFrom (G.h₀.objs.size+1) scope.names []).lookup x = some a:=(if_pos hx).symm.trans e;cases k' with
    | obj i=>cases e'
    | loc=>cases e';exact absurd (hab _ _ (mem_of_lookup e1)) (Nat.lt_irrefl _)
    | cell y=>
     by_cases hy:y∈ak scope.names
     ·have e2:(cellsFrom (G.h₀.objs.size+1) scope.names []).lookup y = some a:=(if_pos hy).symm.trans e';rw [name_of_addr okc.2 (mem_of_lookup e1) (mem_of_lookup e2)]
     ·exact absurd ((if_neg hy).symm.trans e') (by nofun)
   ·exact absurd ((if_neg hx).symm.trans e) (by nofun)
 ·cases k with
  | obj i=>cases e
  | loc=>
   cases e;obtain ⟨o,es,ep,h1,_⟩:=F.ns;exact ⟨o,h1⟩
  | cell x=>
   by_cases hx:x∈ak scope.names
   ·have e1:(cellsFrom (G.h₀.objs.size+1) scope.names []).lookup x = some a:=(if_pos hx).symm.trans e;obtain ⟨o,ho,hd⟩:=C.cell x a e1;exact ⟨o,ho⟩
   ·exact absurd ((if_neg hx).symm.trans e) (by nofun)
 ·simp only [List.mem_cons,List.not_mem_nil,or_false] at he;subst he;exact ⟨by rw [show (envOfC name scope G.h₀.objs.size fa cd).scope.kind = scope.kind from rfl,hk];decide,_,rfl,.inl rfl⟩
theorem rD{name:Str}{scope:Scope}{L fa:Addr}{cd:Value}{n:Nat}(hn:n≤30)(hg:scope.isGenerator = false)(hc:scope.isCoroutine = false):
  (⟨n,true⟩:Cx).In (kR (envOfC name scope L fa cd)) (callerA.deeper (envOfC name scope L fa cd)):=by
 refine ⟨fun Z=>rfl,?_,?_,rfl,_,[],rfl,hg,hc,rfl,rfl⟩
 ·show (1+claimMargin)+1+8 * n+400 < recursionLimit;unfold claimMargin recursionLimit;change AD
 ·show 4+3+80 * n+200 < cLine;unfold cLine;change zY
theorem tw{G:Gd}{P:Params}{h:Heap}{ns:List Int}{a:Addr}(hh:h = G.h₀)(w:Well P h (.ref a) (ofPy (.list (ns.map .int)))):RV G (W0 G.h₀) (.lst (ns.map .int)) (.ref a):=by
 subst hh;have key:∀(ns:List Int) (vs:List Value),WellAll P G.h₀ vs (ofPys (ns.map .int))→au G (W0 G.h₀) (ns.map .int) vs:=by
  intro ns
  induction ns with
  | nil=>intro vs h;cases h;exact au.nil
  | cons n ns ih=>
   intro vs h;cases h with
   | cons h1 h2=>
    cases h1;exact au.cons (by simp) (ih _ h2)
 cases w with
 | list h1 h2=>
  exact dh.mk a _ _ rfl h1 ⟨rfl,rfl,rfl,0,rfl⟩ (key _ _ h2)
theorem pO(l:OpenLaw)(a b:List WData):l.row.claim.post a (.bool true) b = true:=by
 show (WShape.has [] (.bool true) .bool && WTm.holds [] (.eq .res (.lit (.bool true))) {args:=a,res:=some (.bool true),after:=b})= true;exact Bool.and_eq_true_iff.mpr ⟨by kernel_rfl,by kernel_rfl⟩
end
section
section
variable {G:Gd}{cx:Cx}{fm:Fm}{X:Value→St→Prop}{W₀ W:Wd}{st:St}{s:Shared}{Q:AV→St→Prop}
theorem Rep.freezeList(R:Rep G W fm st s){i:Nat}{l:List AV}{v:Value}(hi:st.hp i = some (.list l))(rv:RV G W (.ref i) v):∃W',W.Le W'∧Rep G W' fm (st.del i) s∧RV G W' (.lst l) v:=by
 obtain ⟨a,o,h1,h2,h3,ho,le,R'⟩:=R.freezeOld (st':=st.del i) hi (if_pos rfl) (fun j hj=> .inl (if_neg hj)) rfl;refine ⟨_,le,R',?_⟩;obtain ⟨b,rfl,hb⟩:=rv;rw [h1] at hb;cases hb;obtain ⟨vs,hs,rs⟩:=ho;exact dh.mk a o vs rfl (if_pos rfl) hs (rs.mono le)
inductive yO(Q:AV→St→Prop)(a:AV)(st₁:St):Prop
 | mk (i:Nat) (l:List AV) (e:a = .ref i) (h:st₁.hp i = some (.list l)) (q:Q (.lst l) (st₁.del i))
inductive Bk(Q:AV→St→Prop)(a:AV)(st₁:St):Prop
 | mk (i:Nat) (ks:List Str) (l:List AV) (ep:Nat) (e:a = .ref i) (h:st₁.hp i = some (.dict ks l ep)) (q:Q (.dct ks l) (st₁.del i))
inductive vQ{β:Type}(Q:β→St→Prop)(b:β)(st₁:St):Prop
 | mk (hp':Nat→Option AO) (h:∀k ao,hp' k = some ao→st₁.hp k = some ao) (q:Q b ⟨st₁.loc,hp'⟩)
theorem J.freeze{t:Sem Value}(h:J G cx fm X W₀ t (RV G) st (yO Q)):J G cx fm X W₀ t (RV G) st Q:=by
 intro W s A hA hW hR hT;refine wpAny_mono (h W s A hA hW hR hT) (fun v s' z=>?_) fun Z Y z=>z;obtain ⟨W',st₁,a,le,R',rv,i,l,rfl,hi,hq⟩:=z;obtain ⟨W'',le',R'',rv'⟩:=R'.freezeList hi rv;exact ⟨W'',_,_,le.trans le',R'',rv',hq⟩
theorem J.forget{α β:Type}{t:Sem α}{R:Wd→β→α→Prop}{Q:β→St→Prop}(h:J G cx fm X W₀ t R st (vQ Q)):J G cx fm X W₀ t R st Q:=by
 intro W s A hA hW hR hT;refine wpAny_mono (h W s A hA hW hR hT) (fun v s' z=>?_) fun Z Y z=>z;obtain ⟨W',st₁,a,le,R',rv,hp',hk,hq⟩:=z;refine ⟨W',⟨st₁.loc,hp'⟩,a,le,R'.weaken fun k ao e=>?_,rv,hq⟩;cases k with
 | obj i=>exact ⟨ao,hk i ao e,fun Z z=>z⟩
 | loc=>exact ⟨ao,e,fun Z z=>z⟩
 | cell x=>exact ⟨ao,e,fun Z z=>z⟩
set_option tactic.hygienic true in
theorem Rep.relabel(R:Rep G W fm st s){x:Str}{a a':AV}(hx:st.loc x = some a)(h:∀v,RV G W a v→RV G W a' v):Rep G W fm (st.setLoc x a') s:=by
 refine R.weaken fun k ao' e=>?_;cases k with
 | obj i=>exact ⟨ao',e,fun Z z=>z⟩
 | loc=>
  cases e;refine ⟨_,rfl,fun o z=>?_⟩;obtain ⟨es,ep,h1,h2,h3⟩:=z;refine ⟨es,ep,h1,h2,fun y av e=>?_⟩
  split at e
  ·rename_i hk;unfold St.setLoc at e;dsimp only at e
   split at e
   ·rename_i q;cases e;subst q;obtain ⟨v,e1,e2⟩:=h3 y a ((if_pos hk).trans hx);exact ⟨v,e1,h v e2⟩
   ·exact h3 y av ((if_pos hk).trans e)
  ·cases e
 | cell y=>
  by_cases hy:y∈fm.own
  ·have e':ao' = AO.cell ((st.setLoc x a').loc y):=by
    have:(if y∈fm.own then some (AO.cell ((st.setLoc x a').loc y)) else Option.none)= some ao':=e;rw [if_pos hy] at this;cases this;rfl
   subst e';refine ⟨AO.cell (st.loc y),if_pos hy,fun o z=>?_⟩;obtain ⟨v,h1,h2⟩:=z;refine ⟨v,h1,fun av e=>?_⟩;unfold St.setLoc at e;dsimp only at e
   split at e
   ·rename_i q;cases e;subst q;obtain ⟨u,e1,e2⟩:=h2 a hx;exact ⟨u,e1,h u e2⟩
   ·exact h2 av e
  ·have:(if y∈fm.own then some (AO.cell ((st.setLoc x a').loc y)) else Option.none)= some ao':=e;rw [if_neg hy] at this;cases this
theorem uW(R:Rep G W fm st s){x:Str}{a:AV}(hk:aX fm x)(hx:st.loc x = some a):∃v,RV G W a v:=by
 rcases hk with hk | ⟨hk,ho⟩
 ·obtain ⟨m,_,hm⟩:=R.ns;obtain ⟨v,_,rv⟩:=hm x a hk hx;exact ⟨v,rv⟩
 ·obtain ⟨_,o,_,_,_,v,_,h2⟩:=R.live (.cell x) (.cell (st.loc x)) (if_pos ho);obtain ⟨u,_,ru⟩:=h2 a hx;exact ⟨u,ru⟩
theorem Ex.freezeLoc{ss:List Stmt}{x:Str}{i:Nat}{l:List AV}{Q:AF→St→Prop}(hk:aX fm x)(hx:st.loc x = some (.ref i))(hi:st.hp i = some (.list l))(h:Ex G cx fm X ss ((st.del i).setLoc x (.lst l)) Q):Ex G cx fm X ss st Q:=by
 intro W s A hA hW hR hT;obtain ⟨v,rv⟩:=uW hR hk hx;obtain ⟨W',le,R',rv'⟩:=hR.freezeList hi rv;have R'':=R'.relabel (x:=x) (a:= .ref i) (a':= .lst l) hx (fun u ru=>by
  have e:u = v:=by
   have ru':=ru;have rv2:=rv.mono le;obtain ⟨a1,rfl,h1⟩:=ru';obtain ⟨a2,rfl,h2⟩:=rv2;rw [h1] at h2;cases h2;rfl
  rw [e];exact rv')
 exact wpAny_mono (h W' s A hA (bot_le _) R'' hT) (fun Z Y z=>z.le le) fun Z Y z=>z.le le
end
end
section
section
variable {G:Gd}{cx:Cx}{fm:Fm}{X:Value→St→Prop}{W₀ W:Wd}{st:St}{s:Shared}{Q:AV→St→Prop}
theorem mF{it:Addr}{x:Str}{t:Tok}:b7 G it ((signs x).map .str) (fun Z=>True) fun W k o=>o.cls = .type "str_ascii_iterator" ∧o.data = .fields #[.str x t,.int k 0] where
 item:=by
  intro W s A fm st k o y E Q R c fr ho ⟨h1,h2⟩ hx h;rw [gM] at hx;obtain ⟨z,hz,rfl⟩:=oM hx;unfold signs at hz;rw [gM] at hz;obtain ⟨c,hc,rfl⟩:=oM hz;refine wpAny_pyNext_ascii_item (x:=x) (t:=t) (i:=k) (c:=c) ⟨o,ho,h1,h2⟩ (by simpa using hc) fun h' hit hs=>?_
  obtain ⟨o',g1,g2,g3⟩:=hit;exact h _ _ W o' (.refl _) (R.extBut (t:=s.toks+1) hs.extBut fr.F fr.H fr.k) fr g1 ⟨g2,by simpa using g3⟩ (by simp)
 stop:=by
  intro W s A fm st o E Q hh R c fr ho ⟨h1,h2⟩ h;refine wpAny_pyNext_ascii_end (x:=x) (t:=t) (i:=((signs x).map AV.str).length) hh ⟨o,ho,h1,h2⟩ (by simp [signs]) fun h' hs=>?_
  exact h _ (R.extBut (t:=s.toks) hs fr.F fr.H fr.k)
 mono:=fun h x=>x
 self:=fun R ho x h=>wpAny_pyIter_striter_ascii ⟨_,ho,x.1,x.2⟩ h
 owned:=fun R fr ho x h=>bV ho x.1 (by decide) (h _ _ R ho x)
theorem pL{it:Addr}{x:Str}{t:Tok}:b7 G it ((signs x).map .str) (fun Z=>True) fun W k o=>o.cls = .type "str_iterator" ∧o.data = .fields #[.str x t,.int k 0] where
 item:=by
  intro W s A fm st k o y E Q R c fr ho ⟨h1,h2⟩ hx h;rw [gM] at hx;obtain ⟨z,hz,rfl⟩:=oM hx;unfold signs at hz;rw [gM] at hz;obtain ⟨c,hc,rfl⟩:=oM hz;refine wpAny_pyNext_wide_item (x:=x) (t:=t) (i:=k) (c:=c) ⟨o,ho,h1,h2⟩ (by simpa using hc) fun h' hit hs=>?_
  obtain ⟨o',g1,g2,g3⟩:=hit;exact h _ _ W o' (.refl _) (R.extBut (t:=s.toks+1) hs.extBut fr.F fr.H fr.k) fr g1 ⟨g2,by simpa using g3⟩ (by simp)
 stop:=by
  intro W s A fm st o E Q hh R c fr ho ⟨h1,h2⟩ h;refine wpAny_pyNext_wide_end (x:=x) (t:=t) (i:=((signs x).map AV.str).length) hh ⟨o,ho,h1,h2⟩ (by simp [signs]) fun h' hs=>?_
  exact h _ (R.extBut (t:=s.toks) hs fr.F fr.H fr.k)
 mono:=fun h x=>x
 self:=fun R ho x h=>wpAny_pyIter_striter_wide ⟨_,ho,x.1,x.2⟩ h
 owned:=fun R fr ho x h=>bV ho x.1 (by decide) (h _ _ R ho x)
theorem Iter.str{x:Str}:b5 G (.str x) ((signs x).map .str) fun Z=>True:=by
 intro W s A fm st E v Q c R ra h;obtain ⟨t,rfl⟩:=ra;cases ha:x.cps.all (· < 128)
 ·refine wpAny_pyIter_wide ha ?_;exact h _ {cls:= .type "str_iterator",data:= .fields #[.str x t,.int 0 0]} _ _ W (.refl _) (R.pushJ _ s.toks) (R.free (aw _)) (Heap.get?_push_size _ rfl) pL ⟨rfl,rfl⟩
 ·refine wpAny_pyIter_ascii ha ?_;exact h _ {cls:= .type "str_ascii_iterator",data:= .fields #[.str x t,.int 0 0]} _ _ W (.refl _) (R.pushJ _ s.toks) (R.free (aw _)) (Heap.get?_push_size _ rfl) mF ⟨rfl,rfl⟩
theorem Comp.map{scope:Scope}{elt target iter:PySem.Expr}{pos:Pos}{a:AV}{xs:List AV}{cond:St→Prop}{f:AV→AV}{Q:List AV→(Nat→Option AO)→Prop}(hit:b5 G a xs cond)(hcond:∀loc,cond ⟨loc,st.hp⟩)(hz:xs.length≤sizeLine)
  (turn:∀(cenv:Env) (k:Nat) x loc,cenv.scope = scope→xs[k]? = some x→cY G cx (aT fm st scope (bt scope fm cenv)) cO target x ⟨loc,st.hp⟩ fun st₂=>Ev G cx (aT fm st scope (bt scope fm cenv)) cO elt st₂ fun v st₃=>v = f x∧st₃.hp = st.hp)
  (h:Q (xs.map f) st.hp):c6 G cx fm (bx G) (.ListComp elt [⟨target,iter,[],0⟩] scope pos) scope target [] (kt elt target iter [] scope pos) [] a st Q:=by
 refine ⟨xs,cond,hit,fun k hp b=>hp = st.hp∧b =(xs.take k).map f,⟨rfl,rfl⟩,fun k loc hp b h=>h.1▸hcond loc,fun cenv it ad k x loc hp b hs hx hI=>?_,fun hp b hI=>?_⟩
 ·obtain ⟨rfl,rfl⟩:=hI;have t:=turn cenv k x loc hs hx;intro W₀ v rv;refine J.mono (t W₀ v rv) (fun Z st₂ h₂=>?_) fun Z Y z=>z;refine dq.nil ?_;rw [if_pos rfl];refine Aft.emitL rfl (J.mono h₂ (fun v st₃ h₃=>?_) fun Z Y z=>z);obtain ⟨rfl,h3⟩:=h₃;have hlt:k < xs.length:=(gS hx).1;refine ⟨?_,h3,?_⟩
  ·simp;change x9
  ·rw [List.take_add_one,hx];simp
 ·obtain ⟨rfl,rfl⟩:=hI;rw [List.take_length];exact h
theorem Comp.filter{scope:Scope}{elt target iter test:PySem.Expr}{pos:Pos}{a:AV}{xs:List AV}{cond:St→Prop}{p:AV→Bool}{f:AV→AV}{Q:List AV→(Nat→Option AO)→Prop}(hit:b5 G a xs cond)(hcond:∀loc,cond ⟨loc,st.hp⟩)(hz:xs.length≤sizeLine)
  (turn:∀(cenv:Env) (k:Nat) x loc,cenv.scope = scope→xs[k]? = some x→cY G cx (aT fm st scope (bt scope fm cenv)) cO target x ⟨loc,st.hp⟩ fun st₂=>bj G cx (aT fm st scope (bt scope fm cenv)) cO test st₂ fun b st₃=>
   b = p x∧st₃.hp = st.hp∧(b = true→Ev G cx (aT fm st scope (bt scope fm cenv)) cO elt st₃ fun v st₄=>v = f x∧st₄.hp = st.hp))
  (h:Q ((xs.filter p).map f) st.hp):c6 G cx fm (bx G) (.ListComp elt [⟨target,iter,[test],0⟩] scope pos) scope target [test] (kt elt target iter [test] scope pos) [] a st Q:=by
 refine ⟨xs,cond,hit,fun k hp b=>hp = st.hp∧b =((xs.take k).filter p).map f,⟨rfl,rfl⟩,fun k loc hp b h=>h.1▸hcond loc,fun cenv it ad k x loc hp b hs hx hI=>?_,fun hp b hI=>?_⟩
 ·obtain ⟨rfl,rfl⟩:=hI;have t:=turn cenv k x loc hs hx;have hlt:k < xs.length:=(gS hx).1;intro W₀ v rv;refine J.mono (t W₀ v rv) (fun Z st₂ h₂=>?_) fun Z Y z=>z;refine dq.one (J.mono h₂ (fun b st₃ h₃=>?_) fun Z Y z=>z);obtain ⟨rfl,h3,h4⟩:=h₃;cases hp:p x with
  | false=>
   rw [if_neg (by decide)]
   refine ⟨h3,?_⟩;rw [List.take_add_one,hx];simp [hp]
  | true=>
   rw [if_pos rfl];refine Aft.emitL rfl (J.mono (h4 hp) (fun v st₄ h₅=>?_) fun Z Y z=>z);obtain ⟨rfl,h5⟩:=h₅;refine ⟨?_,h5,?_⟩
   ·rw [lN];refine lT (List.length_filter_le _ _) ?_;simp;change x9
   ·rw [List.take_add_one,hx];simp [hp]
 ·obtain ⟨rfl,rfl⟩:=hI;rw [List.take_length];exact h
end
end
section
section
variable {G:Gd}{cx:Cx}{fm:Fm}{X:Value→St→Prop}{W₀ W:Wd}{st:St}{s:Shared}{Q:AV→St→Prop}
structure r7(G:Gd)(C f:Addr)(name:Str):Prop where
 cls:d8 G C
 has:hasDictIn G.K C = true
 find:findIn G.K (.ref C) name = some (some (.ref f))
 fn:isFn G.K (.ref f)= true
 get:specialIn G.K (.ref f) "__get__" = some (some (.builtin "function.__get__"))
 takes:takesIn G.K (.ref f)= some false
 copied:copiedNames.contains name = false
theorem mj{A:Around}{E:Value→Shared→Prop}{m f:Addr}{o:Obj}{self:Value}{s:Shared}(hm:s.heap.get? m = some (methodObj (.ref f) self))(hf:s.heap.get? f = some o):∃k,∀Q':Keeper→Shared→Prop,Q' k s→wpAny G.M A (keeperOf (.ref m)) Q' E s:=by
 refine ⟨match o.data with | .func _=> .boundFrame | _=> .caller,fun Q' h=>?_⟩
 unfold keeperOf;refine wpAny_bind (wpAny_load hm ?_);dsimp only;refine wE (by decide) ?_
 refine wpAny_bind (wpAny_load hf ?_);exact wpAny_pure h
inductive A3(G:Gd)(cx:Cx)(fm:Fm)(X:Value→St→Prop)(name:Str)(pos:Pos)(args:List PySem.Expr)(Q:AV→St→Prop)(a:AV)(st₁:St):Prop
 | mk (C f:Addr) (i:Nat) (ks:List Str) (l:List AV) (e:a = .obj C i) (b:r7 G C f name) (h:st₁.hp i = some (.inst ks l)) (n:name∉ks) (q:aU G cx fm X pos args st₁ fun as st₂=>aH G cx fm X f (.obj C i::as) st₂ Q)
theorem Ev.bcall{o:PySem.Expr}{name:Str}{apos pos:Pos}{args:List PySem.Expr}(O:G.Ok)
  (h:Ev G cx fm X o st (A3 G cx fm X name pos args Q))
  (hb:∀env w,attributeBase o name env w = w:=by intro _ _;rfl) (hf:∀env,methodCallForm (args.length+0) (backTo pos (starEach args env)) [] = false:=by intro _;rfl):
  Ev G cx fm X (.Call (.Attribute o name apos) args [] pos) st Q:=by
 refine J.of_eq (t':=do
  let ov ← attributeBase o name fm.env (eval o fm.env)
  PySem.standAt apos.atName
  methodCall o name apos pos fm.env ov (args.length+([]:List Keyword).length) (backTo pos (starEach args fm.env)) (backToKw pos (keywordEach [] fm.env))) rfl ?_
 rw [hb];refine J.bind (J.mono (J.from h) (fun a st₁ h₁ W₁ v Z ra=>J.standAt ?_) fun Z Y z=>z);obtain ⟨C,f,i,ks,l,rfl,B,hi,hx,h₁⟩:=h₁;intro W s A hA hW hR hT;unfold methodCall;refine wpAny_bind (wpAny_holding ?_);show wpAny _ _ (calleeOf (methodCallForm (args.length+0) (backTo pos (starEach args fm.env)) []) o fm.env v name) _ _ s;rw [hf];show wpAny _ _ (getAttr v name true >>= fun f=>Pure.pure (f,[])) _ _ s;have ra':=ra.mono hW;obtain ⟨x,d,ox,es,n,vs,rfl,I,hd,hal,ho,he,rs⟩:=hR.inst ra' hi;have hno:cU name ks vs = Option.none:=by
  have:∀(ks:List Str) (vs:List Value),name∉ks→cU name ks vs = Option.none:=fun ks=>by
   induction ks with
   | nil=>intro vs _;cases vs <;> rfl
   | cons k r ih=>
    intro vs hk;cases vs with
    | nil=>rfl
    | cons v vs=>rw [cB,if_neg (fun (q:k = name)=>hk (by rw [q];exact .head _))];exact ih vs fun q=>hk (.tail _ q)
  exact this ks vs hx
 have hK:=hR.inK O;refine wpAny_bind (get_bind hK I B.cls.get (findObj_fn B.has B.find B.get B.takes B.copied (by show lookIn name (dictOf es n)= _;rw [lookIn_dict,he.get,hno])) B.cls.ga
  (wpAny_call (fn_get (s:={s with toks:=s.toks+1}) hK (beq_iff_eq.mp B.fn) (handed_on rfl (wpAny_pure ?_)))))
 dsimp only;show wpAny _ _ (methodCallPos (methodCallForm (args.length+0) (backTo pos (starEach args fm.env)) []) o fm.env apos pos >>= _) _ _ _;rw [hf];refine wpAny_bind (wpAny_pure ?_);obtain ⟨leF,RF'⟩:=hR.freezeNew (t:=s.toks+1) (h':=s.heap.push (methodObj (.ref f) (.ref x))) (fun Z Y e=>Heap.get?_push_of_some _ e) (aw _) (Heap.get?_push_size _ rfl);have hFm:(W.freeze s.heap.objs.size (methodObj (.ref f) (.ref x))).F s.heap.objs.size = some (methodObj (.ref f) (.ref x)):=if_pos rfl;refine (cG (i9 (Nat.succ_pos _) (h₁ (.ref s.heap.objs.size) (W.freeze s.heap.objs.size (methodObj (.ref f) (.ref x))) _ A hA (bot_le _) RF' (Nat.succ_pos _)) (fun a s₁ hT₁ z=>?_) fun Z Y V z=>z.le leF):wpAny _ _ (callWith pos (.ref s.heap.objs.size) [] (backTo pos (starEach args fm.env)) []) _ _ _);obtain ⟨W₁,st₂,as,le,R₁,⟨hkw,rsa⟩,h₂⟩:=z;have hm:=R₁.frozen _ _ (le.F _ _ hFm);obtain ⟨of,hof,_⟩:=oM (beq_iff_eq.mp B.fn);obtain ⟨k,hk⟩:=mj (G:=G) (A:=A) (E:=QE G W fm X) hm ((R₁.inK O) _ _ hof);refine ⟨hkw,k,hk,?_⟩;have rx:=(ra'.mono leF).mono le;refine wpAny_call (method_call hm (codeAny_mono (h₂ W₁ s₁ A _ hA R₁ hT₁ (au.cons rx rsa)) fun r s' z=>?_));rcases r with e | (v | _ | _ | _) <;> first | exact z.le (leF.trans le) | exact z.elim
end
end
section
section
variable {G:Gd}{cx:Cx}{fm:Fm}{X:Value→St→Prop}{W₀ W:Wd}{st:St}{s:Shared}{Q:AV→St→Prop}
noncomputable def Bb(G:Gd)(cx:Cx)(fm:Fm)(X:Value→St→Prop)(ss:List Stmt)(st:St)(Q:AF→St→Prop):Prop:=∀W s A,cx.In fm A→Rep G W fm st s→wpAny G.M A (execs ss fm.env) (dZ G W fm (RF G) Q) (QE G W fm X) s
theorem lQ{x y:Str}{p1 p2 pt pv pl pc pos:Pos}{x1 x2:_}{i:Int}{k:Nat}{es:List PySem.Expr}{e2:PySem.Expr}{ss:List Stmt}{Q:AF→St→Prop}(hc:cx.calm = true)(hx:aX fm x)(hy:aX fm y)
  (h:ah G cx fm X pl es st fun as st₁=>(as.length+1≤sizeLine)∧Ev G cx fm X e2 st₁ fun b st₂=>Ex G cx fm X ss ((st₂.setLoc x (.lst (.int i::as))).setLoc y b) Q)
  (h2:swappedStores [.Tuple [.Name x p1,.Name y p2] x1 pt] (.Tuple [.List (.Constant (.int i) k pc::es) pl,e2] x2 pv) (dY fm.names)= Pure.pure Option.none:=by rfl)
  (hs1:∀env,starEach (.Constant (.int i) k pc::es) env =(false,eval (.Constant (.int i) k pc) env)::starEach es env:=by intro _;rfl)
  (hs2:∀env,starEach [.List (.Constant (.int i) k pc::es) pl,e2] env = [(false,eval (.List (.Constant (.int i) k pc::es) pl) env),(false,eval e2 env)]:=by intro _;rfl):
  Bb G cx fm X (.Assign [.Tuple [.Name x p1,.Name y p2] x1 pt] (.Tuple [.List (.Constant (.int i) k pc::es) pl,e2] x2 pv) pos::ss) st Q:=by
 intro W s A hA hR;have tree:∀t:Tok,J G cx fm X bot ((do
   PySem.standAt pos
   let v ←(do PySem.standAt pv;newTuple (← spliced ((false,(do PySem.standAt pl;newList (← spliced ((false,Pure.pure (.int i t))::backTo pl (starEach es fm.env)))))::backTo pv [(false,eval e2 fm.env)])))
   assignStores fm.env v Option.none ((assignEach [.Tuple [.Name x p1,.Name y p2] x1 pt] fm.env).map (·.2))) >>= fun f=>match f with
    | .next=>execs ss fm.env
    | f=>Pure.pure f) (RF G) st Q:=fun t=>by
  refine J.bind (R₁:=RF G) (J.standAt (J.bind (R₁:=RV G) (J.standAt (J.bind (R₁:=au G) (iU (J.standAt (J.bind (R₁:=au G) (iU (J.pure (b:=AV.int i) (fun Z Y=>by simp) ?_)))))))))
  refine J.mono h (fun as st₁ h₁ W₁ vs Z rs=>?_) fun Z Y z=>z;refine wI rs h₁.1 ?_;refine iU (J.mono h₁.2 (fun b st₂ h₃=>?_) fun Z Y z=>z);refine J.of_eq (t':=Pure.pure []) rfl (J.pure (b:= []) (fun Z Y=>au.nil) ?_);intro W₁ us _ rus;refine zg rus (by show 2≤sizeLine;rw [sizeLine_eq];decide) ?_
  intro W₂ v _ rv;refine J.of_eq (t':=PySem.assign (.Tuple [.Name x p1,.Name y p2] x1 pt) fm.env v >>= fun Z=>Pure.pure Flow.next) rfl ?_;have ha:cY G cx fm X (.Tuple [.Name x p1,.Name y p2] x1 pt) (.tup [.lst (.int i::as),b]) st₂ (fun st'=>st' =(st₂.setLoc x (.lst (.int i::as))).setLoc y b):=by
   refine Asg.tuple hc rfl rfl ?_;refine Asg.name hx ?_;exact Asg.name hy rfl
  refine J.bind (R₁:=RU) (J.mono (ha W₂ v rv) (fun Z st' e=>?_) fun Z Y z=>z);subst e;intro W₃ _ _ _;refine J.pure (b:=AF.next) (fun Z Y=>rfl) fun W₄ f Z rf=>?_;cases rf;exact J.from h₃
 have e1:exec (.Assign [.Tuple [.Name x p1,.Name y p2] x1 pt] (.Tuple [.List (.Constant (.int i) k pc::es) pl,e2] x2 pv) pos) fm.env =(do
   PySem.standAt pos
   let v ← eval (.Tuple [.List (.Constant (.int i) k pc::es) pl,e2] x2 pv) fm.env
   assignStores fm.env v (← swappedStores [.Tuple [.Name x p1,.Name y p2] x1 pt] (.Tuple [.List (.Constant (.int i) k pc::es) pl,e2] x2 pv) fm.env) ((assignEach [.Tuple [.Name x p1,.Name y p2] x1 pt] fm.env).map (·.2))):=rfl
 have e2:eval (.Tuple [.List (.Constant (.int i) k pc::es) pl,e2] x2 pv) fm.env =(do PySem.standAt pv;newTuple (← spliced (backTo pv (starEach [.List (.Constant (.int i) k pc::es) pl,e2] fm.env)))):=rfl
 have e3:eval (.List (.Constant (.int i) k pc::es) pl) fm.env =(do PySem.standAt pl;newList (← spliced (backTo pl (starEach (.Constant (.int i) k pc::es) fm.env)))):=rfl
 rw [execs_cons,e1,(aW (env':=dY fm.names) hR.ok.fn hR.ok.names).trans h2,e2,hs2,e3,hs1];have main:=tree s.toks W {s with toks:=s.toks+1} A hA (bot_le _) (hR.toks _) (Nat.succ_pos _);exact fun Γ p hΓ=>main Γ p hΓ
end
end
section
set_option tactic.hygienic true
noncomputable def qv:Program:={PySem.Challenge.pw_mr0286_01 with main:={PySem.Challenge.pw_mr0286_01.main with body:=PySem.Challenge.pw_mr0286_01.main.body.take 2++((PySem.Challenge.pw_mr0286_01.main.body.drop 3).take 5++((PySem.Challenge.pw_mr0286_01.main.body.drop 9).take 7++PySem.Challenge.pw_mr0286_01.main.body.drop 17))}}
noncomputable def lz:List Str:= ["_NodeInfo","_twin_re_1","_twin_re_2","_twin_re_3"]
theorem Be:PySem.Challenge.rw_mr0286_01.row.wellSaid = true:=by kernel_rfl
theorem ws:PySem.Challenge.rw_mr0286_01.wellSaid = true:=by
 refine look_both (look_both (look_both (look_both (look_both (look_both (look_both (look_both (look_both (look_both (look_both (look_both (look_both (look_both (look_both (look_both (look_both (look_both Be ?_) ?_) ?_) ?_) ?_) ?_) ?_) ?_) ?_) ?_) ?_) ?_) ?_) ?_) ?_) ?_) ?_) ?_
 all_goals kernel_rfl
local macro_rules | `(tactic| o_law) => `(tactic| refine holds_law Mine.ws fun said => ?_)
noncomputable def BS(H:Hook):=fun hl hw hc=>holds_open (q:=qv) (loose:=lz) (r:=OpenLaw.row PySem.Challenge.rw_mr0286_01) (Xt:=fun s=>xlAt qv [] s && recOk (RowW.records (OpenRow.toRowW (OpenLaw.row PySem.Challenge.rw_mr0286_01))) s) (XP:=XL qv []) (Yf:=Hook.obs H) (Ya:=Hook.val H) (YP:=Hook.says H) (N:=3364) hl (Hook.of H) (Hook.keeps H) (fun s e=>xl_of s (Bool.and_eq_true_iff.mp e).1) XL.keeps (by rfl) (by rfl) (by rfl) (fun s e=>recFacts_of (Bool.and_eq_true_iff.mp e).2) (by rfl) Be (by decide+kernel) ⟨rfl,rfl,rfl,rfl,rfl,by decide+kernel⟩ hw hc
local macro_rules | `(tactic| o_head $H) => `(tactic| (refine Mine.BS $H ?hl ?hw ?hc; (case hl => exact fun w => by kernel_rfl)))
open_top hd for PySem.Challenge.rw_mr0286_01
end
section
@[reducible] noncomputable def gd (w : World) (h₀ : Heap) (os : OsState) (mg mb : Str → Option Value) : Gd := ⟨PySem.Challenge.rw_mr0286_01.row.prog, w, Mine.hd.heap_1 w.params, h₀, os, mg, mb⟩
noncomputable def fnAt(K:Frag)(f:Addr):Option FuncData:=match K.lookup f with | some ⟨_,_,.func fd,_⟩=>some fd | _=>Option.none
set_option tactic.hygienic true in
theorem tG{K:Frag}{f:Addr}{fd:FuncData}(h:fnAt K f = some fd):∃o,K.lookup f = some o∧o.data = .func fd:=by
 unfold fnAt at h
 split at h
 ·cases h;rename_i ho;exact ⟨_,ho,rfl⟩
 ·cases h
theorem cA.of{G:Gd}{f:Addr}{fd:FuncData}{body:List Stmt}(O:G.Ok)(h:fnAt G.K f = some fd)(hb:fd.body = .stmts body)(hcode:codeIn G.K fd.code fd.qualname = true)
  (co:fd.scope.isCoroutine = false:=by rfl) (gen:fd.scope.isGenerator = false:=by rfl) (gl:fd.globals = mainGlobals:=by rfl) (bl:fd.builtins = builtinsNs:=by rfl) (cl:fd.closure = []:=by rfl) (kind:fd.scope.kind = .function:=by rfl):cA G f fd body:=by
 obtain ⟨o,h1,h2⟩:=tG h;exact ⟨⟨o,O.K _ _ h1,h2⟩,co,gen,hb,gl,bl,cl,kind,codeRec_of O.K hcode⟩
theorem Fun.go{G:Gd}{cx:Cx}{fm:Fm}{X:Value→St→Prop}{st:St}{f:Addr}{fd:FuncData}{body:List Stmt}{as:List AV}{ps:List (Str×AV)}{n:Nat}{Q:AV→St→Prop}(O:G.Ok)(K:cA G f fd body)(hn:n+1≤cx.n)
  (hb:fS G fd as ps)
  (h:∀env,sK env fd.scope→Ex G ⟨n,cx.calm⟩ (o7 fd env fm) (uZ X st) body ⟨bZ ps,st.hp⟩ (mY Q st))
  (hnd:(fd.scope.names.map (·.1)).Nodup:=by decide) (hps:((ps.map (·.1)).all fun x=>decide (fd.scope.names.lookup x = some .local) || decide (fd.scope.names.lookup x = some .cell))= true:=by rfl):
  aH G cx fm X f as st Q:=Fun.mk O K hn hb hnd (fun x hx=>by
   have:=List.all_eq_true.mp hps x hx;simpa [Bool.or_eq_true] using this) h
section
variable {w:World}{h₀:Heap}{os:OsState}{mg mb:Str→Option Value}{cx:Cx}{fm:Fm}{X:Value→St→Prop}{st:St}{Q:AV→St→Prop}
theorem aN:d8 (gd w h₀ os mg mb) 57:=⟨by kernel_rfl,by kernel_rfl,by kernel_rfl,by kernel_rfl,by kernel_rfl,by kernel_rfl⟩
theorem ap:d8 (gd w h₀ os mg mb) 154:=⟨by kernel_rfl,by kernel_rfl,by kernel_rfl,by kernel_rfl,by kernel_rfl,by kernel_rfl⟩
theorem jC:iM (gd w h₀ os mg mb) 57 "node" 58 0:=⟨by kernel_rfl,by kernel_rfl,by kernel_rfl,by kernel_rfl,by kernel_rfl,by decide⟩
theorem cf:iM (gd w h₀ os mg mb) 57 "npredecessors" 59 1:=⟨by kernel_rfl,by kernel_rfl,by kernel_rfl,by kernel_rfl,by kernel_rfl,by decide⟩
theorem eC:iM (gd w h₀ os mg mb) 57 "successors" 60 2:=⟨by kernel_rfl,by kernel_rfl,by kernel_rfl,by kernel_rfl,by kernel_rfl,by decide⟩
end
end
section
noncomputable abbrev cu:Addr:=57
noncomputable abbrev am:Addr:=154
noncomputable abbrev iY:Addr:=72
noncomputable abbrev jz:Addr:=53
noncomputable abbrev un:Addr:=90
noncomputable abbrev n9:Addr:=97
noncomputable abbrev tY:Addr:=104
noncomputable abbrev iO:Addr:=109
noncomputable abbrev nI:Addr:=116
noncomputable abbrev fO:Addr:=123
noncomputable abbrev o4:Addr:=137
noncomputable abbrev iA:Addr:=144
end
section
theorem Ev.glob{G:Gd}{cx:Cx}{fm:Fm}{X:Value→St→Prop}{st:St}{x:Str}{pos:Pos}{v:Value}{a:AV}{Q:AV→St→Prop}(O:G.Ok)(h:Q a st)(hr:∀W,RV G W a v)(e:nsIn G.K mainGlobals x = some (some v))
  (hl:fm.kind x = some .globalImplicit:=by rfl) (hd:(x ==("__debug__" :Str))= false:=by decide):Ev G cx fm X (.Name x pos) st Q:=by
 refine Ev.name ?_ hd;intro W s A hA hW hR hT;unfold loadName;simp only [Env.blockKind,hR.ok.fn,hR.ok.kind hl,ScopeKind.isAnnotationScope,Bool.false_and,Bool.false_eq_true,if_false];exact Calls.loadGlobal_global (hR.ok.gl▸O.gl.keeps hR.keep) (mg_of O.K O.gl e) ⟨W,st,a,.refl _,hR,hr W,h⟩
theorem Ev.globR{G:Gd}{cx:Cx}{fm:Fm}{X:Value→St→Prop}{st:St}{x:Str}{pos:Pos}{v:Value}{Q:AV→St→Prop}(O:G.Ok)(h:Q (.raw v) st)(e:nsIn G.K mainGlobals x = some (some v))
  (hl:fm.kind x = some .globalImplicit:=by rfl) (hd:(x ==("__debug__" :Str))= false:=by decide):Ev G cx fm X (.Name x pos) st Q:=Ev.glob O h (fun W=>by simp) e hl hd
theorem Ev.boot{G:Gd}{cx:Cx}{fm:Fm}{X:Value→St→Prop}{st:St}{x:Str}{pos:Pos}{v:Value}{Q:AV→St→Prop}(O:G.Ok)(h:Q (.raw v) st)(hv:bootBuiltins x = some v)(e:nsIn G.K mainGlobals x = some Option.none)(hx:x≠ "__name__" :=by decide)
  (hl:fm.kind x = some .globalImplicit:=by rfl) (hd:(x ==("__debug__" :Str))= false:=by decide):Ev G cx fm X (.Name x pos) st Q:=
 Ev.name (kF O hl (mg_none_of O.K O.gl e) ((O.boot x hx).trans hv) h) hd
theorem Ev.loc{G:Gd}{cx:Cx}{fm:Fm}{X:Value→St→Prop}{st:St}{x:Str}{pos:Pos}{a:AV}{Q:AV→St→Prop}(hv:st.loc x = some a)(h:Q a st)(hl:fm.kind x = some .local:=by rfl)(hd:(x ==("__debug__" :Str))= false:=by decide):Ev G cx fm X (.Name x pos) st Q:=
 Ev.name (eW hl hv h) hd
structure Nd where
 x:Str
 id:Nat
 ls:Nat
 np:Int
 sc:List Str
structure SG where
 i:Nat
 d:Nat
 ep:Nat
 ns:List Nd
 rd:Option (Nat×List Str)
 npo:Int
 nf:Int
noncomputable def SG.rdv(g:SG):AV:=match g.rd with | some (r,_)=> .ref r | Option.none=> .none
noncomputable def Nd.objs(n:Nd):List (Nat×AO):= [(n.id,.slots cu [.str n.x,.int n.np,.ref n.ls]),(n.ls,.list (n.sc.map .str))]
noncomputable def SG.rdo(g:SG):List (Nat×AO):=match g.rd with | some (r,l)=> [(r,.list (l.map .str))] | Option.none=> []
noncomputable def SG.objs(g:SG):List (Nat×AO):=
 (g.i,.inst ["_node2info","_ready_nodes","_npassedout","_nfinished"] [.ref g.d,g.rdv,.int g.npo,.int g.nf])::(g.d,.dict (g.ns.map (·.x)) (g.ns.map fun n=> .ref n.id) g.ep)::(g.rdo++g.ns.flatMap Nd.objs)
structure bX(hp:Nat→Option AO)(g:SG):Prop where
 at_:∀p∈g.objs,hp p.1 = some p.2
 nd:(g.objs.map (·.1)).Nodup
 names:(g.ns.map (·.x)).Nodup
noncomputable def vn(F:List Nat)(hp hp':Nat→Option AO):Prop:=∀k ao,k∉F→hp k = some ao→hp' k = some ao
theorem vn.refl(F:List Nat)(hp:Nat→Option AO):vn F hp hp:=fun Z Y V e=>e
theorem bX.inst{hp:Nat→Option AO}{g:SG}(h:bX hp g):hp g.i = some (.inst ["_node2info","_ready_nodes","_npassedout","_nfinished"] [.ref g.d,g.rdv,.int g.npo,.int g.nf]):=h.at_ _ (.head _)
theorem bX.dict{hp:Nat→Option AO}{g:SG}(h:bX hp g):hp g.d = some (.dict (g.ns.map (·.x)) (g.ns.map fun n=> .ref n.id) g.ep):=h.at_ _ (.tail _ (.head _))
theorem bX.node{hp:Nat→Option AO}{g:SG}(h:bX hp g){n:Nd}(hn:n∈g.ns):hp n.id = some (.slots cu [.str n.x,.int n.np,.ref n.ls])∧hp n.ls = some (.list (n.sc.map .str)):=
 ⟨h.at_ _ (.tail _ (.tail _ (aR _ (List.mem_flatMap.mpr ⟨n,hn,.head _⟩)))),h.at_ _ (.tail _ (.tail _ (aR _ (List.mem_flatMap.mpr ⟨n,hn,.tail _ (.head _)⟩))))⟩
theorem bX.ready{hp:Nat→Option AO}{g:SG}(h:bX hp g){r:Nat}{l:List Str}(e:g.rd = some (r,l)):hp r = some (.list (l.map .str)):=
 h.at_ (r,_) (.tail _ (.tail _ (aL _ (by unfold SG.rdo;rw [e];exact .head _))))
theorem fp{ns:List Nd}(hn:(ns.map (·.x)).Nodup){n:Nd}(h:n∈ns):cU n.x (ns.map (·.x)) (ns.map fun n=>AV.ref n.id)= some (.ref n.id):=by
 induction ns with
 | nil=>cases h
 | cons m r ih=>
  have hn':=List.nodup_cons.mp hn;simp only [List.map_cons,cB];rcases mC h with rfl | h
  ·rw [if_pos rfl]
  ·rw [if_neg,ih hn'.2 h];intro e;exact hn'.1 (List.mem_map.mpr ⟨n,h,e.symm⟩)
theorem aget_none{k:Str}:∀{ks:List Str} {l:List AV},k∉ks→cU k ks l = Option.none:=by
 intro zl
 induction zl with
 | nil=>
  intro _ _;exact rfl
 | cons x ks ih=>
  intro zm;cases zm with
  | nil=>
   intro _;exact rfl
  | cons y l=>
   intro h;rw [cB,if_neg (fun (e:x = k)=>h (e▸ .head _))];exact ih fun q=>h (.tail _ q)
noncomputable def SG.foot(g:SG):List Nat:=g.objs.map (·.1)
theorem bX.kp{hp hp':Nat→Option AO}{g:SG}(S:bX hp g)(h:∀k ao,hp k = some ao→hp' k = some ao):bX hp' g:=⟨fun p hp=>h _ _ (S.at_ p hp),S.nd,S.names⟩
theorem bX.notin{hp:Nat→Option AO}{g:SG}(S:bX hp g){k:Nat}(h:hp k = Option.none):k∉g.foot:=fun q=>by
 obtain ⟨p,hp,rfl⟩:=mM q;rw [S.at_ p hp] at h;cases h
theorem bX.addNode{hp hp':Nat→Option AO}{g:SG}{x:Str}{id ls ep:Nat}(S:bX hp g)(hx:x∉g.ns.map (·.x))(hid:hp id = Option.none)(hls:hp ls = Option.none)(hne:id≠ls)
  (h1:hp' g.d = some (.dict (g.ns.map (·.x)++ [x]) ((g.ns.map fun n=>AV.ref n.id)++ [.ref id]) ep)) (h2:hp' id = some (.slots cu [.str x,.int 0,.ref ls])) (h3:hp' ls = some (.list []))
  (h4:∀k,k≠g.d→k≠id→k≠ls→hp' k = hp k):bX hp' {g with ns:=g.ns++ [⟨x,id,ls,0,[]⟩],ep:=ep}:=by
 have nid:=S.notin hid;have nls:=S.notin hls;have nd:=S.nd;have hob:({g with ns:=g.ns++ [⟨x,id,ls,0,[]⟩],ep:=ep}:SG).objs =(g.i,AO.inst ["_node2info","_ready_nodes","_npassedout","_nfinished"] [.ref g.d,g.rdv,.int g.npo,.int g.nf])::(g.d,AO.dict (g.ns.map (·.x)++ [x]) ((g.ns.map fun n=>AV.ref n.id)++ [.ref id]) ep)::((g.rdo++g.ns.flatMap Nd.objs)++ [(id,.slots cu [.str x,.int 0,.ref ls]),(ls,.list [])]):=by
  unfold SG.objs;simp [SG.rdv,SG.rdo,Nd.objs]
 have hdi:g.d≠g.i:=by
  intro e;have:=(List.nodup_cons.mp nd).1;exact this (by rw [← e];exact .head _)
 refine ⟨fun p hp=>?_,?_,?_⟩
 ·rw [hob] at hp;rcases mC hp with rfl | hp
  ·rw [h4 g.i (Ne.symm hdi) (fun e=>nid (e▸ .head _)) (fun e=>nls (e▸ .head _))];exact S.inst
  ·rcases mC hp with rfl | hp
   ·exact h1
   ·rcases mA hp with hp | hp
    ·have hm:p∈g.objs:= .tail _ (.tail _ hp);have hf:p.1∈g.foot:=List.mem_map_of_mem hm;rw [h4 p.1 ?_ (fun e=>nid (e▸hf)) (fun e=>nls (e▸hf))]
     ·exact S.at_ p hm
     ·intro e;have:=(List.nodup_cons.mp (List.nodup_cons.mp nd).2).1;exact this (List.mem_map.mpr ⟨p,hp,e⟩)
    ·simp only [List.mem_cons,List.not_mem_nil,or_false] at hp;rcases hp with rfl | rfl
     ·exact h2
     ·exact h3
 ·rw [hob];have e:∀(a:Nat×AO) (b b':Nat×AO) (c:List (Nat×AO)),b.1 = b'.1→((a::b::c).map (·.1))=((a::b'::c).map (·.1)):=fun a b b' c h=>by simp [h]
  have key:((g.objs++ [(id,AO.slots cu [.str x,.int 0,.ref ls]),(ls,AO.list [])]).map (·.1)).Nodup:=by
   rw [List.map_append,List.nodup_append];refine ⟨nd,by simp [hne],fun a ha b hb=>?_⟩
   simp only [List.map_cons,List.map_nil,List.mem_cons,List.not_mem_nil,or_false] at hb;rcases hb with rfl | rfl
   ·exact fun q=>nid (q▸ha)
   ·exact fun q=>nls (q▸ha)
  exact key
 ·show ((g.ns++ [(⟨x,id,ls,0,[]⟩:Nd)]).map (·.x)).Nodup;rw [List.map_append,List.nodup_append];exact ⟨S.names,by simp,fun a ha b hb=>by simp at hb;subst hb;exact fun q=>hx (q▸ha)⟩
variable {w:World}{h₀:Heap}{os:OsState}{mg mb:Str→Option Value}{cx:Cx}{fm:Fm}{X:Value→St→Prop}{st:St}{Q:AV→St→Prop}
theorem o9{i n:Nat}{x:Str}(O:(gd w h₀ os mg mb).Ok)(hn:n+1≤cx.n)(hi:st.hp i = some (.slots cu []))
  (h:∀j,st.hp j = Option.none→Q .none ((st.put j (.list [])).put i (.slots cu [.str x,.int 0,.ref j]))):aH (gd w h₀ os mg mb) cx fm X jz [.ref i,.str x] st Q:=by
 refine Fun.go (n:=n) O (cA.of O rfl rfl rfl) hn (Bind.p2 (fun Z Y=>rfl)) fun env he=>?_;refine Ex.cons (an.asg (Ev.loc rfl ?_) rfl rfl rfl);refine Asg.attr (Ev.loc rfl (Set.slot O aN jC hi (Nat.zero_le _) ?_));refine Ex.cons (an.asg (Ev.cint ?_) rfl rfl rfl);refine Asg.attr (Ev.loc rfl (Set.slot O aN cf (if_pos rfl) (Nat.le_refl _) ?_));refine Ex.cons (an.asg (Ev.listM (ah.nil ⟨by simp,fun j hj=>?_⟩)) rfl rfl rfl)
 have hji:j≠i:=fun e=>by subst e;exact absurd ((if_pos rfl).symm.trans hj) nofun
 refine Asg.attr (Ev.loc rfl (Set.slot O aN eC ((if_neg (Ne.symm hji)).trans (if_pos rfl)) (Nat.le_refl _) ?_));refine Ex.nil ?_;have hj':st.hp j = Option.none:=by
  have:(if j = i then _ else (if j = i then _ else st.hp j))= Option.none:=hj
  rwa [if_neg hji,if_neg hji] at this
 have:=h j hj';refine cast (congrArg (Q .none) ?_) this;show (⟨st.loc,_⟩:St)=⟨st.loc,_⟩
 congr 1
 funext k
 simp only [St.put]
 by_cases h1:k = i
 ·simp [h1,g9]
 ·simp [h1]
theorem bJ:hasDictIn (gd w h₀ os mg mb).K am = true:=by kernel_rfl
theorem sY:findIn (gd w h₀ os mg mb).K (.ref am) "_node2info" = some Option.none:=by kernel_rfl
theorem to:findIn (gd w h₀ os mg mb).K (.ref am) "_ready_nodes" = some Option.none:=by kernel_rfl
theorem ta:findIn (gd w h₀ os mg mb).K (.ref am) "_npassedout" = some Option.none:=by kernel_rfl
theorem tc:findIn (gd w h₀ os mg mb).K (.ref am) "_nfinished" = some Option.none:=by kernel_rfl
theorem tj:takerIn (gd w h₀ os mg mb).K am "_node2info" = some Option.none:=by kernel_rfl
theorem og:takerIn (gd w h₀ os mg mb).K am "_ready_nodes" = some Option.none:=by kernel_rfl
theorem n0:takerIn (gd w h₀ os mg mb).K am "_npassedout" = some Option.none:=by kernel_rfl
theorem nX:takerIn (gd w h₀ os mg mb).K am "_nfinished" = some Option.none:=by kernel_rfl
theorem eu{g:SG}(O:(gd w h₀ os mg mb).Ok)(S:bX st.hp g)(h:Q (.ref g.d) st):kG (gd w h₀ os mg mb) cx fm X (.obj am g.i) "_node2info" st Q:=
 Get.obj O ap bJ sY S.inst rfl rfl h
theorem cH{g:SG}(O:(gd w h₀ os mg mb).Ok)(S:bX st.hp g)(h:Q g.rdv st):kG (gd w h₀ os mg mb) cx fm X (.obj am g.i) "_ready_nodes" st Q:=
 Get.obj O ap bJ to S.inst rfl (by unfold SG.rdv;split <;> rfl) h
theorem nY{g:SG}(O:(gd w h₀ os mg mb).Ok)(S:bX st.hp g)(h:Q (.int g.npo) st):kG (gd w h₀ os mg mb) cx fm X (.obj am g.i) "_npassedout" st Q:=
 Get.obj O ap bJ ta S.inst rfl rfl h
theorem oq{g:SG}(O:(gd w h₀ os mg mb).Ok)(S:bX st.hp g)(h:Q (.int g.nf) st):kG (gd w h₀ os mg mb) cx fm X (.obj am g.i) "_nfinished" st Q:=
 Get.obj O ap bJ tc S.inst rfl rfl h
theorem r8{g:SG}{x:Str}{n:Nat}(O:(gd w h₀ os mg mb).Ok)(hn:n+3≤cx.n)(S:bX st.hp g)(hz:g.ns.length≤1000)
  (h1:∀m∈g.ns,m.x = x→Q (.ref m.id) st)
  (h2:x∉g.ns.map (·.x)→∀id ls ep hp',vn g.foot st.hp hp'→bX hp' {g with ns:=g.ns++ [⟨x,id,ls,0,[]⟩],ep:=ep}→st.hp id = Option.none→st.hp ls = Option.none→Q (.ref id) ⟨st.loc,hp'⟩):
  aH (gd w h₀ os mg mb) cx fm X n9 [.obj am g.i,.str x] st Q:=by
 refine Fun.go (n:=n+2) O (cA.of O rfl rfl rfl) hn (Bind.p2 (fun Z Y=>rfl)) fun env he=>?_;refine Ex.cons (an.if_ (bj.cmp (Ev.named (.inl rfl) (Ev.mcall (Ev.attr (Ev.loc rfl (eu O S ?_)))))));refine ⟨_,_,aa.builtin _,Mth.dict PySem.F.slot_dict_get PySem.F.type_dict_get (bv S.dict),aU.cons (ah.cons (Ev.loc rfl (ah.nil ?_)))⟩;refine Cal.dictGet O (bv S.dict) (Ev.cnone ?_)
 by_cases hx:x∈g.ns.map (·.x)
 ·obtain ⟨m,hm,rfl⟩:=mM hx;rw [fp S.names hm];refine Cmp.isNone (b:=false) rfl (Tru.bool ?_);refine Ex.nil (Ex.cons (an.ret (Ev.loc rfl ?_)));exact h1 m hm rfl
 ·rw [aget_none hx];refine Cmp.isNone (b:=true) rfl (Tru.bool ?_);refine Ex.cons (an.asg2 ?_ rfl rfl);refine Ev.call (Ev.globR O ⟨.ref cu,rfl,aa.cls O aN,aU.cons (ah.cons (Ev.loc rfl (ah.nil ?_)))⟩ (by kernel_rfl))
  refine Cal.makeSlots (fI:=jz) (n:=n+1) O aN (by kernel_rfl) (by kernel_rfl) (Nat.le_refl _) fun id hid=>?_
  refine o9 (n:=n) O (Nat.le_refl _) (if_pos rfl) fun ls hls=>⟨rfl,?_⟩;have hid':st.hp id = Option.none:=hid;have hne:ls≠id:=fun e=>by subst e;exact absurd ((if_pos rfl).symm.trans hls) nofun
  have hls':st.hp ls = Option.none:=(if_neg hne).symm.trans hls;have S':=S.kp (hp':=fun k=>if k = id then some (AO.slots cu [.str x,.int 0,.ref ls]) else if k = ls then some (.list []) else st.hp k) fun k ao e=>by
   have h1:k≠id:=fun q=>by rw [q,hid'] at e;cases e
   have h2:k≠ls:=fun q=>by rw [q,hls'] at e;cases e
   simp only [h1,h2,if_false];exact e
  have hcur:∀(l:Str→Option AV),((((⟨l,st.hp⟩:St).put id (.slots cu [])).put ls (.list [])).put id (.slots cu [.str x,.int 0,.ref ls]))=⟨l,fun k=>if k = id then some (AO.slots cu [.str x,.int 0,.ref ls]) else if k = ls then some (.list []) else st.hp k⟩:=fun l=>by
   unfold St.put;congr 1;funext k
   by_cases h1:k = id
   ·simp [h1]
   ·simp [h1]
  show cY _ _ _ _ _ _ ((((⟨_,st.hp⟩:St).put id (.slots cu [])).put ls (.list [])).put id (.slots cu [.str x,.int 0,.ref ls])) _;rw [hcur];refine Asg.subDict (Ev.attr (Ev.loc rfl (eu O S' ⟨g.d,rfl,Ev.loc rfl ⟨x,_,_,g.ep,rfl,S'.dict,?_,fun ep'=>?_⟩⟩)))
  ·rw [lN];exact lT hz (by rw [sizeLine_eq];decide)
  refine Asg.name (.inl rfl) (Ex.nil (Ex.cons (an.ret (Ev.loc rfl ?_))));have hd:dput (g.ns.map (·.x)) (g.ns.map fun n=>AV.ref n.id) x (AV.ref id)=(g.ns.map (·.x)++ [x],(g.ns.map fun n=>AV.ref n.id)++ [.ref id]):=by unfold dput;rw [if_neg hx]
  rw [hd];have hdf:g.d∈g.foot:= .tail _ (.head _);refine h2 hx id ls ep' _ (fun k ao hk e=>?_) (S.addNode hx hid' hls' (Ne.symm hne) (if_pos rfl) ?_ ?_ fun k h1 h2 h3=>?_) hid' hls'
  ·have h1:k≠g.d:=fun q=>hk (q▸hdf);have h2:k≠id:=fun q=>by rw [q,hid'] at e;cases e
   have h3:k≠ls:=fun q=>by rw [q,hls'] at e;cases e
   exact (if_neg h1).trans ((if_neg h2).trans ((if_neg h3).trans e))
  ·have h1:id≠g.d:=fun q=>S.notin hid' (q▸hdf);show (if id = g.d then _ else if id = id then _ else _)= _;rw [if_neg h1,if_pos rfl]
  ·have h1:ls≠g.d:=fun q=>S.notin hls' (q▸hdf);show (if ls = g.d then _ else if ls = id then _ else if ls = ls then _ else _)= _;rw [if_neg h1,if_neg hne,if_pos rfl]
  ·show (if k = g.d then _ else if k = id then _ else if k = ls then _ else st.hp k)= _;rw [if_neg h1,if_neg h2,if_neg h3]
end
section
theorem ci{α β:Type}{f:α→β}:∀{l:List α},(l.map f).Nodup→∀{a b:α},a∈l→b∈l→f a = f b→a = b:=by
 intro zl
 induction zl with
 | nil=>
  intro _ _ _ h _ _;cases h
 | cons x l ih=>
  intro hn a b ha hb e;have hn':=List.nodup_cons.mp hn;rcases mC ha with e1 | ha' <;> rcases mC hb with e2 | hb'
  ·rw [e1,e2]
  ·exact absurd (List.mem_map.mpr ⟨b,hb',by rw [← e,e1]⟩) hn'.1
  ·exact absurd (List.mem_map.mpr ⟨a,ha',by rw [e,e2]⟩) hn'.1
  ·exact ih hn'.2 ha' hb' e
theorem iC{α β:Type}{f:α→List β}:∀{l:List α},(l.flatMap f).Nodup→∀{a b:α} {x:β},a∈l→b∈l→x∈f a→x∈f b→a = b:=by
 intro zl
 induction zl with
 | nil=>
  intro _ _ _ _ h _ _ _;cases h
 | cons y l ih=>
  intro hn a b x ha hb xa xb;rw [List.flatMap_cons,List.nodup_append] at hn;rcases mC ha with e1 | ha' <;> rcases mC hb with e2 | hb'
  ·rw [e1,e2]
  ·exact absurd rfl (hn.2.2 x (e1▸xa) x (List.mem_flatMap.mpr ⟨b,hb',xb⟩))
  ·exact absurd rfl (hn.2.2 x (e2▸xb) x (List.mem_flatMap.mpr ⟨a,ha',xa⟩))
  ·exact ih hn.2.1 ha' hb' xa xb
structure Ch(hp hp':Nat→Option AO)(g g':SG):Prop where
 srt:bX hp' g'
 oth:vn g.foot hp hp'
 new:∀k∈g'.foot,k∈g.foot∨hp k = Option.none
 i:g'.i = g.i
theorem Ch.refl{hp:Nat→Option AO}{g:SG}(S:bX hp g):Ch hp hp g g:=⟨S,vn.refl _ _,fun Z h=> .inl h,rfl⟩
theorem Ch.trans{a b c:Nat→Option AO}{g g' g'':SG}(x:Ch a b g g')(y:Ch b c g' g''):Ch a c g g'':=by
 refine ⟨y.srt,fun k ao hk e=>?_,fun k hk=>?_,y.i.trans x.i⟩
 ·refine y.oth k ao (fun q=>?_) (x.oth k ao hk e);rcases x.new k q with q | q
  ·exact hk q
  ·rw [q] at e;cases e
 ·rcases y.new k hk with q | q
  ·exact x.new k q
  ·by_cases hf:k∈g.foot
   ·exact .inl hf
   ·refine .inr ?_;cases e:a k with
    | none=>rfl
    | some ao=>rw [x.oth k ao hf e] at q;cases q
noncomputable abbrev PV:=List (Str×Int×List Str)
noncomputable def Nd.pv(n:Nd):Str×Int×List Str:=(n.x,n.np,n.sc)
noncomputable def SG.pv(g:SG):PV:=g.ns.map Nd.pv
noncomputable def a5(x:Str)(v:PV):PV:=if x∈v.map (·.1) then v else v++ [(x,0,[])]
noncomputable def aP(x:Str)(k:Int)(v:PV):PV:=v.map fun p=>if p.1 = x then (p.1,p.2.1+k,p.2.2) else p
noncomputable def cr(x y:Str)(v:PV):PV:=v.map fun p=>if p.1 = x then (p.1,p.2.1,p.2.2++ [y]) else p
theorem pv_names(g:SG):g.pv.map (·.1)= g.ns.map (·.x):=by unfold SG.pv;rw [List.map_map];rfl
noncomputable def SG.mapN(g:SG)(x:Str)(f:Nd→Nd):SG:={g with ns:=g.ns.map fun n=>if n.x = x then f n else n}
theorem pJ{g:SG}{x:Str}{f:Nd→Nd}(hf:∀n,(f n).x = n.x∧(f n).id = n.id∧(f n).ls = n.ls):(g.mapN x f).objs.map (·.1)= g.objs.map (·.1)∧(g.mapN x f).ns.map (·.x)= g.ns.map (·.x)∧((g.mapN x f).ns.map fun n=>AV.ref n.id)=(g.ns.map fun n=>AV.ref n.id):=by
 have hx:(g.mapN x f).ns.map (·.x)= g.ns.map (·.x):=by
  unfold SG.mapN;simp only [List.map_map];refine List.map_congr_left fun n Z=>?_;show (if n.x = x then f n else n).x = n.x
  split
  ·exact (hf n).1
  ·rfl
 have hid:((g.mapN x f).ns.map fun n=>AV.ref n.id)=(g.ns.map fun n=>AV.ref n.id):=by
  unfold SG.mapN;simp only [List.map_map];refine List.map_congr_left fun n Z=>?_;show AV.ref (if n.x = x then f n else n).id = AV.ref n.id
  split
  ·rw [(hf n).2.1]
  ·rfl
 have hk:((g.mapN x f).ns.flatMap Nd.objs).map (·.1)=(g.ns.flatMap Nd.objs).map (·.1):=by
  show ((g.ns.map fun n=>if n.x = x then f n else n).flatMap Nd.objs).map (·.1)= _;rw [List.map_flatMap,List.map_flatMap,List.flatMap_map]
  congr 1
  funext n
  show (Nd.objs (if n.x = x then f n else n)).map (·.1)=(Nd.objs n).map (·.1);unfold Nd.objs
  split
  ·simp [(hf n).2.1,(hf n).2.2]
  ·rfl
 refine ⟨?_,hx,hid⟩;unfold SG.objs;simp only [List.map_cons,List.map_append,hk];rfl
theorem bX.mapN{hp hp':Nat→Option AO}{g:SG}{x:Str}{f:Nd→Nd}(S:bX hp g)(hf:∀n,(f n).x = n.x∧(f n).id = n.id∧(f n).ls = n.ls){m:Nd}(hm:m∈g.ns)(hx:m.x = x)
  (h1:∀p∈(f m).objs,hp' p.1 = some p.2) (h2:∀k,k≠m.id→k≠m.ls→hp' k = hp k):Ch hp hp' g (g.mapN x f):=by
 obtain ⟨e1,e2,e3⟩:=pJ (g:=g) (x:=x) hf;have key:∀n∈g.ns,n.x = x→n = m:=fun n hn e=>ci S.names hn hm (e.trans hx.symm);have nd:=S.nd;have apart:∀p∈g.objs,(p.1 = m.id∨p.1 = m.ls)→p∈m.objs:=fun p hp hor=>by
  have inj:∀a∈g.objs,∀b∈g.objs,a.1 = b.1→a = b:=fun a ha b hb e=>ci nd ha hb e;have m1:(m.id,AO.slots cu [.str m.x,.int m.np,.ref m.ls])∈g.objs:= .tail _ (.tail _ (aR _ (List.mem_flatMap.mpr ⟨m,hm,.head _⟩)));have m2:(m.ls,AO.list (m.sc.map .str))∈g.objs:= .tail _ (.tail _ (aR _ (List.mem_flatMap.mpr ⟨m,hm,.tail _ (.head _)⟩)));rcases hor with q | q
  ·rw [inj p hp _ m1 q];exact .head _
  ·rw [inj p hp _ m2 q];exact .tail _ (.head _)
 have notm:∀p∈g.objs,p∉m.objs→p.1≠m.id∧p.1≠m.ls:=fun p hp hn=>⟨fun e=>hn (apart p hp (.inl e)),fun e=>hn (apart p hp (.inr e))⟩;have inm:∀k,k = m.id∨k = m.ls→k∈g.foot:=fun k hk=>by
  rcases hk with rfl | rfl
  ·exact List.mem_map.mpr ⟨(m.id,_),.tail _ (.tail _ (aR _ (List.mem_flatMap.mpr ⟨m,hm,.head _⟩))),rfl⟩
  ·exact List.mem_map.mpr ⟨(m.ls,_),.tail _ (.tail _ (aR _ (List.mem_flatMap.mpr ⟨m,hm,.tail _ (.head _)⟩))),rfl⟩
 have hmobj:∀p,p∈m.objs→(p.1 = m.id∨p.1 = m.ls):=fun p hp=>by
  simp only [Nd.objs,List.mem_cons,List.not_mem_nil,or_false] at hp;rcases hp with rfl | rfl
  ·exact .inl rfl
  ·exact .inr rfl
 have hold:∀p∈g.objs,p∉m.objs→hp' p.1 = some p.2:=fun p hp hn=>by
  obtain ⟨a,b⟩:=notm p hp hn;rw [h2 _ a b];exact S.at_ p hp
 have ndi:g.i≠m.id∧g.i≠m.ls∧g.d≠m.id∧g.d≠m.ls:=by
  have a:=List.nodup_cons.mp nd;have b:=List.nodup_cons.mp a.2;have in1:m.id∈(g.rdo++g.ns.flatMap Nd.objs).map (·.1):=List.mem_map.mpr ⟨(m.id,_),aR _ (List.mem_flatMap.mpr ⟨m,hm,.head _⟩),rfl⟩;have in2:m.ls∈(g.rdo++g.ns.flatMap Nd.objs).map (·.1):=List.mem_map.mpr ⟨(m.ls,_),aR _ (List.mem_flatMap.mpr ⟨m,hm,.tail _ (.head _)⟩),rfl⟩;exact ⟨fun e=>a.1 (.tail _ (e▸in1)),fun e=>a.1 (.tail _ (e▸in2)),fun e=>b.1 (e▸in1),fun e=>b.1 (e▸in2)⟩
 refine ⟨⟨fun p hp=>?_,by rw [e1];exact nd,by rw [e2];exact S.names⟩,fun k ao hk e=>?_,fun k hk=>?_,rfl⟩
 ·have hp0:p∈(g.i,AO.inst ["_node2info","_ready_nodes","_npassedout","_nfinished"] [.ref g.d,g.rdv,.int g.npo,.int g.nf])::(g.d,AO.dict ((g.mapN x f).ns.map (·.x)) ((g.mapN x f).ns.map fun n=> .ref n.id) g.ep)::(g.rdo++(g.mapN x f).ns.flatMap Nd.objs):=hp;rw [e2,e3] at hp0;rcases mC hp0 with rfl | hp0
  ·rw [h2 _ ndi.1 ndi.2.1];exact S.inst
  ·rcases mC hp0 with rfl | hp0
   ·rw [h2 _ ndi.2.2.1 ndi.2.2.2];exact S.dict
   ·rcases mA hp0 with hp0 | hp0
    ·have hg:p∈g.objs:= .tail _ (.tail _ (aL _ hp0));refine hold p hg fun q=>?_;have c:=(List.nodup_cons.mp (List.nodup_cons.mp nd).2).2;rw [List.map_append,List.nodup_append] at c;rcases hmobj p q with e | e
     ·exact c.2.2 p.1 (List.mem_map_of_mem hp0) m.id (List.mem_map.mpr ⟨(m.id,_),List.mem_flatMap.mpr ⟨m,hm,.head _⟩,rfl⟩) e
     ·exact c.2.2 p.1 (List.mem_map_of_mem hp0) m.ls (List.mem_map.mpr ⟨(m.ls,_),List.mem_flatMap.mpr ⟨m,hm,.tail _ (.head _)⟩,rfl⟩) e
    ·obtain ⟨n',hn',hpn⟩:=List.mem_flatMap.mp hp0;obtain ⟨n,hn,rfl⟩:=mM hn'
     by_cases q:n.x = x
     ·have:=key n hn q;subst this;rw [if_pos q] at hpn;exact h1 p hpn
     ·rw [if_neg q] at hpn;have hg:p∈g.objs:= .tail _ (.tail _ (aR _ (List.mem_flatMap.mpr ⟨n,hn,hpn⟩)));refine hold p hg fun hpm=>q ?_;have hin:∀n∈g.ns,∀p∈n.objs,p.1 = n.id∨p.1 = n.ls:=fun n Z p hp=>by
       simp only [Nd.objs,List.mem_cons,List.not_mem_nil,or_false] at hp;rcases hp with rfl | rfl
       ·exact .inl rfl
       ·exact .inr rfl
      have c:=(List.nodup_cons.mp (List.nodup_cons.mp nd).2).2;rw [List.map_append,List.nodup_append] at c;have c:=c.2.1;rw [List.map_flatMap] at c;have:=iC c hn hm (x:=p.1) (List.mem_map_of_mem hpn) (List.mem_map_of_mem hpm);rw [this];exact hx
 ·rw [h2 k (fun q=>hk (inm k (.inl q))) (fun q=>hk (inm k (.inr q)))];exact e
 ·left
  show k∈g.objs.map (·.1);rw [← e1];exact hk
end
section
structure cD(g g':SG):Prop where
 d:g'.d = g.d
 rd:g'.rd = g.rd
 npo:g'.npo = g.npo
 nf:g'.nf = g.nf
theorem cD.refl(g:SG):cD g g:=⟨rfl,rfl,rfl,rfl⟩
theorem cD.trans{a b c:SG}(x:cD a b)(y:cD b c):cD a c:=⟨y.d.trans x.d,y.rd.trans x.rd,y.npo.trans x.npo,y.nf.trans x.nf⟩
theorem cD.rdv{g g':SG}(x:cD g g'):g'.rdv = g.rdv:=by unfold SG.rdv;rw [x.rd]
theorem eE{x:Str}{v:PV}(h:x∈v.map (·.1)):a5 x v = v:=if_pos h
theorem fq{x:Str}{v:PV}(h:x∉v.map (·.1)):a5 x v = v++ [(x,0,[])]:=if_neg h
theorem jb(x:Str)(v:PV):(a5 x v).length≤v.length+1:=by unfold a5;split <;> simp
theorem mx{g:SG}{x:Str}{k:Int}:(g.mapN x fun n=>{n with np:=n.np+k}).pv = aP x k g.pv:=by
 unfold SG.mapN SG.pv aP;simp only [List.map_map];refine List.map_congr_left fun n Z=>?_;show Nd.pv (if n.x = x then {n with np:=n.np+k} else n)= if n.x = x then (n.x,n.np+k,n.sc) else n.pv
 split <;> rfl
theorem mB{g:SG}{x y:Str}:(g.mapN x fun n=>{n with sc:=n.sc++ [y]}).pv = cr x y g.pv:=by
 unfold SG.mapN SG.pv cr;simp only [List.map_map];refine List.map_congr_left fun n Z=>?_;show Nd.pv (if n.x = x then {n with sc:=n.sc++ [y]} else n)= if n.x = x then (n.x,n.np,n.sc++ [y]) else n.pv
 split <;> rfl
noncomputable def dA(x:Str)(ps:List Str)(v:PV):PV:=ps.foldl (fun v p=>cr p x (a5 p v)) (aP x ps.length (a5 x v))
noncomputable def Bd(N B:Nat)(v:PV):Prop:=v.length≤N∧∀p∈v,p.2.2.length≤B
theorem Bd.ensure{N B:Nat}{v:PV}(h:Bd N B v)(x:Str):Bd (N+1) B (a5 x v):=by
 refine ⟨lT (jb x v) (Nat.add_le_add_right h.1 1),fun p hp=>?_⟩;unfold Mine.a5 at hp
 split at hp
 ·exact h.2 p hp
 ·rcases mA hp with hp | hp
  ·exact h.2 p hp
  ·simp at hp;subst hp;simp
theorem Bd.np{N B:Nat}{v:PV}(h:Bd N B v)(x:Str)(k:Int):Bd N B (aP x k v):=by
 unfold aP;refine ⟨by simpa using h.1,fun p hp=>?_⟩
 obtain ⟨q,hq,rfl⟩:=mM hp
 split <;> exact h.2 q hq
theorem Bd.sc{N B:Nat}{v:PV}(h:Bd N B v)(x y:Str):Bd N (B+1) (cr x y v):=by
 unfold cr;refine ⟨by simpa using h.1,fun p hp=>?_⟩
 obtain ⟨q,hq,rfl⟩:=mM hp;have:=h.2 q hq
 split
 ·simp;assumption
 ·change oN
theorem Bd.node{N B:Nat}{g:SG}(h:Bd N B g.pv){n:Nd}(hn:n∈g.ns):n.sc.length≤B:=h.2 n.pv (List.mem_map_of_mem hn)
theorem Bd.len{N B:Nat}{g:SG}(h:Bd N B g.pv):g.ns.length≤N:=by have:=h.1;unfold SG.pv at this;simpa using this
theorem small{n:Nat}(h:n≤1000):n≤sizeLine:=lT h (by rw [sizeLine_eq];decide)
theorem aa.of{G:Gd}{f:Value}(O:G.Ok)(e:keepIn G.K f = true):aa G f:=fun M A E s hk=>by
 obtain ⟨k,_,L⟩:=looks_keep (M:=M) e (O.K.keeps hk);exact ⟨k,fun Q' h=>L A Q' E s (fun Z Y e=>e) h⟩
inductive zF(hp0:Nat→Option AO)(g:SG)(x:Str)(ps:List Str)(N B:Nat)(k:Nat)(st':St):Prop
 | mk (g':SG) (h1:Ch hp0 st'.hp g g') (h2:cD g g') (h3:g'.pv =(ps.take k).foldl (fun v p=>cr p x (a5 p v)) (aP x ps.length (a5 x g.pv))) (h4:Bd (N+1+k) (B+k) g'.pv) (h5:st'.loc "self" = some (.obj am g.i)) (h6:st'.loc "node" = some (.str x))
variable {w:World}{h₀:Heap}{os:OsState}{mg mb:Str→Option Value}{cx:Cx}{fm:Fm}{X:Value→St→Prop}{st:St}{Q:AV→St→Prop}
theorem jp{g:SG}{x:Str}{n:Nat}(O:(gd w h₀ os mg mb).Ok)(hn:n+3≤cx.n)(S:bX st.hp g)(hz:g.ns.length≤1000)
  (h:∀g' hp' m,Ch st.hp hp' g g'→cD g g'→g'.pv = a5 x g.pv→m∈g'.ns→m.x = x→Q (.ref m.id) ⟨st.loc,hp'⟩):
  aH (gd w h₀ os mg mb) cx fm X n9 [.obj am g.i,.str x] st Q:=by
 refine r8 O hn S hz (fun m hm e=>?_) fun hx id ls ep hp' ot S' hid hls=>?_
 ·exact h g st.hp m (Ch.refl S) (cD.refl g) (eE (by rw [pv_names,← e];exact List.mem_map_of_mem hm)).symm hm e
 ·refine h _ hp' ⟨x,id,ls,0,[]⟩ ⟨S',ot,fun k hk=>?_,rfl⟩ ⟨rfl,rfl,rfl,rfl⟩ ?_ (aR _ (.head _)) rfl
  ·by_cases q:k∈g.foot
   ·exact .inl q
   ·right
    obtain ⟨p,hp,rfl⟩:=mM hk;have hob:p∈({g with ns:=g.ns++ [⟨x,id,ls,0,[]⟩],ep:=ep}:SG).objs:=hp;unfold SG.objs at hob;rcases mC hob with rfl | hob
    ·exact absurd (.head _) q
    ·rcases mC hob with rfl | hob
     ·exact absurd (.tail _ (.head _)) q
     ·rcases mA hob with hob | hob
      ·exact absurd (List.mem_map.mpr ⟨p,.tail _ (.tail _ (aL _ hob)),rfl⟩) q
      ·rw [List.flatMap_append] at hob;rcases mA hob with hob | hob
       ·exact absurd (List.mem_map.mpr ⟨p,.tail _ (.tail _ (aR _ hob)),rfl⟩) q
       ·simp only [List.flatMap_cons,List.flatMap_nil,List.append_nil,Nd.objs,List.mem_cons,List.not_mem_nil,or_false] at hob;rcases hob with rfl | rfl
        ·exact hid
        ·exact hls
  ·rw [fq (by rw [pv_names];exact hx)]
   unfold SG.pv;simp [Nd.pv]
theorem uT{g:SG}{x:Str}{ps:List Str}{n N B:Nat}(O:(gd w h₀ os mg mb).Ok)(hc:cx.calm = true)(hn:n+4≤cx.n)(S:bX st.hp g)(hrd:g.rd = Option.none)(hB:Bd N B g.pv)(hz:N+ps.length+1≤1000)(hzB:B+ps.length≤1000)
  (h:∀g' hp',Ch st.hp hp' g g'→cD g g'→g'.pv = dA x ps g.pv→Q .none ⟨st.loc,hp'⟩):
  aH (gd w h₀ os mg mb) cx fm X tY (.obj am g.i:: .str x::ps.map .str) st Q:=by
 have hps:ps.length≤1000:=by change Ax
 refine Fun.go (n:=n+3) O (cA.of O rfl rfl rfl) hn (Bind.star2 (by simpa using small hps) (fun Z Y us=>by cases us <;> rfl)) fun env he=>?_
 clear he;refine Ex.cons (an.if_ (bj.cmp (Ev.attr (Ev.loc rfl (cH O S (Ev.cnone (Cmp.isNotNone (b:=false) ?_ (Tru.bool ?_))))))))
 ·rw [SG.rdv,hrd]
 refine Ex.nil (Ex.cons (an.asg (Ev.mcall (Ev.loc rfl ⟨.ref n9,_,aa.of O (by kernel_rfl),Mth.obj O ap (by kernel_rfl) (by kernel_rfl) S.inst (by decide),aU.cons (ah.cons (Ev.loc rfl (ah.nil (aH.cal ?_))))⟩)) rfl rfl rfl))
 refine jp (n:=n) O (by show n+3≤n+3;with_reducible exact Nat.le_refl _) S (lT hB.len (by change AW)) fun g₁ hp₁ m C₁ R₁ hv₁ hm hmx=>?_
 refine Asg.name (.inl rfl) ?_;have S₁:=C₁.srt;have hB₁:Bd (N+1) B g₁.pv:=by rw [hv₁];exact hB.ensure x
 refine Ex.cons (an.augAttr (Ev.loc rfl (Get.slot O aN cf (by kernel_rfl) (S₁.node hm).1 rfl rfl ?_)))
 refine Ev.call (Ev.boot (v:= .builtin "len") O ⟨_,rfl,aa.builtin _,aU.cons (ah.cons (Ev.loc rfl (ah.nil ?_)))⟩ (by kernel_rfl) (by kernel_rfl))
 refine Cal.len (l:=ps.map .str) rfl (by simpa using small hps) (IBin.addInt ?_)
 refine Set.slot O aN cf (S₁.node hm).1 (by simp) ?_
 rw [lN];have C₂:Ch hp₁ (fun k=>if k = m.id then some (AO.slots cu [.str m.x,.int (m.np+ps.length),.ref m.ls]) else hp₁ k) g₁ (g₁.mapN x fun n=>{n with np:=n.np+ps.length}):=by
  refine S₁.mapN (fun Z=>⟨rfl,rfl,rfl⟩) hm hmx (fun p hp=>?_) fun k h1 h2=>if_neg h1;simp only [Nd.objs,List.mem_cons,List.not_mem_nil,or_false] at hp;rcases hp with rfl | rfl
  ·exact if_pos rfl
  ·show (if m.ls = m.id then _ else hp₁ m.ls)= _;rw [if_neg];exact (S₁.node hm).2;intro e;have a:=(S₁.node hm).1;have b:=(S₁.node hm).2;rw [e,a] at b;cases b
 have C:=C₁.trans C₂;have hv₂:(g₁.mapN x fun n=>{n with np:=n.np+ps.length}).pv = aP x ps.length (a5 x g.pv):=by rw [mx,hv₁]
 refine Ex.cons (an.for_ hc (Ev.loc rfl ⟨ps.map .str,_,Iter.tup,zF st.hp g x ps N B,?_,fun Z Y V=>trivial,fun k p st' hp hI=>?_,fun st' hI=>?_⟩))
 ·exact ⟨_,C,R₁.trans ⟨rfl,rfl,rfl,rfl⟩,hv₂,by rw [hv₂,← hv₁];exact hB₁.np _ _,rfl,rfl⟩
 ·obtain ⟨g',C',R',hv',hB',l1,l2⟩:=hI;rw [gM] at hp;obtain ⟨q,hq,rfl⟩:=oM hp;have hkl:k < ps.length:=(gS hq).1;refine Asg.name (.inl rfl) ?_;have S':=C'.srt;have hi:g'.i = g.i:=C'.i;refine Ex.cons (an.asg (Ev.mcall (Ev.loc l1 ⟨.ref n9,_,aa.of O (by kernel_rfl),Mth.obj O ap (by kernel_rfl) (by kernel_rfl) (hi▸S'.inst) (by decide),aU.cons (ah.cons (Ev.loc rfl (ah.nil (aH.cal ?_))))⟩)) rfl rfl rfl)
  rw [← hi];refine jp (n:=n) O (by show n+3≤n+3;with_reducible exact Nat.le_refl _) S' (lT hB'.len (by change zn)) fun g₃ hp₃ m₃ C₃ R₃ hv₃ hm₃ hmx₃=>?_
  refine Asg.name (.inl rfl) ?_;have S₃:=C₃.srt;have hB₃:Bd (N+1+k+1) (B+k) g₃.pv:=by rw [hv₃];exact hB'.ensure q
  refine Ex.cons (an.expr (Ev.mcall (Ev.attr (Ev.loc rfl (Get.slot O aN eC (by kernel_rfl) (S₃.node hm₃).1 rfl rfl ⟨.builtin "list.append",_,aa.builtin _,Mth.list PySem.F.slot_list_append PySem.F.type_list_append (ai (S₃.node hm₃).2),aU.cons (ah.cons (Ev.loc l2 (ah.nil ?_)))⟩)))))
  refine Cal.append (S₃.node hm₃).2 (lM (small (lT (hB₃.node hm₃) (by change An)))) ?_
  refine Ex.nil ?_;have C₄:Ch hp₃ (fun k=>if k = m₃.ls then some (AO.list (m₃.sc.map .str++ [.str x])) else hp₃ k) g₃ (g₃.mapN q fun n=>{n with sc:=n.sc++ [x]}):=by
   refine S₃.mapN (fun Z=>⟨rfl,rfl,rfl⟩) hm₃ hmx₃ (fun p hp=>?_) fun k h1 h2=>if_neg h2;simp only [Nd.objs,List.mem_cons,List.not_mem_nil,or_false] at hp;rcases hp with rfl | rfl
   ·show (if m₃.id = m₃.ls then _ else hp₃ m₃.id)= _;rw [if_neg];exact (S₃.node hm₃).1;intro e;have a:=(S₃.node hm₃).1;have b:=(S₃.node hm₃).2;rw [← e,a] at b;cases b
   ·simp
  have hv₄:(g₃.mapN q fun n=>{n with sc:=n.sc++ [x]}).pv = cr q x (a5 q g'.pv):=by rw [mB,hv₃]
  refine ⟨_,(C'.trans C₃).trans C₄,(R'.trans R₃).trans ⟨rfl,rfl,rfl,rfl⟩,?_,?_,?_,?_⟩
  ·rw [hv₄,hv',List.take_add_one,hq];simp [List.foldl_append]
  ·rw [hv₄,← hv₃];exact hB₃.sc _ _
  ·exact l1
  ·exact l2
 ·obtain ⟨g',C',R',hv',hB',l1,l2⟩:=hI;refine Ex.nil (Ex.nil ?_);refine h g' _ C' R' ?_;rw [hv',lN,List.take_length];rfl
end
section
variable {w:World}{h₀:Heap}{os:OsState}{mg mb:Str→Option Value}{cx:Cx}{fm:Fm}{X:Value→St→Prop}{st:St}{Q:AV→St→Prop}
theorem lw{i n:Nat}(O:(gd w h₀ os mg mb).Ok)(hn:n+1≤cx.n)(hi:st.hp i = some (.inst [] []))
  (h:∀d,st.hp d = Option.none→Q .none ((st.put d (.dict [] [] 0)).put i (.inst ["_node2info","_ready_nodes","_npassedout","_nfinished"] [.ref d,.none,.int 0,.int 0]))):aH (gd w h₀ os mg mb) cx fm X un [.obj am i] st Q:=by
 refine Fun.go (n:=n) O (cA.of O rfl rfl rfl) hn (ps:= [("self",.obj am i),("graph",.none)]) ?_ fun env he=>?_
 ·intro fm st W s A E vs Q R rs hQ;have rs':=rs;obtain ⟨v,_,rfl,rv,rfl⟩:=rs;refine (wpAny_bind (wpAny_seqItems (R.keep _ _ (O.K _ _ rfl)) rfl ?_):wpAny _ A (seqItems? (.ref 83) >>= _) Q E s);exact (wpAny_pure (hQ W s _ (.refl _) R rfl (au.cons rv (au.cons (by simp) au.nil))):wpAny _ A (Pure.pure [(Str.ofString "self",v),(Str.ofString "graph",Value.none)]) Q E s)
 clear he;refine Ex.cons (an.asg (Ev.dict0 fun d hd=>Asg.attr (Ev.loc rfl ?_)) rfl rfl rfl);have hd':st.hp d = Option.none:=hd;have hdi:d≠i:=fun e=>by rw [e,hi] at hd';cases hd'
 refine Set.obj O ap bJ tj ((if_neg (Ne.symm hdi)).trans hi) (by decide) ?_
 refine Ex.cons (an.asg (Ev.cnone (Asg.attr (Ev.loc rfl (Set.obj O ap bJ og (if_pos rfl) (Nat.le_of_ble_eq_true rfl) ?_)))) rfl rfl rfl);refine Ex.cons (an.asg (Ev.cint (Asg.attr (Ev.loc rfl (Set.obj O ap bJ n0 (if_pos rfl) (Nat.le_of_ble_eq_true rfl) ?_)))) rfl rfl rfl);refine Ex.cons (an.asg (Ev.cint (Asg.attr (Ev.loc rfl (Set.obj O ap bJ nX (if_pos rfl) (Nat.le_of_ble_eq_true rfl) ?_)))) rfl rfl rfl);refine Ex.cons (an.if_ (bj.cmp (Ev.loc rfl (Ev.cnone (Cmp.isNotNone (b:=false) rfl (Tru.bool (Ex.nil (Ex.nil ?_))))))));refine cast (congrArg (Q .none) ?_) (h d hd');show (⟨st.loc,_⟩:St)=⟨st.loc,_⟩
 congr 1
 funext k
 simp only [St.put]
 by_cases h1:k = i
 ·simp only [h1,if_true];rfl
 ·simp [h1]
theorem lq{n:Nat}(O:(gd w h₀ os mg mb).Ok)(hn:n+2≤cx.n)
  (h:∀i d hp',st.hp i = Option.none→st.hp d = Option.none→bX hp' ⟨i,d,0,[],Option.none,0,0⟩→vn [] st.hp hp'→Q (.obj am i) ⟨st.loc,hp'⟩):bB (gd w h₀ os mg mb) cx fm X (.ref am) [] st Q:=by
 refine Cal.makeObj (fI:=un) (n:=n+1) O ap (by kernel_rfl) (by kernel_rfl) hn fun i hi=>?_
 refine lw (n:=n) O (Nat.le_refl _) (if_pos rfl) fun d hd=>⟨rfl,?_⟩;have hdi:d≠i:=fun e=>by subst e;exact absurd ((if_pos rfl).symm.trans hd) nofun
 have hd':st.hp d = Option.none:=(if_neg hdi).symm.trans hd;refine h i d _ hi hd' ⟨fun p hp=>?_,?_,List.nodup_nil⟩ fun k ao Z e=>?_
 ·simp only [SG.objs,SG.rdo,SG.rdv,List.map_nil,List.flatMap_nil,List.append_nil,List.mem_cons,List.not_mem_nil,or_false] at hp;rcases hp with rfl | rfl
  ·exact if_pos rfl
  ·exact (if_neg hdi).trans (if_pos rfl)
 ·simp [SG.objs,SG.rdo,Ne.symm hdi]
 ·have h1:k≠i:=fun q=>by rw [q,hi] at e;cases e
  have h2:k≠d:=fun q=>by rw [q,hd'] at e;cases e
  exact (if_neg h1).trans ((if_neg h2).trans ((if_neg h1).trans e))
end
section
theorem bX.one{hp:Nat→Option AO}{g g':SG}{k:Nat}{ao:AO}(S:bX hp g)(hk:k∈g.foot)(hf:g'.objs.map (·.1)= g.objs.map (·.1))(hi:g'.i = g.i)(hn:g'.ns = g.ns)(h1:∀p∈g'.objs,p.1 = k→p.2 = ao)(h2:∀p∈g'.objs,p.1≠k→p∈g.objs):
  Ch hp (fun j=>if j = k then some ao else hp j) g g':=by
 refine ⟨⟨fun p hp=>?_,by rw [hf];exact S.nd,by rw [hn];exact S.names⟩,fun j a hj e=>?_,fun j hj=> .inl ?_,hi⟩
 ·by_cases q:p.1 = k
  ·show (if p.1 = k then some ao else _)= some p.2;rw [if_pos q,h1 p hp q]
  ·exact (if_neg q).trans (S.at_ p (h2 p hp q))
 ·exact (if_neg (fun (q:j = k)=>hj (by rw [q];exact hk))).trans e
 ·show j∈g.objs.map (·.1);rw [← hf];exact hj
theorem bX.setI{hp:Nat→Option AO}{g:SG}(S:bX hp g)(npo nf:Int):
  Ch hp (fun j=>if j = g.i then some (.inst ["_node2info","_ready_nodes","_npassedout","_nfinished"] [.ref g.d,g.rdv,.int npo,.int nf]) else hp j) g {g with npo:=npo,nf:=nf}:=by
 refine S.one (.head _) rfl rfl rfl (fun p hp e=>?_) fun p hp e=>?_
 ·have:p∈(g.i,_)::g.objs.tail:=hp;rcases mC this with rfl | q
  ·rfl
  ·exact absurd (List.mem_map.mpr ⟨p,q,e⟩) (List.nodup_cons.mp S.nd).1
 ·have:p∈(g.i,_)::g.objs.tail:=hp;rcases mC this with rfl | q
  ·exact absurd rfl e
  ·exact .tail _ q
theorem bX.setR{hp:Nat→Option AO}{g:SG}{r:Nat}{l l':List Str}(S:bX hp g)(hr:g.rd = some (r,l)):
  Ch hp (fun j=>if j = r then some (.list (l'.map .str)) else hp j) g {g with rd:=some (r,l')}:=by
 have hmem:(r,AO.list (l.map .str))∈g.objs:= .tail _ (.tail _ (aL _ (by unfold SG.rdo;rw [hr];exact .head _)))
 have hob:({g with rd:=some (r,l')}:SG).objs =(g.i,AO.inst ["_node2info","_ready_nodes","_npassedout","_nfinished"] [.ref g.d,.ref r,.int g.npo,.int g.nf])::(g.d,AO.dict (g.ns.map (·.x)) (g.ns.map fun n=> .ref n.id) g.ep)::((r,AO.list (l'.map .str))::g.ns.flatMap Nd.objs):=rfl;have hob0:g.objs =(g.i,AO.inst ["_node2info","_ready_nodes","_npassedout","_nfinished"] [.ref g.d,.ref r,.int g.npo,.int g.nf])::(g.d,AO.dict (g.ns.map (·.x)) (g.ns.map fun n=> .ref n.id) g.ep)::((r,AO.list (l.map .str))::g.ns.flatMap Nd.objs):=by
  unfold SG.objs SG.rdv SG.rdo;rw [hr];rfl
 have nd:=S.nd;rw [hob0] at nd;refine S.one (List.mem_map.mpr ⟨_,hmem,rfl⟩) (by rw [hob,hob0];rfl) rfl rfl (fun p hp e=>?_) fun p hp e=>?_
 ·rw [hob] at hp;have n1:=List.nodup_cons.mp nd;have n2:=List.nodup_cons.mp n1.2;have n3:=List.nodup_cons.mp n2.2;rcases mC hp with rfl | hp
  ·exact absurd (show g.i∈_ from e▸(.tail _ (.head _))) n1.1
  ·rcases mC hp with rfl | hp
   ·exact absurd (show g.d∈_ from e▸(.head _)) n2.1
   ·rcases mC hp with rfl | hp
    ·rfl
    ·exact absurd (List.mem_map.mpr ⟨p,hp,e⟩) n3.1
 ·rw [hob] at hp;rw [hob0];rcases mC hp with rfl | hp
  ·exact .head _
  ·rcases mC hp with rfl | hp
   ·exact .tail _ (.head _)
   ·rcases mC hp with rfl | hp
    ·exact absurd rfl e
    ·exact .tail _ (.tail _ (.tail _ hp))
noncomputable def setNp(x:Str)(k:Int)(v:PV):PV:=v.map fun p=>if p.1 = x then (p.1,k,p.2.2) else p
theorem db{g:SG}{x:Str}{k:Int}:(g.mapN x fun n=>{n with np:=k}).pv = setNp x k g.pv:=by
 unfold SG.mapN SG.pv setNp;simp only [List.map_map];refine List.map_congr_left fun n Z=>?_;show Nd.pv (if n.x = x then {n with np:=k} else n)= if n.x = x then (n.x,k,n.sc) else n.pv
 split <;> rfl
theorem bF(x:Str)(k:Int)(v:PV):(setNp x k v).map (·.1)= v.map (·.1):=by
 unfold setNp;rw [List.map_map];refine List.map_congr_left fun p Z=>?_;show (if p.1 = x then (p.1,k,p.2.2) else p).1 = p.1
 split <;> rfl
theorem bX.setNp{hp:Nat→Option AO}{g:SG}{m:Nd}(S:bX hp g)(hm:m∈g.ns)(v:Int):
  Ch hp (fun j=>if j = m.id then some (AO.slots cu [.str m.x,.int v,.ref m.ls]) else hp j) g (g.mapN m.x fun n=>{n with np:=v}):=by
 refine S.mapN (fun Z=>⟨rfl,rfl,rfl⟩) hm rfl (fun p hp'=>?_) fun k h1 h2=>if_neg h1;simp only [Nd.objs,List.mem_cons,List.not_mem_nil,or_false] at hp';rcases hp' with rfl | rfl
 ·exact if_pos rfl
 ·show (if m.ls = m.id then _ else hp m.ls)= _;rw [if_neg];exact (S.node hm).2;intro e;have a:=(S.node hm).1;have b:=(S.node hm).2;rw [e,a] at b;cases b
theorem eB{g:SG}{x:Str}(h:x∈g.pv.map (·.1)):∃m∈g.ns,m.x = x:=by
 rw [pv_names] at h;obtain ⟨m,hm,e⟩:=mM h;exact ⟨m,hm,e⟩
set_option tactic.hygienic true in
theorem rL{k:Str}:∀{ks:List Str} {l:List AV} {a:AV},cU k ks l = some a→∃i:Nat,ks[i]? = some k∧l[i]? = some a:=by
 intro zl
 induction zl with
 | nil=>
  intro _ _ e;cases e
 | cons x ks ih=>
  intro zm;cases zm with
  | nil=>
   intro _ e;cases e
  | cons y l=>
   intro a e;rw [cB] at e
   split at e
   ·rename_i q;cases e;exact ⟨0,by rw [q];rfl,rfl⟩
   ·obtain ⟨i,h1,h2⟩:=ih e;exact ⟨i+1,h1,h2⟩
theorem Sub.node{G:Gd}{cx:Cx}{fm:Fm}{X:Value→St→Prop}{st:St}{value slice:PySem.Expr}{g:SG}{m:Nd}{Q:AV→St→Prop}(S:bX st.hp g)(hm:m∈g.ns)(h:Q (.ref m.id) st)
  (hs:∀o i,subscripted slice false o i = PySem.operate [o,i] (getItem o i):=by intro _ _;with_unfolding_all rfl):cZ G cx fm X value slice (.ref g.d) (.str m.x) st Q:=by
 obtain ⟨i,h1,h2⟩:=rL (fp S.names hm);exact Sub.dct (bv S.dict) h1 h2 h hs
variable {w:World}{h₀:Heap}{os:OsState}{mg mb:Str→Option Value}{cx:Cx}{fm:Fm}{X:Value→St→Prop}{st:St}{Q:AV→St→Prop}
theorem pB{g:SG}{n r:Nat}{l:List Str}(O:(gd w h₀ os mg mb).Ok)(hn:n+1≤cx.n)(S:bX st.hp g)(hr:g.rd = some (r,l))(hz:l.length≤1000)
  (h:Q (.bool (decide (g.nf < g.npo) || ! l.isEmpty)) st):aH (gd w h₀ os mg mb) cx fm X fO [.obj am g.i] st Q:=by
 have hrv:g.rdv = .ref r:=by unfold SG.rdv;rw [hr]
 refine Fun.go (n:=n) O (cA.of O rfl rfl rfl) hn (Bind.p1 (fun Z=>rfl)) fun env he=>?_;clear he;refine Ex.cons (an.if_ (bj.cmp (Ev.attr (Ev.loc rfl (cH O S (Ev.cnone (Cmp.isNone (b:=false) (by rw [hrv]) (Tru.bool (Ex.nil ?_)))))))))
 refine Ex.cons (an.ret (Ev.boolop (bS.or (Ev.cmp (Ev.attr (Ev.loc rfl (oq O S (Ev.attr (Ev.loc rfl (nY O S (Cmp.ltInt (Tru.bool ?_))))))))))))
 by_cases hlt:g.nf < g.npo
 ·simp only [hlt,decide_true,if_true];simp only [hlt,decide_true,Bool.true_or] at h;exact h
 ·simp only [hlt,decide_false,Bool.false_eq_true,if_false];simp only [hlt,decide_false,Bool.false_or] at h;refine bS.last (Ev.call (Ev.boot (v:= .type "bool") O ⟨_,rfl,aa.type _,aU.cons (ah.cons (Ev.attr (Ev.loc rfl (cH O S (ah.nil ?_)))))⟩ (by kernel_rfl) (by kernel_rfl)))
  rw [hrv];refine Cal.boolList (l:=l.map .str) (ai (S.ready hr)) (lM (small hz)) ?_;have e:(l.map AV.str).isEmpty = l.isEmpty:=by cases l <;> rfl
  rw [e];exact h
end
section
theorem Ev.globI{G:Gd}{cx:Cx}{fm:Fm}{X:Value→St→Prop}{st:St}{x:Str}{pos:Pos}{i:Int}{t:Tok}{Q:AV→St→Prop}(O:G.Ok)(e:nsIn G.K mainGlobals x = some (some (.int i t)))(h:Q (.int i) st)
  (hl:fm.kind x = some .globalImplicit:=by rfl) (hd:(x ==("__debug__" :Str))= false:=by decide):Ev G cx fm X (.Name x pos) st Q:=Ev.glob O h (fun W=>by simp) e hl hd
theorem pz{g:SG}{x:Str}{f:Nd→Nd}:cD g (g.mapN x f):=⟨rfl,rfl,rfl,rfl⟩
theorem fL(k:Int):∀(l:List Str) (v:PV),(l.foldl (fun v x=>setNp x k v) v).map (·.1)= v.map (·.1):=by
 intro zl
 induction zl with
 | nil=>
  intro _;exact rfl
 | cons x l ih=>
  intro v;rw [List.foldl_cons,ih,bF]
inductive Al(hp0:Nat→Option AO)(g:SG)(l:List Str)(k:Nat)(st':St):Prop
 | mk (g':SG) (h1:Ch hp0 st'.hp g g') (h2:cD g g') (h3:g'.pv =(l.take k).foldl (fun v x=>setNp x (-1) v) g.pv) (h4:st'.loc "self" = some (.obj am g.i)) (h5:st'.loc "result" = some (.tup (l.map .str))) (h6:st'.loc "n2i" = some (.ref g.d))
variable {w:World}{h₀:Heap}{os:OsState}{mg mb:Str→Option Value}{cx:Cx}{fm:Fm}{X:Value→St→Prop}{st:St}{Q:AV→St→Prop}
theorem iZ:nsIn (gd w h₀ os mg mb).K mainGlobals "_NODE_OUT" = some (some (.int (-1) 292)):=by kernel_rfl
theorem lV:nsIn (gd w h₀ os mg mb).K mainGlobals "_NODE_DONE" = some (some (.int (-2) 295)):=by kernel_rfl
theorem mn{g:SG}{n r:Nat}{l:List Str}(O:(gd w h₀ os mg mb).Ok)(hc:cx.calm = true)(hn:n+1≤cx.n)(S:bX st.hp g)(hr:g.rd = some (r,l))(hz:l.length≤1000)(hl:∀x∈l,x∈g.pv.map (·.1))
  (h:∀g' hp',Ch st.hp hp' g g'→g'.pv = l.foldl (fun v x=>setNp x (-1) v) g.pv→g'.rd = some (r,[])→g'.npo = g.npo+l.length→g'.nf = g.nf→Q (.tup (l.map .str)) ⟨st.loc,hp'⟩):aH (gd w h₀ os mg mb) cx fm X nI [.obj am g.i] st Q:=by
 have hrv:g.rdv = .ref r:=by unfold SG.rdv;rw [hr]
 refine Fun.go (n:=n) O (cA.of O rfl rfl rfl) hn (Bind.p1 (fun Z=>rfl)) fun env he=>?_;clear he;refine Ex.cons (an.if_ (bj.cmp (Ev.attr (Ev.loc rfl (cH O S (Ev.cnone (Cmp.isNone (b:=false) (by rw [hrv]) (Tru.bool (Ex.nil ?_)))))))))
 refine Ex.cons (an.asg (Ev.call (Ev.boot (v:= .type "tuple") O ⟨_,rfl,aa.type _,aU.cons (ah.cons (Ev.attr (Ev.loc rfl (cH O S (ah.nil ?_)))))⟩ (by kernel_rfl) (by kernel_rfl))) rfl rfl rfl)
 rw [hrv];refine Cal.tuple (l:=l.map .str) (ai (S.ready hr)) (lM (small hz)) (Asg.name (.inl rfl) ?_);refine Ex.cons (an.asg (Ev.attr (Ev.loc rfl (eu O S (Asg.name (.inl rfl) ?_)))) rfl rfl rfl);refine Ex.cons (an.for_ hc (Ev.loc rfl ⟨l.map .str,_,Iter.tup,Al st.hp g l,?_,fun Z Y V=>trivial,fun k p st' hp hI=>?_,fun st' hI=>?_⟩))
 ·exact ⟨g,Ch.refl S,cD.refl g,rfl,rfl,rfl,rfl⟩
 ·obtain ⟨g',C',R',hv',l1,l2,l3⟩:=hI;rw [gM] at hp;obtain ⟨q,hq,rfl⟩:=oM hp;have hqm:q∈l:=mG hq;have S':=C'.srt;obtain ⟨m,hm,rfl⟩:=eB (g:=g') (x:=q) (by rw [hv',fL];exact hl q hqm)
  refine Asg.name (.inl rfl) ?_;refine Ex.cons (an.asg (Ev.globI O iZ ?_) rfl rfl rfl);refine Asg.attr (Ev.sub (Ev.loc l3 (Ev.loc rfl ?_)));rw [← R'.d];refine Sub.node S' hm ?_;refine Set.slot O aN cf (S'.node hm).1 (by simp) ?_
  refine Ex.nil ?_;have C₄:=S'.setNp hm (-1);refine ⟨_,C'.trans C₄,R'.trans pz,?_,l1,l2,R'.d▸l3⟩;rw [db,hv',List.take_add_one,hq];simp [List.foldl_append]
 ·obtain ⟨g',C',R',hv',l1,l2,l3⟩:=hI;rw [lN,List.take_length] at hv';have S':=C'.srt;have hi:g'.i = g.i:=C'.i;have hr':g'.rd = some (r,l):=R'.rd.trans hr;refine Ex.nil ?_;refine Ex.cons (an.expr (Ev.mcall (Ev.attr (Ev.loc l1 ?_))));rw [← hi];refine cH O S' ?_;rw [R'.rdv,hrv];refine ⟨.builtin "list.clear",_,aa.builtin _,Mth.list PySem.F.slot_list_clear PySem.F.type_list_clear (ai (S'.ready hr')),aU.nil ?_⟩;refine Cal.clear (S'.ready hr') (lM (small hz)) ?_;have C₂:=S'.setR (l':= []) hr';have C₃:=C'.trans C₂;have S₃:=C₃.srt;refine Ex.cons (an.augAttr (Ev.loc l1 ?_));rw [← hi];refine nY (g:={g' with rd:=some (r,[])}) O S₃ ?_;refine Ev.call (Ev.boot (v:= .builtin "len") O ⟨_,rfl,aa.builtin _,aU.cons (ah.cons (Ev.loc l2 (ah.nil ?_)))⟩ (by kernel_rfl) (by kernel_rfl))
  refine Cal.len (l:=l.map .str) rfl (by simpa using small hz) (IBin.addInt ?_)
  refine Set.obj O ap bJ n0 S₃.inst (Nat.le_of_ble_eq_true rfl) ?_;refine Ex.cons (an.ret (Ev.loc l2 ?_));have C₄:=S₃.setI (g'.npo+((l.map AV.str).length:Nat)) g'.nf;refine h _ _ (C₃.trans C₄) ?_ rfl ?_ R'.nf
  ·exact hv'
  ·show g'.npo+_ = _;rw [R'.npo,lN]
end
section
noncomputable def aQ(x:Str)(v:PV):Int:=((v.find? fun p=>p.1 = x).map (·.2.1)).getD 0
noncomputable def aO(x:Str)(v:PV):List Str:=((v.find? fun p=>p.1 = x).map (·.2.2)).getD []
noncomputable def a9(a:PV×List Str)(s:Str):PV×List Str:=(aP s (-1) a.1,if aQ s (aP s (-1) a.1)= 0 then a.2++ [s] else a.2)
noncomputable def aI(a:PV×List Str)(x:Str):PV×List Str:=(aO x a.1).foldl a9 (setNp x (-2) a.1,a.2)
theorem find_node{ns:List Nd}(hn:(ns.map (·.x)).Nodup){m:Nd}(hm:m∈ns):(ns.map Nd.pv).find? (fun p=>p.1 = m.x)= some m.pv:=by
 induction ns with
 | nil=>cases hm
 | cons n r ih=>
  have hn':=List.nodup_cons.mp hn;rw [List.map_cons,List.find?_cons];rcases mC hm with rfl | hm'
  ·have:decide ((Nd.pv m).1 = m.x)= true:=by simp [Nd.pv]
   rw [this]
  ·have:decide ((Nd.pv n).1 = m.x)= false:=decide_eq_false fun e=>hn'.1 (List.mem_map.mpr ⟨m,hm',e.symm⟩);rw [this];exact ih hn'.2 hm'
theorem jr{hp:Nat→Option AO}{g:SG}(S:bX hp g){m:Nd}(hm:m∈g.ns):aQ m.x g.pv = m.np:=by unfold aQ SG.pv;rw [find_node S.names hm];rfl
theorem b9{hp:Nat→Option AO}{g:SG}(S:bX hp g){m:Nd}(hm:m∈g.ns):aO m.x g.pv = m.sc:=by unfold aO SG.pv;rw [find_node S.names hm];rfl
noncomputable def b8(g g':SG):Prop:=∀m∈g.ns,∃m'∈g'.ns,m'.x = m.x∧m'.id = m.id∧m'.ls = m.ls∧m'.sc = m.sc
theorem b8.refl(g:SG):b8 g g:=fun m hm=>⟨m,hm,rfl,rfl,rfl,rfl⟩
theorem b8.trans{a b c:SG}(x:b8 a b)(y:b8 b c):b8 a c:=fun m hm=>by
 obtain ⟨m',h1,h2,h3,h4,h5⟩:=x m hm;obtain ⟨m'',k1,k2,k3,k4,k5⟩:=y m' h1;exact ⟨m'',k1,k2.trans h2,k3.trans h3,k4.trans h4,k5.trans h5⟩
theorem b8.mapN{g:SG}{x:Str}{f:Int→Int}:b8 g (g.mapN x fun n=>{n with np:=f n.np}):=fun m hm=>
 ⟨_,List.mem_map.mpr ⟨m,hm,rfl⟩,by dsimp only;split <;> rfl,by dsimp only;split <;> rfl,by dsimp only;split <;> rfl,by dsimp only;split <;> rfl⟩
theorem da(x:Str)(k:Int)(v:PV):(aP x k v).map (·.1)= v.map (·.1):=by
 unfold aP;rw [List.map_map];refine List.map_congr_left fun p Z=>?_;show (if p.1 = x then (p.1,p.2.1+k,p.2.2) else p).1 = p.1
 split <;> rfl
theorem gz:∀(l:List Str) (a:PV×List Str),(l.foldl a9 a).1.map (·.1)= a.1.map (·.1):=by
 intro zl
 induction zl with
 | nil=>
  intro _;exact rfl
 | cons s l ih=>
  intro a;rw [List.foldl_cons,ih];exact da s (-1) a.1
theorem na(a:PV×List Str)(x:Str):(aI a x).1.map (·.1)= a.1.map (·.1):=by unfold aI;rw [gz];exact bF x (-2) a.1
theorem lK:∀(l:List Str) (a:PV×List Str),(l.foldl aI a).1.map (·.1)= a.1.map (·.1):=by
 intro zl
 induction zl with
 | nil=>
  intro _;exact rfl
 | cons s l ih=>
  intro a;rw [List.foldl_cons,ih,na]
theorem b8.back{hp':Nat→Option AO}{g g':SG}(N:b8 g g')(S':bX hp' g')(hnm:g'.pv.map (·.1)= g.pv.map (·.1)){m:Nd}(hm:m∈g'.ns):∃m₀∈g.ns,m₀.x = m.x∧m₀.sc = m.sc:=by
 obtain ⟨m₀,h1,h2⟩:=eB (g:=g) (x:=m.x) (by rw [← hnm,pv_names];exact List.mem_map_of_mem hm)
 obtain ⟨m',k1,k2,_,_,k5⟩:=N m₀ h1;have:m' = m:=ci S'.names k1 hm (k2.trans h2);subst this;exact ⟨m₀,h1,h2,k5.symm⟩
set_option tactic.hygienic true in
theorem gy{hp:Nat→Option AO}{g:SG}(S:bX hp g){m:Nd}(hm:m∈g.ns)(k:Int):setNp m.x (m.np+k) g.pv = aP m.x k g.pv:=by
 unfold setNp aP SG.pv;rw [List.map_map,List.map_map];refine List.map_congr_left fun n hn=>?_;show (if n.x = m.x then (n.x,m.np+k,n.sc) else n.pv)= if n.x = m.x then (n.x,n.np+k,n.sc) else n.pv
 split
 ·rename_i e;have:=ci S.names hn hm e;rw [this]
 ·rfl
theorem nq{hp:Nat→Option AO}{g:SG}(S:bX hp g){m:Nd}(hm:m∈g.ns)(k:Int):aQ m.x (aP m.x k g.pv)= m.np+k:=by
 rw [← gy S hm];have C:=S.setNp hm (m.np+k);have hm':({m with np:=m.np+k}:Nd)∈(g.mapN m.x fun n=>{n with np:=m.np+k}).ns:=List.mem_map.mpr ⟨m,hm,if_pos rfl⟩;have:=jr C.srt hm';rw [db] at this;exact this
inductive A0(hp0:Nat→Option AO)(g:SG)(r B:Nat)(l xs:List Str)(k:Nat)(st':St):Prop
 | mk (g':SG) (l':List Str) (h1:Ch hp0 st'.hp g g') (h2:b8 g g') (h3:(g'.pv,l')=(xs.take k).foldl aI (g.pv,l)) (h4:l'.length≤l.length+k * B) (h5:g'.rd = some (r,l')) (h6:g'.npo = g.npo) (h7:g'.nf = g.nf+k) (h8:g'.d = g.d) (h9:st'.loc "self" = some (.obj am g.i)) (h10:st'.loc "n2i" = some (.ref g.d))
inductive zx(hp0:Nat→Option AO)(g g':SG)(r:Nat)(l':List Str)(m:Nd)(k:Nat)(j:Nat)(st'':St):Prop
 | mk (g'':SG) (l'':List Str) (h1:Ch hp0 st''.hp g g'') (h2:b8 g' g'') (h3:(g''.pv,l'')=(m.sc.take j).foldl a9 (setNp m.x (-2) g'.pv,l')) (h4:l''.length≤l'.length+j) (h5:g''.rd = some (r,l'')) (h6:g''.npo = g.npo) (h7:g''.nf = g.nf+k) (h8:g''.d = g.d) (h9:st''.loc "self" = some (.obj am g.i)) (h10:st''.loc "n2i" = some (.ref g.d)) (h11:st''.loc "node" = some (.str m.x))
variable {w:World}{h₀:Heap}{os:OsState}{mg mb:Str→Option Value}{cx:Cx}{fm:Fm}{X:Value→St→Prop}{st:St}{Q:AV→St→Prop}
theorem sX{g:SG}{n r B:Nat}{l xs:List Str}(O:(gd w h₀ os mg mb).Ok)(hc:cx.calm = true)(hn:n+1≤cx.n)(S:bX st.hp g)(hr:g.rd = some (r,l))(hB:∀m∈g.ns,m.sc.length≤B)(hz:l.length+xs.length * B≤1000)(hzx:xs.length≤1000)(hzB:B≤1000)
  (hcl:∀m∈g.ns,∀s∈m.sc,s∈g.pv.map (·.1)) (hx:∀(k:Nat) x,xs[k]? = some x→x∈g.pv.map (·.1)∧aQ x ((xs.take k).foldl aI (g.pv,l)).1 = -1)
  (h:∀g' hp',Ch st.hp hp' g g'→b8 g g'→g'.pv =(xs.foldl aI (g.pv,l)).1→g'.rd = some (r,(xs.foldl aI (g.pv,l)).2)→g'.npo = g.npo→g'.nf = g.nf+xs.length→Q .none ⟨st.loc,hp'⟩):
  aH (gd w h₀ os mg mb) cx fm X o4 (.obj am g.i::xs.map .str) st Q:=by
 have hrv:g.rdv = .ref r:=by unfold SG.rdv;rw [hr]
 refine Fun.go (n:=n) O (cA.of O rfl rfl rfl) hn (Bind.star1 (by simpa using small hzx) (fun Z us=>by cases us <;> rfl)) fun env he=>?_
 clear he;refine Ex.cons (an.if_ (bj.cmp (Ev.attr (Ev.loc rfl (cH O S (Ev.cnone (Cmp.isNone (b:=false) (by rw [hrv]) (Tru.bool (Ex.nil ?_)))))))))
 refine Ex.cons (an.asg (Ev.attr (Ev.loc rfl (eu O S (Asg.name (.inl rfl) ?_)))) rfl rfl rfl);refine Ex.cons (an.for_ hc (Ev.loc rfl ⟨xs.map .str,_,Iter.tup,A0 st.hp g r B l xs,?_,fun Z Y V=>trivial,fun k p st' hp hI=>?_,fun st' hI=>?_⟩))
 ·exact ⟨g,l,Ch.refl S,b8.refl g,rfl,by with_reducible exact Nat.le_add_right _ _,hr,rfl,by simp,rfl,rfl,rfl⟩
 ·obtain ⟨g',l',C',N',hv',hlen',hr',hpo',hnf',hd',l1,l3⟩:=hI;rw [gM] at hp;obtain ⟨q,hq,rfl⟩:=oM hp;have hkl:k < xs.length:=(gS hq).1;have S':=C'.srt;have hv1:g'.pv =((xs.take k).foldl aI (g.pv,l)).1:=congrArg Prod.fst hv';have hnm:g'.pv.map (·.1)= g.pv.map (·.1):=by rw [hv1,lK]
  obtain ⟨m,hm,rfl⟩:=eB (g:=g') (x:=q) (by rw [hnm];exact (hx k q hq).1)
  have hnp:m.np = -1:=by rw [← jr S' hm,hv1];exact (hx k m.x hq).2
  refine Asg.name (.inl rfl) ?_;have l3':st'.loc "n2i" = some (.ref g'.d):=by rw [hd'];exact l3
  refine Ex.cons (an.if_ (bj.cmp (Ev.named (.inl rfl) (Ev.mcall (Ev.loc l3' ?_)))));refine ⟨_,_,aa.builtin _,Mth.dict PySem.F.slot_dict_get PySem.F.type_dict_get (bv S'.dict),aU.cons (ah.cons (Ev.loc rfl (ah.nil ?_)))⟩;refine Cal.dictGet O (bv S'.dict) (Ev.cnone ?_);rw [fp S'.names hm];refine Cmp.isNone (b:=false) rfl (Tru.bool (Ex.nil ?_));refine Ex.cons (an.asg (Ev.attr (Ev.loc rfl (Get.slot O aN cf (by kernel_rfl) (S'.node hm).1 rfl rfl (Asg.name (.inl rfl) ?_)))) rfl rfl rfl)
  refine Ex.cons (an.if_ (bj.cmp (Ev.loc rfl (Ev.globI O iZ (Cmp.neInt (Tru.bool ?_))))));rw [hnp];refine Ex.nil ?_;refine Ex.cons (an.asg (Ev.globI O lV (Asg.attr (Ev.loc rfl (Set.slot O aN cf (S'.node hm).1 (by simp) ?_)))) rfl rfl rfl)
  have C₂:=S'.setNp hm (-2);have S₂:=C₂.srt;have hm₂:({m with np:= -2}:Nd)∈(g'.mapN m.x fun n=>{n with np:= -2}).ns:=List.mem_map.mpr ⟨m,hm,if_pos rfl⟩;obtain ⟨m₀,hm₀,hm₀x,hm₀s⟩:=N'.back S' hnm hm;have hscB:m.sc.length≤B:=hm₀s▸hB m₀ hm₀;have hscN:∀s∈m.sc,s∈g.pv.map (·.1):=fun s hs=>hcl m₀ hm₀ s (by rw [hm₀s];exact hs)
  have hkB:(k+1)* B≤xs.length * B:=Nat.mul_le_mul_right _ hkl;have hkB':(k+1)* B = k * B+B:=Nat.succ_mul k B;refine Ex.cons (an.for_ hc (Ev.attr (Ev.loc rfl (Get.slot O aN eC (by kernel_rfl) (S₂.node hm₂).1 rfl rfl ⟨m.sc.map .str,_,Iter.lst (lM (small (lT hscB hzB))),
   zx st.hp g g' r l' m k,?_,fun j st'' hJ=>?_,fun j p st'' hp hJ=>?_,fun st'' hJ=>?_⟩))))
  ·exact ⟨_,l',C'.trans C₂,b8.mapN (f:=fun Z=> -2),by rw [db];rfl,by with_reducible exact Nat.le_add_right _ _,hr',hpo',hnf',hd',l1,l3,rfl⟩
  ·obtain ⟨g'',l'',C'',N'',_⟩:=hJ;obtain ⟨m',k1,_,_,k4,k5⟩:=N'' m hm;rw [← k4,← k5];exact ai (C''.srt.node k1).2
  ·obtain ⟨g'',l'',C'',N'',hv'',hlen'',hr'',hpo'',hnf'',hd'',a1,a3,a4⟩:=hJ;rw [gM] at hp;obtain ⟨s,hs,rfl⟩:=oM hp;have hjl:j < m.sc.length:=(gS hs).1;have S'':=C''.srt;have hv2:g''.pv =((m.sc.take j).foldl a9 (setNp m.x (-2) g'.pv,l')).1:=congrArg Prod.fst hv'';have hnm2:g''.pv.map (·.1)= g.pv.map (·.1):=by rw [hv2,gz,bF,hnm]
   obtain ⟨t,ht,rfl⟩:=eB (g:=g'') (x:=s) (by rw [hnm2];exact hscN s (mG hs))
   refine Asg.name (.inl rfl) ?_;have a3':st''.loc "n2i" = some (.ref g''.d):=by rw [hd''];exact a3
   refine Ex.cons (an.asg (Ev.sub (Ev.loc a3' (Ev.loc rfl ?_))) rfl rfl rfl);refine Sub.node S'' ht (Asg.name (.inl rfl) ?_);refine Ex.cons (an.augAttr (Ev.loc rfl (Get.slot O aN cf (by kernel_rfl) (S''.node ht).1 rfl rfl (Ev.cint (IBin.subInt (Set.slot O aN cf (S''.node ht).1 (by simp) ?_))))))
   have C₃:=S''.setNp ht (t.np - 1);have S₃:=C₃.srt;have ht₃:({t with np:=t.np - 1}:Nd)∈(g''.mapN t.x fun n=>{n with np:=t.np - 1}).ns:=List.mem_map.mpr ⟨t,ht,if_pos rfl⟩;have hv3:(g''.mapN t.x fun n=>{n with np:=t.np - 1}).pv = aP t.x (-1) g''.pv:=by rw [db,Int.sub_eq_add_neg,gy S'' ht]
   have hnp3:aQ t.x (aP t.x (-1) g''.pv)= t.np - 1:=by rw [nq S'' ht,Int.sub_eq_add_neg]
   have hi3:(g''.mapN t.x fun n=>{n with np:=t.np - 1}).i = g.i:=C''.i;have hstep:((m.sc.take (j+1)).foldl a9 (setNp m.x (-2) g'.pv,l'))=(aP t.x (-1) g''.pv,if t.np - 1 = 0 then l''++ [t.x] else l''):=by
    rw [List.take_add_one,hs,Option.toList_some,List.foldl_append,← hv'',List.foldl_cons,List.foldl_nil];unfold a9;rw [hnp3]
   refine Ex.cons (an.if_ (bj.cmp (Ev.attr (Ev.loc rfl (Get.slot O aN cf (by kernel_rfl) (S₃.node ht₃).1 rfl rfl (Ev.cint (Cmp.eqInt (Tru.bool ?_))))))))
   by_cases hz0:t.np - 1 = 0
   ·rw [if_pos hz0] at hstep;have hbt:(t.np - 1 == 0)= true:=by simpa using hz0
    rw [hbt];have a1':st''.loc "self" = some (.obj am (g''.mapN t.x fun n=>{n with np:=t.np - 1}).i):=by rw [hi3];exact a1
    refine Ex.cons (an.expr (Ev.mcall (Ev.attr (Ev.loc a1' ?_))));refine cH O S₃ ?_;have hrv3:(g''.mapN t.x fun n=>{n with np:=t.np - 1}).rdv = .ref r:=by unfold SG.rdv SG.mapN;rw [hr'']
    rw [hrv3];have hr3:(g''.mapN t.x fun n=>{n with np:=t.np - 1}).rd = some (r,l''):=hr'';refine ⟨.builtin "list.append",_,aa.builtin _,Mth.list PySem.F.slot_list_append PySem.F.type_list_append (ai (S₃.ready hr3)),aU.cons (ah.cons (Ev.loc rfl (ah.nil ?_)))⟩;refine Cal.append (S₃.ready hr3) (lM (small (by change Ar))) ?_
    refine Ex.nil (Ex.nil ?_);have C₄:=S₃.setR (l':=l''++ [t.x]) hr3;have e4:(l''++ [t.x]).map AV.str = l''.map AV.str++ [.str t.x]:=by simp
    rw [e4] at C₄;exact ⟨_,l''++ [t.x],(C''.trans C₃).trans C₄,N''.trans (b8.mapN (f:=fun Z=>t.np - 1)),by rw [hstep];exact Prod.ext hv3 rfl,by simp;change yM,rfl,hpo'',hnf'',hd'',a1,a3,a4⟩
   ·rw [if_neg hz0] at hstep;have hbf:(t.np - 1 == 0)= false:=by simpa using hz0
    rw [hbf];refine Ex.nil (Ex.nil ?_);exact ⟨_,l'',C''.trans C₃,N''.trans (b8.mapN (f:=fun Z=>t.np - 1)),by rw [hstep];exact Prod.ext hv3 rfl,by change A7,hr'',hpo'',hnf'',hd'',a1,a3,a4⟩
  ·obtain ⟨g'',l'',C'',N'',hv'',hlen'',hr'',hpo'',hnf'',hd'',a1,a3,a4⟩:=hJ;rw [lN,List.take_length] at hv'';rw [lN] at hlen'';have S'':=C''.srt;have hi'':g''.i = g.i:=C''.i;refine Ex.nil ?_;have a1':st''.loc "self" = some (.obj am g''.i):=by rw [hi''];exact a1
   refine Ex.cons (an.augAttr (Ev.loc a1' ?_));refine oq O S'' (Ev.cint (IBin.addInt (Set.obj O ap bJ nX S''.inst (Nat.le_of_ble_eq_true rfl) ?_)));refine Ex.nil ?_;have C₅:=S''.setI g''.npo (g''.nf+1);refine ⟨_,l'',C''.trans C₅,N'.trans N'',?_,by change Ay,hr'',hpo'',?_,hd'',a1,a3⟩
   ·rw [List.take_add_one,hq,Option.toList_some,List.foldl_append,← hv',List.foldl_cons,List.foldl_nil];unfold aI;rw [b9 S' hm];exact hv''
   ·show g''.nf+1 = g.nf+((k+1:Nat):Int);rw [hnf''];push_cast;change zI
 ·obtain ⟨g',l',C',N',hv',hlen',hr',hpo',hnf',hd',l1,l3⟩:=hI;rw [lN,List.take_length] at hv';rw [lN] at hnf';refine Ex.nil (Ex.nil ?_);exact h g' _ C' N' (congrArg Prod.fst hv') (by rw [hr',← hv']) hpo' hnf'
end
section
inductive eZ(v:PV):Str→Prop
 | mk (x:Str):(∀s∈aO x v,eZ v s)→eZ v x
structure CP(v:PV)(seen:List Str)(sk:List (Str×Nat)):Prop where
 nd:(sk.map (·.1)).Nodup
 sub:∀p∈sk,p.1∈seen
 dead:∀x∈seen,x∉sk.map (·.1)→eZ v x
 chain:∀(i:Nat) p q,sk[i]? = some p→sk[i+1]? = some q→0 < p.2∧(aO p.1 v)[p.2 - 1]? = some q.1
 old:∀p∈sk,∀(j:Nat) s,j+1 < p.2→(aO p.1 v)[j]? = some s→eZ v s
noncomputable def jA(v:PV)(sk:List (Str×Nat))(x:Str):Prop:=∀p,sk.getLast? = some p→0 < p.2∧(aO p.1 v)[p.2 - 1]? = some x
noncomputable def er(v:PV)(sk:List (Str×Nat)):Prop:=∀p,sk.getLast? = some p→∀(j:Nat) s,j < p.2→(aO p.1 v)[j]? = some s→eZ v s
theorem CP.seenDead{v:PV}{seen:List Str}{sk:List (Str×Nat)}{x:Str}(c:CP v seen sk)(t:jA v sk x)(hx:x∈seen)(hn:x∉sk.map (·.1)):er v sk:=by
 intro p hp j s hj hs;obtain ⟨h0,h1⟩:=t p hp
 by_cases q:j+1 < p.2
 ·exact c.old p (List.mem_of_getLast? hp) j s q hs
 ·have:j = p.2 - 1:=by change xS
  subst this;rw [h1] at hs;cases hs;exact c.dead x hx hn
set_option tactic.hygienic true in
theorem CP.push{v:PV}{seen:List Str}{sk:List (Str×Nat)}{x:Str}(c:CP v seen sk)(t:jA v sk x)(hx:x∉seen):CP v (seen++ [x]) (sk++ [(x,0)])∧er v (sk++ [(x,0)]):=by
 refine ⟨⟨?_,fun p hp=>?_,fun y hy hn=>?_,fun i p q hp hq=>?_,fun p hp j s hj hs=>?_⟩,fun p hp j s hj hs=>?_⟩
 ·rw [List.map_append,List.nodup_append];refine ⟨c.nd,by simp,fun a ha b hb=>?_⟩
  simp at hb;subst hb;rintro rfl;obtain ⟨p,hp,rfl⟩:=mM ha;exact hx (c.sub p hp)
 ·rcases mA hp with hp | hp
  ·exact aL _ (c.sub p hp)
  ·simp at hp;subst hp;exact aR _ (.head _)
 ·rw [List.map_append,List.mem_append,not_or] at hn;rcases mA hy with hy | hy
  ·exact c.dead y hy hn.1
  ·simp at hy;subst hy;exact absurd (.head _) hn.2
 ·rw [List.getElem?_append] at hp hq
  split at hq
  ·rename_i h1;rw [if_pos (by change Nat.lt_of_succ_lt)] at hp
   exact c.chain i p q hp hq
  ·rename_i h1;have hi:i+1 = sk.length:=by
    have:=(gS hq).1;simp at this;change zb
   rw [if_pos (by change zy)] at hp
   have:sk.getLast? = some p:=by rw [List.getLast?_eq_getElem?];rw [show sk.length - 1 = i by change wF];exact hp
   have hq':q =(x,0):=by rw [hi,Nat.sub_self] at hq;simpa using hq.symm
   subst hq';exact t p this
 ·rcases mA hp with hp | hp
  ·exact c.old p hp j s hj hs
  ·simp at hp;subst hp;simp at hj
 ·simp at hp;subst hp;simp at hj
theorem CP.take{v:PV}{seen:List Str}{sk:List (Str×Nat)}{p:Str×Nat}{x:Str}(c:CP v seen (sk++ [p]))(t:er v (sk++ [p]))(hx:(aO p.1 v)[p.2]? = some x):CP v seen (sk++ [(p.1,p.2+1)])∧jA v (sk++ [(p.1,p.2+1)]) x:=by
 have hn:(sk++ [(p.1,p.2+1)]).map (·.1)=(sk++ [p]).map (·.1):=by simp
 refine ⟨⟨by rw [hn];exact c.nd,fun q hq=>?_,fun y hy h=>c.dead y hy (by rw [← hn];exact h),fun i a b ha hb=>?_,fun q hq j s hj hs=>?_⟩,fun q hq=>?_⟩
 ·rcases mA hq with hq | hq
  ·exact c.sub q (aL _ hq)
  ·simp at hq;subst hq;exact c.sub p (aR _ (.head _))
 ·have hl:i+1 < sk.length+1:=by have:=(gS hb).1;simpa using this
  have ha':(sk++ [p])[i]? = some a:=by
   rw [List.getElem?_append_left (by change Nat.lt_of_succ_lt_succ)] at ha ⊢;exact ha
  by_cases q:i+1 < sk.length
  ·refine c.chain i a b ha' ?_;rw [List.getElem?_append_left q] at hb ⊢;exact hb
  ·have hi:i+1 = sk.length:=by change zt
   have:(sk++ [p])[i+1]? = some p:=by rw [hi];simp
   have hb':b =(p.1,p.2+1):=by rw [hi] at hb;simpa using hb.symm
   subst hb';exact c.chain i a p ha' this
 ·rcases mA hq with hq | hq
  ·exact c.old q (aL _ hq) j s hj hs
  ·simp at hq;subst hq;exact t p (by simp) j s (by simpa using hj) hs
 ·simp at hq;subst hq;exact ⟨Nat.succ_pos _,by simpa using hx⟩
theorem CP.pop{v:PV}{seen:List Str}{sk:List (Str×Nat)}{p:Str×Nat}(c:CP v seen (sk++ [p]))(t:er v (sk++ [p]))(hx:(aO p.1 v)[p.2]? = Option.none):CP v seen sk∧er v sk:=by
 have hd:eZ v p.1:= .mk _ fun s hs=>by
  obtain ⟨j,hj,e⟩:=List.mem_iff_getElem.mp hs;have hle:=List.getElem?_eq_none_iff.mp hx;exact t p (by simp) j s (by change Nat.lt_of_lt_of_le) (by rw [gE hj,e])
 have hnd:=c.nd;rw [List.map_append,List.nodup_append] at hnd;refine ⟨⟨hnd.1,fun q hq=>c.sub q (aL _ hq),fun y hy h=>?_,fun i a b ha hb=>?_,fun q hq=>c.old q (aL _ hq)⟩,fun q hq j s hj hs=>?_⟩
 ·by_cases e:y = p.1
  ·rw [e];exact hd
  ·exact c.dead y hy (by rw [List.map_append,List.mem_append];rintro (q | q);exact h q;simp at q;exact e q)
 ·have h1:=(gS ha).1;have h2:=(gS hb).1;exact c.chain i a b (by rw [List.getElem?_append_left h1];exact ha) (by rw [List.getElem?_append_left h2];exact hb)
 ·by_cases e:j+1 < q.2
  ·exact c.old q (aL _ (List.mem_of_getLast? hq)) j s e hs
  ·have hl:sk.length≠0:=by rintro h;rw [List.length_eq_zero_iff] at h;subst h;simp at hq
   rw [List.getLast?_eq_getElem?] at hq;obtain ⟨h0,h1⟩:=c.chain (sk.length - 1) q p (by rw [List.getElem?_append_left (by change A5)];exact hq) (by rw [show sk.length - 1+1 = sk.length by change zu];simp)
   have:j = q.2 - 1:=by change xS
   subst this;rw [h1] at hs;cases hs;exact hd
end
section
theorem aV{st:St}{k:Nat}{ao:AO}:(st.put k ao).hp k = some ao:=if_pos rfl
theorem ay{st:St}{j k:Nat}{ao:AO}(h:j≠k):(st.put k ao).hp j = st.hp j:=if_neg h
structure D4(a b c e:Nat):Prop where
 ab:a≠b
 ac:a≠c
 ae:a≠e
 bc:b≠c
 be:b≠e
 ce:c≠e
noncomputable abbrev SK:=List (Nd×Nat×Nat)
noncomputable def SK.names(sk:SK):List Str:=sk.map (·.1.x)
noncomputable def SK.pv(sk:SK):List (Str×Nat):=sk.map fun t=>(t.1.x,t.2.2)
theorem SK.pv_names(sk:SK):(SK.pv sk).map (·.1)= SK.names sk:=by unfold SK.pv SK.names;rw [List.map_map];rfl
structure CH(hp0 hp:Nat→Option AO)(g:SG)(a b c e:Nat)(sk:SK)(seen:List Str):Prop where
 kp:∀k ao,hp0 k = some ao→hp k = some ao
 ha:hp a = some (.list ((SK.names sk).map .str))
 hb:hp b = some (.list (sk.map fun t=> .nxt t.2.1))
 hc:hp c = some (.set (fun k=>decide (k∈seen)) seen.length)
 he:∃ep,hp e = some (.dict (SK.names sk) (intsFrom 0 sk.length) ep)
 hi:∀t∈sk,t.1∈g.ns∧hp t.2.1 = some (.iter t.1.ls t.2.2)
 nd:(sk.map (·.2.1)).Nodup
 dis:∀t∈sk,t.2.1≠a∧t.2.1≠b∧t.2.1≠c∧t.2.1≠e
 new:∀t∈sk,hp0 t.2.1 = Option.none
 n4:hp0 a = Option.none∧hp0 b = Option.none∧hp0 c = Option.none∧hp0 e = Option.none
theorem eT(n:Nat):intsFrom 0 (n+1)= intsFrom 0 n++ [.int (n:Int)]:=by unfold intsFrom;rw [List.range_succ];simp
theorem jo{α:Type}{k:Str}{v:α}:∀{ks:List Str} {vs:List α},ks.length = vs.length→k∉ks→dJ k (ks++ [k]) (vs++ [v])=(ks,vs)
 | [],[],_,_=>by show (if k = k then _ else _)= _;rw [if_pos rfl]
 | [],_::_,h,_=>by cases h
 | _::_,[],h,_=>by cases h
 | x::ks,y::vs,h,hn=>by
  have hx:¬x = k:=fun e=>hn (e▸ .head _);have ih:=jo (v:=v) (Nat.succ.inj h) (fun q=>hn (.tail _ q));simp only [List.cons_append,eV,hx,if_false,ih]
theorem set_push(seen:List Str)(x:Str):(fun k'=>decide (k'∈seen) || decide (k' = x))= fun k'=>decide (k'∈seen++ [x]):=by
 funext k;rw [Bool.eq_iff_iff];simp
theorem CH.srt{hp0 hp:Nat→Option AO}{g:SG}{a b c e:Nat}{sk:SK}{seen:List Str}(h:CH hp0 hp g a b c e sk seen)(S:bX hp0 g):bX hp g:=S.kp h.kp
theorem CH.push{hp0 hp hp':Nat→Option AO}{g:SG}{a b c e:Nat}{sk:SK}{seen:List Str}{m:Nd}{it:Nat}(D:D4 a b c e)(h:CH hp0 hp g a b c e sk seen)(hm:m∈g.ns)(hit:hp it = Option.none)
  (h1:hp' a = some (.list ((SK.names sk).map .str++ [.str m.x]))) (h2:hp' b = some (.list ((sk.map fun t=> .nxt t.2.1)++ [.nxt it]))) (h3:hp' c = some (.set (fun k=>decide (k∈seen++ [m.x])) (seen.length+1)))
  (h4:∃ep,hp' e = some (.dict (SK.names sk++ [m.x]) (intsFrom 0 sk.length++ [.int sk.length]) ep)) (h5:hp' it = some (.iter m.ls 0)) (h6:∀k,k≠a→k≠b→k≠c→k≠e→k≠it→hp' k = hp k):
  CH hp0 hp' g a b c e (sk++ [(m,it,0)]) (seen++ [m.x]):=by
 have ne:∀{k ao},hp k = some ao→k≠it:=fun e q=>by rw [q,hit] at e;cases e
 refine ⟨fun k ao e=>?_,by unfold SK.names at h1 ⊢;simpa using h1,by simpa using h2,by simpa using h3,?_,fun t ht=>?_,?_,fun t ht=>?_,fun t ht=>?_,h.n4⟩
 ·have hk:=h.kp k ao e;rw [h6 k _ _ _ _ (ne hk)]
  ·exact hk
  all_goals (rintro rfl;first | (rw [h.n4.1] at e;cases e) | (rw [h.n4.2.1] at e;cases e) | (rw [h.n4.2.2.1] at e;cases e) | (rw [h.n4.2.2.2] at e;cases e))
 ·obtain ⟨ep,h4⟩:=h4;refine ⟨ep,?_⟩;have hl:(sk++ [(m,it,0)]).length = sk.length+1:=by simp
  rw [hl,eT];unfold SK.names at h4 ⊢;simpa using h4
 ·rcases mA ht with ht | ht
  ·obtain ⟨q1,q2⟩:=h.hi t ht;obtain ⟨d1,d2,d3,d4⟩:=h.dis t ht;exact ⟨q1,by rw [h6 _ d1 d2 d3 d4 (ne q2)];exact q2⟩
  ·simp at ht;subst ht;exact ⟨hm,h5⟩
 ·rw [List.map_append,List.nodup_append];refine ⟨h.nd,by simp,fun x hx y hy=>?_⟩
  simp at hy;subst hy;obtain ⟨t,ht,rfl⟩:=mM hx;exact ne (h.hi t ht).2
 ·rcases mA ht with ht | ht
  ·exact h.dis t ht
  ·simp at ht;subst ht;obtain ⟨ep,he⟩:=h.he;exact ⟨Ne.symm (ne h.ha),Ne.symm (ne h.hb),Ne.symm (ne h.hc),Ne.symm (ne he)⟩
 ·rcases mA ht with ht | ht
  ·exact h.new t ht
  ·simp at ht;subst ht;cases q:hp0 it with
   | none=>rfl
   | some ao=>rw [h.kp _ _ q] at hit;cases hit
theorem CH.take{hp0 hp:Nat→Option AO}{g:SG}{a b c e:Nat}{sk:SK}{seen:List Str}{m:Nd}{it k:Nat}(h:CH hp0 hp g a b c e (sk++ [(m,it,k)]) seen):
  CH hp0 (fun j=>if j = it then some (.iter m.ls (k+1)) else hp j) g a b c e (sk++ [(m,it,k+1)]) seen:=by
 have hmem:(m,it,k)∈sk++ [(m,it,k)]:=aR _ (.head _);obtain ⟨d1,d2,d3,d4⟩:=h.dis _ hmem;have hnd:=h.nd;rw [List.map_append,List.nodup_append] at hnd;refine ⟨fun j ao q=>?_,?_,?_,?_,?_,fun t ht=>?_,by simpa using h.nd,fun t ht=>?_,fun t ht=>?_,h.n4⟩
 ·show (if j = it then _ else hp j)= some ao;rw [if_neg];exact h.kp j ao q;rintro rfl;have:=h.new _ hmem;dsimp only at this;rw [this] at q;cases q
 ·show (if a = it then _ else hp a)= _;rw [if_neg (Ne.symm d1),h.ha];simp [SK.names]
 ·show (if b = it then _ else hp b)= _;rw [if_neg (Ne.symm d2),h.hb];simp
 ·exact (if_neg (Ne.symm d3)).trans h.hc
 ·obtain ⟨ep,he⟩:=h.he;refine ⟨ep,?_⟩;show (if e = it then _ else hp e)= _;rw [if_neg (Ne.symm d4),he];simp [SK.names]
 ·rcases mA ht with ht | ht
  ·obtain ⟨q1,q2⟩:=h.hi t (aL _ ht);refine ⟨q1,?_⟩;exact (if_neg (hnd.2.2 t.2.1 (List.mem_map_of_mem ht) it (by simp))).trans q2
  ·simp at ht;subst ht;exact ⟨(h.hi _ hmem).1,if_pos rfl⟩
 ·rcases mA ht with ht | ht
  ·exact h.dis t (aL _ ht)
  ·simp at ht;subst ht;exact ⟨d1,d2,d3,d4⟩
 ·rcases mA ht with ht | ht
  ·exact h.new t (aL _ ht)
  ·simp at ht;subst ht;exact h.new (m,it,k) hmem
theorem CH.pop{hp0 hp hp':Nat→Option AO}{g:SG}{a b c e:Nat}{sk:SK}{seen:List Str}{m:Nd}{it k:Nat}(h:CH hp0 hp g a b c e (sk++ [(m,it,k)]) seen)
  (h1:hp' a = some (.list ((SK.names sk).map .str))) (h2:hp' b = some (.list (sk.map fun t=> .nxt t.2.1))) (h4:∃ep,hp' e = some (.dict (SK.names sk) (intsFrom 0 sk.length) ep)) (h6:∀j,j≠a→j≠b→j≠e→j≠it→hp' j = hp j) (D:D4 a b c e):CH hp0 hp' g a b c e sk seen:=by
 have hmem:(m,it,k)∈sk++ [(m,it,k)]:=aR _ (.head _);obtain ⟨d1,d2,d3,d4⟩:=h.dis _ hmem;have hnd:=h.nd;rw [List.map_append,List.nodup_append] at hnd;refine ⟨fun j ao q=>?_,h1,h2,?_,h4,fun t ht=>?_,hnd.1,fun t ht=>h.dis t (aL _ ht),fun t ht=>h.new t (aL _ ht),h.n4⟩
 ·rw [h6 j]
  ·exact h.kp j ao q
  ·rintro rfl;rw [h.n4.1] at q;cases q
  ·rintro rfl;rw [h.n4.2.1] at q;cases q
  ·rintro rfl;rw [h.n4.2.2.2] at q;cases q
  ·rintro rfl;have:=h.new _ hmem;dsimp only at this;rw [this] at q;cases q
 ·rw [h6 c (Ne.symm D.ac) (Ne.symm D.bc) D.ce (Ne.symm d3)];exact h.hc
 ·obtain ⟨q1,q2⟩:=h.hi t (aL _ ht);obtain ⟨e1,e2,e3,e4⟩:=h.dis t (aL _ ht);exact ⟨q1,by rw [h6 _ e1 e2 e4 (hnd.2.2 t.2.1 (List.mem_map_of_mem ht) it (by simp))];exact q2⟩
end
section
noncomputable def cE(f:Str→Nat)(names seen:List Str):Nat:=((names.filter fun x=>decide (x∉seen)).map f).sum
theorem fb(f:Str→Nat){x:Str}{seen:List Str}(hx:x∉seen):∀{names:List Str},names.Nodup→x∈names→cE f names seen = cE f names (seen++ [x])+f x
 | [],_,h=>by cases h
 | y::names,hn,h=>by
  have hn':=List.nodup_cons.mp hn;have same:∀(l:List Str),x∉l→cE f l (seen++ [x])= cE f l seen:=fun l hl=>by
   unfold cE
   congr 2
   refine List.filter_congr fun z hz=>?_;have:z≠x:=fun e=>hl (e▸hz);simp [this]
  unfold cE;rw [List.filter_cons,List.filter_cons];rcases mC h with rfl | h'
  ·have h1:decide (x∉seen)= true:=by simpa using hx
   have h2:decide (x∉seen++ [x])= false:=by simp
   rw [h1,h2];simp only [if_true,Bool.false_eq_true,if_false,List.map_cons,List.sum_cons];have:=same names hn'.1;unfold cE at this;rw [this];with_reducible exact Nat.add_comm _ _
  ·have hyx:y≠x:=fun e=>hn'.1 (e▸h');have ih:=fb f hx hn'.2 h';unfold cE at ih
   by_cases hy:y∈seen
   ·have h1:decide (y∉seen)= false:=by simpa using hy
    have h2:decide (y∉seen++ [x])= false:=by simp [hy]
    rw [h1,h2];simpa using ih
   ·have h1:decide (y∉seen)= true:=by simpa using hy
    have h2:decide (y∉seen++ [x])= true:=by simp [hy,hyx]
    rw [h1,h2];simp only [if_true,List.map_cons,List.sum_cons];rw [ih];change A8
theorem qd(names:List Str):cE (fun Z=>1) names [] = names.length:=by
 unfold cE;rw [List.filter_eq_self.mpr (by simp)]
 induction names with
 | nil=>rfl
 | cons x l ih=>rw [List.map_cons,List.sum_cons,ih,List.length_cons];with_reducible exact Nat.add_comm _ _
noncomputable def rem(v:PV)(names seen:List Str)(sk:List (Str×Nat)):Nat:=cE (fun x=>(aO x v).length) names seen+(sk.map fun p=>(aO p.1 v).length - p.2).sum
theorem sP{v:PV}{names seen:List Str}{sk:List (Str×Nat)}{x:Str}(hn:names.Nodup)(hx:x∈names)(hs:x∉seen):rem v names (seen++ [x]) (sk++ [(x,0)])= rem v names seen sk:=by
 unfold rem;rw [fb _ hs hn hx,List.map_append,List.sum_append];simp;change zP
theorem sb{v:PV}{names seen:List Str}{sk:List (Str×Nat)}{p:Str×Nat}(h:p.2 < (aO p.1 v).length):rem v names seen (sk++ [(p.1,p.2+1)])+1 = rem v names seen (sk++ [p]):=by
 unfold rem;rw [List.map_append,List.sum_append,List.map_append,List.sum_append];simp;change zv
theorem tQ{v:PV}{names seen:List Str}{sk:List (Str×Nat)}{p:Str×Nat}:rem v names seen sk≤rem v names seen (sk++ [p]):=by
 unfold rem;rw [List.map_append,List.sum_append];change zD
theorem qS{names seen:List Str}{x:Str}(hn:names.Nodup)(hx:x∈names)(hs:x∉seen)(h:seen.length+cE (fun Z=>1) names seen≤names.length):(seen++ [x]).length+cE (fun Z=>1) names (seen++ [x])≤names.length:=by
 rw [fb _ hs hn hx] at h;simp;change AZ
theorem an.mono{G:Gd}{cx:Cx}{fm:Fm}{X:Value→St→Prop}{s:Stmt}{st:St}{Q Q':AF→St→Prop}(x:an G cx fm X s st Q')(h:∀f st,Q' f st→Q f st):an G cx fm X s st Q:=J.mono x h fun Z Y z=>z
theorem qi{sk:SK}{i:Nat}{x:Str}(h:(SK.names sk)[i]? = some x):((SK.pv sk).map (·.1))[i]? = some x:=by rw [SK.pv_names];exact h
theorem bw:∀{l s:List Str},l.Nodup→(∀x∈l,x∈s)→l.length≤s.length:=by
 intro zl
 induction zl with
 | nil=>
  intro _ _ _;exact Nat.zero_le _
 | cons x l ih=>
  intro s hn h;have hn':=List.nodup_cons.mp hn;have hx:=h x (.head _);have:=ih (s:=s.erase x) hn'.2 fun y hy=>(List.mem_erase_of_ne (fun (e:y = x)=>hn'.1 (by rw [← e];exact hy))).mpr (h y (.tail _ hy))
  rw [List.length_erase_of_mem hx] at this;have hpos:0 < s.length:=List.length_pos_of_mem hx;simp only [List.length_cons];change yP
theorem sp{n:Nat}(h:n≤2000):n≤sizeLine:=lT h (by rw [sizeLine_eq];decide)
theorem kr{st:St}{i j:Nat}(h:j≠i):(st.del i).hp j = st.hp j:=if_neg h
theorem kc{α:Type}:∀(l:List α),l = []∨∃r x,l = r++ [x]:=by
 intro zl
 induction zl with
 | nil=>
  exact .inl rfl
 | cons y l ih=>
  rcases ih with rfl | ⟨r,x,rfl⟩
  ·exact .inr ⟨[],y,rfl⟩
  ·exact .inr ⟨y::r,x,rfl⟩
theorem uL{x:Str}:∀{l:List Str},x∈l→∃i:Nat,l[i]? = some x
 | _,h=>by obtain ⟨i,hi,e⟩:=List.mem_iff_getElem.mp h;exact ⟨i,by rw [gE hi,e]⟩
theorem kC{n i:Nat}(h:i < n):(intsFrom 0 n)[i]? = some (.int (i:Int)):=by unfold intsFrom;simp [h]
variable {w:World}{h₀:Heap}{os:OsState}{mg mb:Str→Option Value}{cx:Cx}{fm:Fm}{X:Value→St→Prop}{st:St}{Q:AV→St→Prop}
structure uP(g:SG)(a b c e:Nat)(l:Str→Option AV):Prop where
 p1:l "n2i" = some (.ref g.d)
 p2:l "stack" = some (.ref a)
 p3:l "itstack" = some (.ref b)
 p4:l "seen" = some (.ref c)
 p5:l "node2stacki" = some (.ref e)
inductive zJ(hp0:Nat→Option AO)(g:SG)(a b c e:Nat)(k:Nat)(st':St):Prop
 | mk (seen:List Str) (h1:CH hp0 st'.hp g a b c e [] seen) (h2:CP g.pv seen []) (h3:∀(j:Nat) y,j < k→(g.pv.map (·.1))[j]? = some y→y∈seen) (h4:∀y∈seen,y∈g.pv.map (·.1)) (h5:seen.length+cE (fun _=>1) (g.pv.map (·.1)) seen≤(g.pv.map (·.1)).length) (h6:uP g a b c e st'.loc)
inductive AY(hp0:Nat→Option AO)(g:SG)(a b c e:Nat)(seen₀:List Str)(root:Str)(N:Nat)(st':St):Prop
 | mk (seen:List Str) (sk:SK) (x:Str) (h1:CH hp0 st'.hp g a b c e sk seen) (h2:CP g.pv seen (SK.pv sk)) (h3:jA g.pv (SK.pv sk) x) (h4:x∈g.pv.map (·.1)) (h5:sk = []→x = root) (h6:∀t,sk[0]? = some t→t.1.x = root) (h7:∀y∈seen,y∈g.pv.map (·.1)) (h8:∀y∈seen₀,y∈seen)
  (h9:seen.length+cE (fun _=>1) (g.pv.map (·.1)) seen≤(g.pv.map (·.1)).length) (h10:rem g.pv (g.pv.map (·.1)) seen (SK.pv sk)= N) (h11:uP g a b c e st'.loc) (h12:st'.loc "node" = some (.str x))
structure yH(hp0:Nat→Option AO)(g:SG)(a b c e:Nat)(seen₀:List Str)(root:Str)(N:Nat)(st':St)(seen':List Str)(sk':SK):Prop where
 h1:CH hp0 st'.hp g a b c e sk' seen'
 h2:CP g.pv seen' (SK.pv sk')
 h3:er g.pv (SK.pv sk')
 h4:root∈seen'
 h5:∀t,sk'[0]? = some t→t.1.x = root
 h6:∀y∈seen',y∈g.pv.map (·.1)
 h7:∀y∈seen₀,y∈seen'
 h8:seen'.length+cE (fun _=>1) (g.pv.map (·.1)) seen'≤(g.pv.map (·.1)).length
 h9:rem g.pv (g.pv.map (·.1)) seen' (SK.pv sk')≤N
 h10:uP g a b c e st'.loc
structure Ring(v:PV)(names:List Str)(sk:List (Str×Nat))(x:Str)(i:Nat):Prop where
 seen:∃seen,CP v seen sk
 top:jA v sk x
 root:∃(k:Nat) (r:Str),names[k]? = some r∧(∀(j:Nat) (y:Str),j < k→names[j]? = some y→eZ v y)∧(sk.map (·.1))[0]? = some r
 at_:(sk.map (·.1))[i]? = some x
 len:sk.length≤1000
set_option tactic.hygienic true in
theorem lU{g:SG}{n:Nat}(O:(gd w h₀ os mg mb).Ok)(hc:cx.calm = true)(hn:n+1≤cx.n)(S:bX st.hp g)(hz:g.ns.length≤1000)(hB:∀m∈g.ns,m.sc.length≤1000)(hcl:∀m∈g.ns,∀s∈m.sc,s∈g.pv.map (·.1))
  (h0:(∀x∈g.pv.map (·.1),eZ g.pv x)→∀hp',(∀k ao,st.hp k = some ao→hp' k = some ao)→Q .none ⟨st.loc,hp'⟩)
  (h1:∀sk x i hp',Ring g.pv (g.pv.map (·.1)) sk x i→(∀k ao,st.hp k = some ao→hp' k = some ao)→Q (.lst (((sk.map (·.1)).drop i++ [x]).map .str)) ⟨st.loc,hp'⟩):
  aH (gd w h₀ os mg mb) cx fm X iA [.obj am g.i] st Q:=by
 have hnames:(g.pv.map (·.1)).Nodup:=by rw [pv_names];exact S.names
 refine Fun.go (n:=n) O (cA.of O rfl rfl rfl) hn (Bind.p1 (fun Z=>rfl)) fun env he=>?_;have hfr:=he.fr;clear he;refine Ex.cons (an.asg (Ev.attr (Ev.loc rfl (eu O S (Asg.name (.inl rfl) ?_)))) rfl rfl rfl);refine Ex.cons (an.asg (Ev.listM (ah.nil ⟨by simp,fun a ha=>Asg.name (.inl rfl) ?_⟩)) rfl rfl rfl)
 refine Ex.cons (an.asg (Ev.listM (ah.nil ⟨by simp,fun b hb=>Asg.name (.inl rfl) ?_⟩)) rfl rfl rfl)
 refine Ex.cons (an.asg (Ev.call (Ev.boot (v:= .type "set") O ⟨_,rfl,aa.type _,aU.nil (Cal.set0 fun c hc'=>Asg.name (.inl rfl) ?_)⟩ (by kernel_rfl) (by kernel_rfl))) rfl rfl rfl)
 refine Ex.cons (an.asg (Ev.dict0 fun e he'=>Asg.name (.inl rfl) ?_) rfl rfl rfl);have a0:st.hp a = Option.none:=ha;have hba:b≠a:=fun q=>by subst q;exact absurd (aV.symm.trans hb) nofun
 have b0:st.hp b = Option.none:=(ay hba).symm.trans hb;have hcb:c≠b:=fun q=>by subst q;exact absurd (aV.symm.trans hc') nofun
 have hca:c≠a:=fun q=>by subst q;exact absurd (((ay (Ne.symm hba)).trans aV).symm.trans hc') nofun
 have c0:st.hp c = Option.none:=((ay hcb).trans (ay hca)).symm.trans hc';have hec:e≠c:=fun q=>by subst q;exact absurd (aV.symm.trans he') nofun
 have heb:e≠b:=fun q=>by subst q;exact absurd (((ay (Ne.symm hcb)).trans aV).symm.trans he') nofun
 have hea:e≠a:=fun q=>by subst q;exact absurd (((ay (Ne.symm hca)).trans ((ay (Ne.symm hba)).trans aV)).symm.trans he') nofun
 have e0:st.hp e = Option.none:=((ay hec).trans ((ay heb).trans (ay hea))).symm.trans he';have D:D4 a b c e:=⟨Ne.symm hba,Ne.symm hca,Ne.symm hea,Ne.symm hcb,Ne.symm heb,Ne.symm hec⟩;have hdict:=S.dict;rw [← pv_names] at hdict;refine Ex.cons (an.for_ hc (Ev.loc rfl ⟨(g.pv.map (·.1)).map .str,_,Iter.keys O (l:=g.ns.map fun n=> .ref n.id) (ep:=g.ep),zJ st.hp g a b c e,?_,fun k st' hI=>?_,fun k p st' hp hI=>?_,fun st' hI=>?_⟩))
 ·refine ⟨[],⟨fun k ao q=>?_,?_,?_,?_,⟨0,?_⟩,fun t ht=>(by cases ht),List.nodup_nil,fun t ht=>(by cases ht),fun t ht=>(by cases ht),a0,b0,c0,e0⟩,⟨List.nodup_nil,fun p hp=>(by cases hp),fun x hx=>(by cases hx),fun i p q hp=>(by simp at hp),fun p hp=>(by cases hp)⟩,fun j y hj=>(by with_reducible exact (uG ‹_›).elim),fun y hy=>(by cases hy),?_,rfl,rfl,rfl,rfl,rfl⟩
  ·have k1:k≠a:=fun z=>by rw [z,a0] at q;cases q
   have k2:k≠b:=fun z=>by rw [z,b0] at q;cases q
   have k3:k≠c:=fun z=>by rw [z,c0] at q;cases q
   have k4:k≠e:=fun z=>by rw [z,e0] at q;cases q
   exact (if_neg k4).trans ((if_neg k3).trans ((if_neg k2).trans ((if_neg k1).trans q)))
  ·exact (if_neg D.ae).trans ((if_neg D.ac).trans ((if_neg D.ab).trans (if_pos rfl)))
  ·exact (if_neg D.be).trans ((if_neg D.bc).trans (if_pos rfl))
  ·show (if c = e then _ else if c = c then _ else _)= _;rw [if_neg D.ce,if_pos rfl];simp
  ·exact if_pos rfl
  ·rw [qd];simp
 ·obtain ⟨seen,H,_⟩:=hI;exact H.kp _ _ hdict
 ·obtain ⟨seen₀,H₀,P₀,hj₀,hs₀,hb₀,L₀⟩:=hI;rw [gM] at hp;obtain ⟨root,hroot,rfl⟩:=oM hp;have hrm:root∈g.pv.map (·.1):=mG hroot;have hdk:∀(j:Nat) y,j < k→(g.pv.map (·.1))[j]? = some y→eZ g.pv y:=fun j y hj hy=>P₀.dead y (hj₀ j y hj hy) (by simp)
  have hscN:∀x∈g.pv.map (·.1),∀(j:Nat) s,(aO x g.pv)[j]? = some s→s∈g.pv.map (·.1):=fun x hx j s hs=>by
   obtain ⟨m,hm,rfl⟩:=eB hx;rw [b9 S hm] at hs;exact hcl m hm s (mG hs)
  refine Asg.name (.inl rfl) ?_;refine Ex.cons (an.if_ (bj.cmp (Ev.loc rfl (Ev.loc L₀.p4 (Cmp.inSet H₀.hc (Tru.bool ?_))))))
  by_cases hrs:root∈seen₀
  ·rw [decide_eq_true hrs];refine Ex.cons (an.cont ?_);refine ⟨seen₀,H₀,P₀,fun j y hj hy=>?_,hs₀,hb₀,⟨L₀.p1,L₀.p2,L₀.p3,L₀.p4,L₀.p5⟩⟩
   by_cases q:j < k
   ·exact hj₀ j y q hy
   ·have:j = k:=by change wj
    subst this;rw [hroot] at hy;cases hy;exact hrs
  rw [decide_eq_false hrs];refine Ex.nil ?_;refine Ex.cons (an.while_ (AY st.hp g a b c e seen₀ root) _
   ⟨seen₀,[],root,H₀,P₀,fun p hp=>by simp [SK.pv] at hp,hrm,fun Z=>rfl,fun t ht=>by simp at ht,hs₀,fun y hy=>hy,hb₀,rfl,⟨L₀.p1,L₀.p2,L₀.p3,L₀.p4,L₀.p5⟩,rfl⟩ fun N st₁ hW=>?_)
  obtain ⟨seen,sk,x,H,P,T,hx,hx0,hsk0,hsn,hss,hbd,hrem,L,hnode⟩:=hW;refine bj.plain (Ev.cbool (Tru.bool ?_));show Ex _ _ _ _ _ _ _;have hlen:sk.length≤seen.length:=by
   have h1:(SK.names sk).length = sk.length:=by simp [SK.names]
   have hnd:(SK.names sk).Nodup:=by rw [← SK.pv_names];exact P.nd
   have hsub:∀y∈SK.names sk,y∈seen:=fun y hy=>by
    rw [← SK.pv_names] at hy;obtain ⟨p,hp,rfl⟩:=mM hy;exact P.sub p hp
   rw [← h1];exact bw hnd hsub
  have hnl:(g.pv.map (·.1)).length≤1000:=by rw [pv_names,lN];exact hz
  have hs1000:seen.length≤1000:=by change Am
  have S₁:=H.srt S;refine Ex.cons (an.mono (Q':=fun f st₂=>(f = .next∧∃seen' sk',yH st.hp g a b c e seen₀ root N st₂ seen' sk')∨∃sk x i,f = .ret (.lst (((sk.map (·.1)).drop i++ [x]).map .str))∧Ring g.pv (g.pv.map (·.1)) sk x i∧∀k ao,st.hp k = some ao→st₂.hp k = some ao) ?_ ?_)
  ·-- the node is looked at
   refine an.if_ (bj.cmp (Ev.loc hnode (Ev.loc L.p4 (Cmp.inSet H.hc (Tru.bool ?_)))))
   by_cases hxs:x∈seen
   ·rw [decide_eq_true hxs];obtain ⟨ep,he⟩:=H.he;refine Ex.cons (an.if_ (bj.cmp (Ev.loc hnode (Ev.loc L.p5 (Cmp.inDict O (bv he) (Tru.bool ?_))))))
    by_cases hxk:x∈SK.names sk
    ·rw [decide_eq_true hxk];obtain ⟨i,hi⟩:=uL hxk;have hil:i < sk.length:=by have:=(gS hi).1;simpa [SK.names] using this
     refine Ex.cons (an.ret (Ev.binop (Ev.sub (Ev.loc L.p2 (Ev.slice (b4.some (Ev.sub (Ev.loc L.p5 (Ev.loc hnode (Sub.dct (bv he) hi (kC hil) ⟨_,rfl,b4.none (b4.none ?_)⟩))))))))));refine Sub.sliceF (ops:=fun o i=> [i,o]) (ai H.ha) (by simp) (by rw [lN];exact small (by simp [SK.names];change lT)) ?_ (by intro _ _;rfl)
     refine Ev.listF (ah.cons (Ev.loc hnode (ah.nil ⟨by simp [sizeLine_eq],?_⟩)))
     rw [pick_from];refine Bin.addListF rfl rfl (by simp [SK.names];exact sp (lT (Nat.add_le_add_right (lT (Nat.sub_le _ _) (lT hlen hs1000)) 1) (by decide))) ?_
     refine .inr ⟨SK.pv sk,x,i,?_,⟨⟨seen,P⟩,T,⟨k,root,hroot,hdk,?_⟩,qi hi,by simp [SK.pv];change lT⟩,H.kp⟩
     ·rw [SK.pv_names];simp
     ·rw [SK.pv_names];cases hsk:sk with
      | nil=>rw [hsk] at hil;simp at hil
      | cons t r=>have:=hsk0 t (by rw [hsk];rfl);simp [SK.names,this]
    ·rw [decide_eq_false hxk];refine Ex.nil (Ex.nil (.inl ⟨rfl,seen,sk,H,P,P.seenDead T hxs (by rw [SK.pv_names];exact hxk),?_,hsk0,hsn,hss,hbd,qE hrem,L⟩))
     cases hsk:sk with
     | nil=>rw [← hx0 hsk];exact hxs
     | cons t r=>exact (hsk0 t (by rw [hsk];rfl))▸P.sub (t.1.x,t.2.2) (by rw [hsk];exact .head _)
   ·rw [decide_eq_false hxs];obtain ⟨m,hm,hmx⟩:=eB hx;subst hmx;refine Ex.cons (an.expr (Ev.mcall (Ev.loc L.p4 ⟨_,_,aa.builtin _,Mth.setAdd H.hc,aU.cons (ah.cons (Ev.loc hnode (ah.nil ?_)))⟩)));refine Cal.setAdd H.hc (by change z8) ?_
    have hb1:=(ay (st:=st₁) (k:=c) (ao:= .set (fun k'=>decide (k'∈seen) || decide (k' = m.x)) (if decide (m.x∈seen) then seen.length else seen.length+1)) D.bc).trans H.hb;refine Ex.cons (an.expr (Ev.mcall (Ev.loc L.p3 ⟨_,_,aa.builtin _,Mth.list PySem.F.slot_list_append PySem.F.type_list_append (ai hb1),aU.cons (ah.cons (Ev.attr (Ev.call (Ev.boot (v:= .builtin "iter") O ⟨_,rfl,aa.builtin _,aU.cons (ah.cons (Ev.attr (Ev.sub (Ev.loc L.1 (Ev.loc hnode ?_)))))⟩ (by kernel_rfl) (by kernel_rfl)))))⟩)))
    have hcs:(if decide (m.x∈seen)= true then seen.length else seen.length+1)= seen.length+1:=by rw [decide_eq_false hxs];rfl
    have S₂:bX (st₁.put c (.set (fun k'=>decide (k'∈seen) || decide (k' = m.x)) (if decide (m.x∈seen)= true then seen.length else seen.length+1))).hp g:=
     S.kp fun k ao q=>(ay (fun z=>by rw [z,H.n4.2.2.1] at q;cases q)).trans (H.kp k ao q)
    refine Sub.node S₂ hm (Get.slot O aN eC (by kernel_rfl) (S₂.node hm).1 rfl rfl (ah.nil (Cal.iter (S₂.node hm).2 fun it hit=>Get.next aV (ah.nil ?_))))
    have hitc:it≠c:=fun z=>by rw [z] at hit;exact absurd (aV.symm.trans hit) nofun
    have hit1:st₁.hp it = Option.none:=(ay hitc).symm.trans hit;have nit:∀{j ao},st₁.hp j = some ao→j≠it:=fun q z=>by rw [z,hit1] at q;cases q
    obtain ⟨ep,he⟩:=H.he;have hb2:=(ay (ao:= .iter m.ls 0) (nit H.hb)).trans hb1;refine Cal.append hb2 (lM (small (by change lT))) ?_
    have ha3:=((ay (ao:= .list ((sk.map fun t=>AV.nxt t.2.1)++ [.nxt it])) D.ab).trans ((ay (ao:= .iter m.ls 0) (nit H.ha)).trans (ay (st:=st₁) (ao:= .set (fun k'=>decide (k'∈seen) || decide (k' = m.x)) (if decide (m.x∈seen)= true then seen.length else seen.length+1)) D.ac))).trans H.ha;have he3:=((ay (ao:= .list ((sk.map fun t=>AV.nxt t.2.1)++ [.nxt it])) (Ne.symm D.be)).trans ((ay (ao:= .iter m.ls 0) (nit he)).trans (ay (st:=st₁) (ao:= .set (fun k'=>decide (k'∈seen) || decide (k' = m.x)) (if decide (m.x∈seen)= true then seen.length else seen.length+1)) (Ne.symm D.ce)))).trans he;refine Ex.cons (an.asg (Ev.call (Ev.boot (v:= .builtin "len") O ⟨_,rfl,aa.builtin _,aU.cons (ah.cons (Ev.loc L.p2 (ah.nil (Cal.len (ai ha3) (by rw [lN];exact small (by simp [SK.names];change lT)) ?_))))⟩ (by kernel_rfl) (by kernel_rfl))) rfl rfl rfl)
    refine Asg.subDict (Ev.loc L.p5 ⟨e,rfl,Ev.loc hnode ⟨m.x,_,_,ep,rfl,he3,by simp [SK.names];exact small (by change lT),fun ep'=>?_⟩⟩)
    have hxk:m.x∉SK.names sk:=fun q=>by
     rw [← SK.pv_names] at q;obtain ⟨p,hp,e'⟩:=mM q;exact hxs (e'▸P.sub p hp)
    have hd:dput (SK.names sk) (intsFrom 0 sk.length) m.x (AV.int (((SK.names sk).map AV.str).length:Nat))=(SK.names sk++ [m.x],intsFrom 0 sk.length++ [.int sk.length]):=by unfold dput;rw [if_neg hxk];simp [SK.names]
    rw [hd];have ha4:=(ay (ao:= .dict (SK.names sk++ [m.x]) (intsFrom 0 sk.length++ [.int sk.length]) ep') D.ae).trans ha3;refine Ex.cons (an.expr (Ev.mcall (Ev.loc L.p2 ⟨_,_,aa.builtin _,Mth.list PySem.F.slot_list_append PySem.F.type_list_append (ai ha4),aU.cons (ah.cons (Ev.loc hnode (ah.nil (Cal.append ha4 (by rw [lN];exact small (by simp [SK.names];change lT)) ?_))))⟩)))
    refine Ex.nil ?_;obtain ⟨P',T'⟩:=P.push T hxs;have hitd:it≠a∧it≠b∧it≠c∧it≠e:=⟨Ne.symm (nit H.ha),Ne.symm (nit H.hb),hitc,Ne.symm (nit he)⟩;have hpv:SK.pv (sk++ [(m,it,0)])= SK.pv sk++ [(m.x,0)]:=by simp [SK.pv]
    refine .inl ⟨rfl,seen++ [m.x],sk++ [(m,it,0)],⟨H.push D hm hit1 aV ?_ ?_ ⟨ep',?_⟩ ?_ ?_,by rw [hpv];exact P',by rw [hpv];exact T',?_,?_,?_,fun y hy=>aL _ (hss y hy),qS hnames hx hxs hbd,?_,L⟩⟩
    ·exact (ay (Ne.symm D.ab)).trans ((ay D.be).trans aV)
    ·refine (ay (Ne.symm D.ac)).trans ((ay D.ce).trans ((ay (Ne.symm D.bc)).trans ((ay (Ne.symm hitc)).trans ?_)));rw [aV,hcs,set_push]
    ·exact (ay (Ne.symm D.ae)).trans aV
    ·exact (ay hitd.1).trans ((ay hitd.2.2.2).trans ((ay hitd.2.1).trans aV))
    ·intro j j1 j2 j3 j4 j5;exact (ay j1).trans ((ay j4).trans ((ay j2).trans ((ay j5).trans (ay j3))))
    ·cases hsk:sk with
     | nil=>rw [← hx0 hsk];exact aR _ (.head _)
     | cons t r=>exact aL _ ((hsk0 t (by rw [hsk];rfl))▸P.sub (t.1.x,t.2.2) (by rw [hsk];exact .head _))
    ·intro t ht;cases hsk:sk with
     | nil=>rw [hsk] at ht;simp at ht;subst ht;exact hx0 hsk
     | cons t' r=>rw [hsk] at ht;simp at ht;subst ht;exact hsk0 t' (by rw [hsk];rfl)
    ·intro y hy;rcases mA hy with hy | hy
     ·exact hsn y hy
     ·simp at hy;subst hy;exact hx
    ·rw [hpv,sP hnames hx hxs];exact qE hrem
  ·rintro f st₂ (⟨rfl,hPB⟩ | ⟨sk',x',i',rfl,hR,hkp⟩)
   rotate_left
   ·exact h1 sk' x' i' _ hR hkp
   obtain ⟨seenB,skB,hPB⟩:=hPB;refine Ex.cons (an.while_ (fun M st₃=>∃seen' sk',yH st.hp g a b c e seen₀ root N st₃ seen' sk'∧sk'.length = M) skB.length ?_ fun M st₃ hV=>?_)
   ·exact ⟨seenB,skB,hPB,rfl⟩
   obtain ⟨seen',sk',⟨H',P',T',hr',h0',hsn',hss',hbd',hrem',L'⟩,hM⟩:=hV;have S':=H'.srt S;have hlen':sk'.length≤1000:=by
    have h1:(SK.names sk').length = sk'.length:=by simp [SK.names]
    have hnd:(SK.names sk').Nodup:=by rw [← SK.pv_names];exact P'.nd
    have hsub:∀y∈SK.names sk',y∈seen':=fun y hy=>by
     rw [← SK.pv_names] at hy;obtain ⟨p,hp,rfl⟩:=mM hy;exact P'.sub p hp
    exact lT (qE h1.symm) (lT (bw hnd hsub) (lT (lT (Nat.le_add_right _ _) hbd') hnl))
   refine bj.plain (Ev.loc L'.p2 (Tru.list (ai H'.ha) (lM (small (by simpa [SK.names] using hlen'))) ?_))
   rcases kc sk' with rfl | ⟨sk₁,⟨m,it,kk⟩,rfl⟩
   ·-- the stack is empty
    refine Ex.cons (an.brk ?_);refine Ex.nil ?_;refine ⟨seen',H',P',fun j y hj hy=>?_,hsn',hbd',L'⟩
    by_cases q:j < k
    ·exact hss' y (hj₀ j y q hy)
    ·have:j = k:=by change wj
     subst this;rw [hroot] at hy;cases hy;exact hr'
   ·have hne:(!((SK.names (sk₁++ [(m,it,kk)])).map AV.str).isEmpty)= true:=by simp [SK.names]
    rw [hne];have hmem:(m,it,kk)∈sk₁++ [(m,it,kk)]:=aR _ (.head _);obtain ⟨hm,hit⟩:=H'.hi _ hmem;obtain ⟨d1,d2,d3,d4⟩:=H'.dis _ hmem;have hpv:SK.pv (sk₁++ [(m,it,kk)])= SK.pv sk₁++ [(m.x,kk)]:=by simp [SK.pv]
    rw [hpv] at P' T' hrem';have hsc:aO m.x g.pv = m.sc:=b9 S hm;have hl1:(sk₁.map fun t=>AV.nxt t.2.1).length = sk₁.length:=by simp
    refine Ex.cons (an.try_ (cls:= .type "StopIteration") (c:= .type "StopIteration") ⟨hfr,_,rfl⟩ (Load.builtin O rfl (mg_none_of O.K O.gl (by kernel_rfl)) ((O.boot _ (by decide)).trans (by kernel_rfl))) Catch.stop ?_)
    refine Ex.cons (an.asg (Ev.callNext hc (Ev.sub (Ev.loc L'.p3 (Ev.neg (Ev.cint ⟨1,rfl,?_⟩))))) rfl rfl rfl);have hbl:((sk₁++ [(m,it,kk)]).map fun t=>AV.nxt t.2.1)=(sk₁.map fun t=>AV.nxt t.2.1)++ [.nxt it]:=by simp
    have hal:(SK.names (sk₁++ [(m,it,kk)])).map AV.str =(SK.names sk₁).map AV.str++ [.str m.x]:=by simp [SK.names]
    have hb':=H'.hb;rw [hbl] at hb';have ha':=H'.ha;rw [hal] at ha';have hl2:sk₁.length+1≤1000:=by simpa using hlen'
    have hidx:idx (-1) ((sk₁.map fun t=>AV.nxt t.2.1)++ [AV.nxt it]).length =(sk₁.length:Int):=by unfold idx;simp;change vh
    refine Sub.lst (ai hb') (by rw [hidx];change zO) (x:= .nxt it) (by rw [hidx];simp) (by simp;exact small hl2) ?_
    refine ⟨it,m.ls,kk,m.sc.map .str,rfl,hit,(S'.node hm).2,by rw [lN];exact small (hB m hm),fun y hy=>?_,fun hno=>?_⟩
    ·-- one more
     rw [gM] at hy;obtain ⟨s,hs,rfl⟩:=oM hy;refine Asg.name (.inl rfl) ?_;refine Ex.cons (an.brk ?_);refine Ex.nil ?_;obtain ⟨P₄,T₄⟩:=P'.take (p:=(m.x,kk)) (x:=s) T' (by rw [hsc];exact hs)
     have hpv4:SK.pv (sk₁++ [(m,it,kk+1)])= SK.pv sk₁++ [(m.x,kk+1)]:=by simp [SK.pv]
     have hrt:rem g.pv (g.pv.map (·.1)) seen' (SK.pv sk₁++ [(m.x,kk+1)])+1 = rem g.pv (g.pv.map (·.1)) seen' (SK.pv sk₁++ [(m.x,kk)]):=sb (p:=(m.x,kk)) (by rw [hsc];exact (gS hs).1)
     refine ⟨_,?_,seen',sk₁++ [(m,it,kk+1)],s,H'.take,by rw [hpv4];exact P₄,by rw [hpv4];exact T₄,hscN m.x (by rw [pv_names];exact List.mem_map_of_mem hm) kk s (by rw [hsc];exact hs),fun q=>by simp at q,fun t ht=>?_,hsn',hss',hbd',rfl,⟨L'.p1,L'.p2,L'.p3,L'.p4,L'.p5⟩,rfl⟩
     ·rw [hpv4];change A9
     ·cases hsk:sk₁ with
      | nil=>rw [hsk] at ht;simp at ht;subst ht;exact h0' (m,it,kk) (by rw [hsk];rfl)
      | cons t' r=>rw [hsk] at ht;simp at ht;subst ht;exact h0' t' (by rw [hsk];rfl)
    ·-- none left
     refine ⟨rfl,?_⟩;have hno':(aO m.x g.pv)[kk]? = Option.none:=by
      rw [hsc];rw [gM] at hno;cases q:m.sc[kk]? with
      | none=>rfl
      | some z=>rw [q] at hno;cases hno
     obtain ⟨P₄,T₄⟩:=P'.pop (p:=(m.x,kk)) T' hno';obtain ⟨ep,he⟩:=H'.he;have hnx:m.x∉SK.names sk₁:=by
      have:=P'.nd;rw [List.map_append,List.nodup_append,SK.pv_names] at this;exact fun q=>this.2.2 m.x q m.x (by simp) rfl
     have hnk:SK.names (sk₁++ [(m,it,kk)])= SK.names sk₁++ [m.x]:=by simp [SK.names]
     have hli:(sk₁++ [(m,it,kk)]).length = sk₁.length+1:=by simp
     rw [hnk,hli,eT] at he;have ha₅:(st₃.del it).hp a = some (.list ((SK.names sk₁).map AV.str++ [.str m.x])):=(kr (Ne.symm d1)).trans ha';have hb₅:(st₃.del it).hp b = some (.list ((sk₁.map fun t=>AV.nxt t.2.1)++ [.nxt it])):=(kr (Ne.symm d2)).trans hb';have he₅:(st₃.del it).hp e = some (.dict (SK.names sk₁++ [m.x]) (intsFrom 0 sk₁.length++ [.int sk₁.length]) ep):=(kr (Ne.symm d4)).trans he;have hd:dJ m.x (SK.names sk₁++ [m.x]) (intsFrom 0 sk₁.length++ [AV.int sk₁.length])=(SK.names sk₁,intsFrom 0 sk₁.length):=jo (by simp [SK.names,intsFrom]) hnx
     refine Ex.cons (an.delDict (Ev.loc L'.p5 ⟨e,rfl,Ev.mcall (Ev.loc L'.p2 ⟨_,_,aa.builtin _,Mth.list PySem.F.slot_list_pop PySem.F.type_list_pop (ai ha₅),aU.nil (Cal.popLast ha₅ (by simp [SK.names];exact small hl2) ⟨m.x,_,_,ep,rfl,(ay (Ne.symm D.ae)).trans he₅,by simp [SK.names];exact small hl2,aR _ (.head _),fun ep'=>?_⟩)⟩)⟩))
     rw [hd];have hb₆:=((ay (ao:= .dict (SK.names sk₁) (intsFrom 0 sk₁.length) ep') D.be).trans (ay (st:=st₃.del it) (ao:= .list ((SK.names sk₁).map AV.str)) (Ne.symm D.ab))).trans hb₅;refine Ex.cons (an.expr (Ev.mcall (Ev.loc L'.p3 ⟨_,_,aa.builtin _,Mth.list PySem.F.slot_list_pop PySem.F.type_list_pop (ai hb₆),aU.nil (Cal.popLast hb₆ (by simp;exact small hl2) ?_)⟩)))
     refine Ex.nil (Ex.nil ?_);refine ⟨sk₁.length,by rw [← hM];simp,seen',sk₁,⟨H'.pop ?_ aV ⟨ep',?_⟩ ?_ D,P₄,T₄,hr',fun t ht=>?_,hsn',hss',hbd',lT tQ hrem',L'⟩,rfl⟩
     ·exact (ay D.ab).trans ((ay D.ae).trans aV)
     ·exact (ay (Ne.symm D.be)).trans aV
     ·intro j j1 j2 j3 j4;exact (ay j2).trans ((ay j3).trans ((ay j1).trans (kr j4)))
     ·exact h0' t (by rw [List.getElem?_append_left (gS ht).1];exact ht)
 ·obtain ⟨seen,H,P,hj,_⟩:=hI;refine Ex.nil (Ex.cons (an.ret (Ev.cnone ?_)));refine h0 (fun x hx=>?_) _ H.kp;obtain ⟨j,hjl,rfl⟩:=List.mem_iff_getElem.mp hx;exact P.dead _ (hj j _ (by simpa using hjl) (gE hjl)) (by simp)
end
section
theorem Ev.joined1{G:Gd}{cx:Cx}{fm:Fm}{X:Value→St→Prop}{st:St}{v:PySem.Expr}{pos:Pos}{Q:AV→St→Prop}(h:Ev G cx fm X v st Q):Ev G cx fm X (.JoinedStr [v] pos) st Q:=
 fun W s A hA hW hR hT=>wpAny_JoinedStr_one (h W s A hA hW hR hT)
theorem ti{K:Frag}{h:Heap}{N:Addr}{c:Value}{d:Option Addr}{es:Array DictEntry}{ep:Nat}{sl:Array (Option Value)}(X:K.In h)(e:K.lookup N = some ⟨c,d,.dict es ep,sl⟩)(hs:(es.toList.all fun x=>match x.key with | .str _ _=>true | _=>false)= true):h.Ns N (nsFind es):=
 ⟨_,es,ep,X _ _ e,rfl,(fun x hx=>by
  have:=List.all_eq_true.mp hs x (by simpa using hx)
  cases q:x.key <;> rw [q] at this <;> first | exact ⟨_,_,rfl⟩ | cases this),fun Z=>rfl⟩
theorem bX.newR{hp:Nat→Option AO}{g:SG}{r:Nat}{l:List Str}(S:bX hp g)(hr:g.rd = Option.none)(hn:hp r = Option.none):
  Ch hp (fun j=>if j = g.i then some (.inst ["_node2info","_ready_nodes","_npassedout","_nfinished"] [.ref g.d,.ref r,.int g.npo,.int g.nf]) else if j = r then some (.list (l.map .str)) else hp j) g {g with rd:=some (r,l)}:=by
 have nr:=S.notin hn;have hob:({g with rd:=some (r,l)}:SG).objs =(g.i,AO.inst ["_node2info","_ready_nodes","_npassedout","_nfinished"] [.ref g.d,.ref r,.int g.npo,.int g.nf])::(g.d,AO.dict (g.ns.map (·.x)) (g.ns.map fun n=> .ref n.id) g.ep)::((r,AO.list (l.map .str))::g.ns.flatMap Nd.objs):=rfl;have hob0:g.objs =(g.i,AO.inst ["_node2info","_ready_nodes","_npassedout","_nfinished"] [.ref g.d,g.rdv,.int g.npo,.int g.nf])::(g.d,AO.dict (g.ns.map (·.x)) (g.ns.map fun n=> .ref n.id) g.ep)::(g.ns.flatMap Nd.objs):=by
  unfold SG.objs SG.rdo;rw [hr];rfl
 have nd:=S.nd;rw [hob0] at nd;have n1:=List.nodup_cons.mp nd;have n2:=List.nodup_cons.mp n1.2;have hri:r≠g.i:=fun e=>nr (e▸ .head _);have hrd:r≠g.d:=fun e=>nr (e▸ .tail _ (.head _));have tl:∀p∈g.ns.flatMap Nd.objs,p∈g.objs:=fun p hp=>by rw [hob0];exact .tail _ (.tail _ hp)
 have ft:∀p∈g.objs,p.1≠r:=fun p hp e=>nr (e▸List.mem_map_of_mem hp);refine ⟨⟨fun p hp'=>?_,?_,S.names⟩,fun j ao hj e=>?_,fun j hj=>?_,rfl⟩
 ·rw [hob] at hp';rcases mC hp' with rfl | hp'
  ·exact if_pos rfl
  ·rcases mC hp' with rfl | hp'
   ·exact (if_neg (fun e=>n1.1 (by rw [← e];exact .head _))).trans ((if_neg (Ne.symm hrd)).trans S.dict)
   ·rcases mC hp' with rfl | hp'
    ·show (if r = g.i then _ else if r = r then _ else _)= _;rw [if_neg hri,if_pos rfl]
    ·exact (if_neg (fun (e:p.1 = g.i)=>n1.1 (.tail _ (List.mem_map.mpr ⟨p,hp',e⟩)))).trans ((if_neg (ft p (tl p hp'))).trans (S.at_ p (tl p hp')))
 ·rw [hob];show (g.i::g.d::r::(g.ns.flatMap Nd.objs).map (·.1)).Nodup;have hrf:r∉(g.ns.flatMap Nd.objs).map (·.1):=fun q=>by
   obtain ⟨p,hp',e⟩:=mM q;exact ft p (tl p hp') e
  have hdi:g.i≠g.d:=fun e=>n1.1 (by rw [e];exact .head _)
  have hif:g.i∉(g.ns.flatMap Nd.objs).map (·.1):=fun q=>n1.1 (.tail _ q);have hdf:g.d∉(g.ns.flatMap Nd.objs).map (·.1):=n2.1;refine List.nodup_cons.mpr ⟨?_,List.nodup_cons.mpr ⟨?_,List.nodup_cons.mpr ⟨hrf,n2.2⟩⟩⟩
  ·simp only [List.mem_cons,not_or];exact ⟨hdi,Ne.symm hri,hif⟩
  ·simp only [List.mem_cons,not_or];exact ⟨Ne.symm hrd,hdf⟩
 ·have h1:j≠g.i:=fun q=>hj (q▸ .head _);have h2:j≠r:=fun q=>by rw [q,hn] at e;cases e
  exact (if_neg h1).trans ((if_neg h2).trans e)
 ·have:j∈({g with rd:=some (r,l)}:SG).objs.map (·.1):=hj;rw [hob] at this;have hj':j∈g.i::g.d::r::(g.ns.flatMap Nd.objs).map (·.1):=this;rcases mC hj' with rfl | hj'
  ·exact .inl (.head _)
  ·rcases mC hj' with rfl | hj'
   ·exact .inl (.tail _ (.head _))
   ·rcases mC hj' with rfl | hj'
    ·exact .inr hn
    ·obtain ⟨p,hp',rfl⟩:=mM hj';exact .inl (List.mem_map_of_mem (tl p hp'))
noncomputable def de(v:PV):List Str:=(v.filter fun p=>p.2.1 == 0).map (·.1)
variable {w:World}{h₀:Heap}{os:OsState}{mg mb:Str→Option Value}{cx:Cx}{fm:Fm}{X:Value→St→Prop}{st:St}{Q:AV→St→Prop}
theorem mH{g:SG}{n:Nat}(O:(gd w h₀ os mg mb).Ok)(hc:cx.calm = true)(hn:n+2≤cx.n)(S:bX st.hp g)(hr:g.rd = Option.none)(hz:g.ns.length≤1000)(hB:∀m∈g.ns,m.sc.length≤1000)(hcl:∀m∈g.ns,∀s∈m.sc,s∈g.pv.map (·.1))
  (h0:(∀x∈g.pv.map (·.1),eZ g.pv x)→∀r hp' g',g' ={g with rd:=some (r,de g.pv)}→Ch st.hp hp' g g'→Q .none ⟨st.loc,hp'⟩)
  (h1:∀sk x i,Ring g.pv (g.pv.map (·.1)) sk x i→∀r hp' g',g' ={g with rd:=some (r,de g.pv)}→Ch st.hp hp' g g'→X (.ref iY) ⟨st.loc,hp'⟩):
  aH (gd w h₀ os mg mb) cx fm X iO [.obj am g.i] st Q:=by
 have hrv:g.rdv = .none:=by unfold SG.rdv;rw [hr]
 refine Fun.go (n:=n+1) O (cA.of O rfl rfl rfl) hn (Bind.p1 (fun Z=>rfl)) fun env he=>?_;clear he;refine Ex.cons (an.if_ (bj.cmp (Ev.attr (Ev.loc rfl (cH O S (Ev.cnone (Cmp.isNotNone (b:=false) (by rw [hrv]) (Tru.bool (Ex.nil ?_)))))))))
 refine Ex.cons (an.asg (Ev.listCompM hc (by decide) (fun n (hn:n∈([]:List Str))=>nomatch hn) (Ev.mcall (Ev.attr (Ev.loc rfl (eu O S ⟨_,_,aa.builtin _,Mth.dict PySem.F.slot_dict_values PySem.F.type_dict_values (bv S.dict),aU.nil (Cal.values O S.dict ?_)⟩))))) rfl rfl rfl)
 refine ⟨_,_,Iter.values (i:=g.d) (ks:=g.ns.map (·.x)) (l:=g.ns.map fun n=> .ref n.id) (ep:=g.ep),fun k hp b=>hp = st.hp∧b =(de ((g.ns.take k).map Nd.pv)).map .str,⟨rfl,rfl⟩,fun k loc hp b hI=>?_,fun cenv it ad k p loc hp b hs hp' hI=>?_,fun hp b hI=>?_⟩
 ·obtain ⟨rfl,_⟩:=hI;exact S.dict
 ·obtain ⟨rfl,rfl⟩:=hI;rw [gM] at hp';obtain ⟨m,hm,rfl⟩:=oM hp';have hmn:=mG hm;have htk:(g.ns.take (k+1)).map Nd.pv =(g.ns.take k).map Nd.pv++ [m.pv]:=by rw [List.take_add_one,hm];simp
  refine Asg.name (.inl rfl) (dq.one (bj.cmp (Ev.attr (Ev.loc rfl (Get.slot O aN cf (by kernel_rfl) (S.node hmn).1 rfl rfl (Ev.cint (Cmp.eqInt (Tru.bool ?_))))))))
  by_cases hz0:m.np = 0
  ·have hb:(m.np == 0)= true:=by simpa using hz0
   rw [hb];refine Aft.emitL rfl (Ev.attr (Ev.loc rfl (Get.slot O aN jC (by kernel_rfl) (S.node hmn).1 rfl rfl ⟨?_,rfl,?_⟩)))
   ·rw [lN];refine small (lT ?_ hz);unfold de;rw [lN];exact lT (List.length_filter_le _ _) (by simp;change zd)
   ·rw [htk];unfold de;simp [Nd.pv,hz0]
  ·have hb:(m.np == 0)= false:=by simpa using hz0
   rw [hb];refine ⟨rfl,?_⟩;rw [htk];unfold de;simp [Nd.pv,hz0]
 ·obtain ⟨rfl,rfl⟩:=hI;intro r hrn;rw [lN,List.take_length];refine Asg.attr (Ev.loc rfl ?_);have hrn':st.hp r = Option.none:=hrn;have hri:g.i≠r:=fun e=>by have:=S.inst;rw [e,hrn'] at this;cases this
  refine Set.obj O ap bJ og ((ay hri).trans S.inst) (Nat.le_of_ble_eq_true rfl) ?_;have C:=S.newR (l:=de g.pv) hr hrn';have S':=C.srt;refine Ex.cons (an.asg (Ev.mcall (Ev.loc rfl ⟨.ref iA,_,aa.of O (by kernel_rfl),Mth.obj O ap (by kernel_rfl) (by kernel_rfl) S'.inst (by decide),aU.nil (aH.cal ?_)⟩)) rfl rfl rfl)
  refine lU (g:={g with rd:=some (r,de g.pv)}) (n:=n) O hc (Nat.le_refl _) S' hz hB hcl (fun hd hp' hk=>?_) fun sk x i hp' hR hk=>?_
  ·refine Asg.name (.inl rfl) ?_;refine Ex.cons (an.if_ (bj.plain (Ev.loc rfl (Tru.none (Ex.nil (Ex.nil ?_))))));exact h0 hd r _ _ rfl (C.trans ⟨S'.kp hk,fun k ao Z e=>hk k ao e,fun k hk'=> .inl hk',rfl⟩)
  ·refine Asg.name (.inl rfl) ?_;refine Ex.cons (an.if_ (bj.plain (Ev.loc rfl (Tru.list (l:=((sk.map (·.1)).drop i++ [x]).map .str) rfl ?_ ?_))))
   ·have:=hR.len;simp;exact sp (by change A1)
   have hne:(!(((sk.map (·.1)).drop i++ [x]).map AV.str).isEmpty)= true:=by simp
   rw [hne];refine Ex.cons (an.raise O hc PySem.F.excBase_ValueError (C:=iY) (N:=71) rfl (ti O.K rfl (by kernel_rfl)) (by kernel_rfl) (Load.global O rfl (mg_of O.K O.gl (by kernel_rfl))) ?_)
   refine aU.cons (ah.cons (Ev.joined1 (Ev.cstr (ah.cons (Ev.loc rfl (ah.nil ⟨by simp [sizeLine_eq],?_⟩))))))
   exact h1 sk x i hR r _ _ rfl (C.trans ⟨S'.kp hk,fun k ao Z e=>hk k ao e,fun k hk'=> .inl hk',rfl⟩)
end
section
open PySem.Sre PySem.Sre.M
theorem bW{n:Nat}{m:M}(h:m.outcome.isSome = true):runFor n m = m:=by
 cases n with
 | zero=>rfl
 | succ n=>unfold runFor;rw [if_pos h]
theorem cQ:∀(a b:Nat) (m:M),runFor (a+b) m = runFor b (runFor a m):=by
 intro zl
 induction zl with
 | zero=>
  intro b m;rw [Nat.zero_add];rfl
 | succ a ih=>
  intro b m;rw [Nat.add_right_comm]
  by_cases h:m.outcome.isSome = true
  ·rw [bW h,bW h,bW h]
  ·rw [show runFor (a+b+1) m = runFor (a+b) m.step by rw [runFor,if_neg h],show runFor (a+1) m = runFor a m.step by rw [runFor,if_neg h]]
   exact ih b _
noncomputable def Goes(n:Nat)(m m':M):Prop:=runFor n m = m'
theorem Goes.trans{a b:Nat}{m m' m'':M}(x:Goes a m m')(y:Goes b m' m''):Goes (a+b) m m'':=by
 unfold Goes at *;rw [cQ,x,y]
theorem Goes.one{m m':M}(h0:m.outcome = none)(h:m.step = m'):Goes 1 m m':=by
 unfold Goes;rw [runFor,if_neg (by rw [h0];simp)];exact h
noncomputable abbrev bR:Array Nat:=#[14,4,0,1,1,6,1,16,46,1]
noncomputable abbrev aJ:Array Nat:=#[14,9,4,1,2,16,10,16,13,0,7,7,16,13,16,10,15,18,5,16,10,15,13,11,16,13,5,5,0,16,10,1,15,2,0,1]
theorem bi{m:M}(h0:m.outcome = none)(h1:m.answer = none)(h2:m.pc < m.code.size):m.step = m.exec:=by
 unfold M.step;rw [if_neg (by rw [h0];simp),h1];dsimp only;rw [if_pos h2]
theorem bo{m:M}{f:Sre.Frame}{rest:List Sre.Frame}{yes:Bool}(h0:m.outcome = none)(h1:m.answer = some yes)(h2:m.frames = f::rest):
  m.step = M.resume {m with answer:=none,frames:=rest,weight:=m.weight - (1+f.kept.marks.size),pc:=f.pc,pos:=f.pos,outermost:=f.outermost} f yes:=by
 unfold M.step;rw [if_neg (by rw [h0];simp),h1,h2]
theorem dz{m:M}{yes:Bool}(h0:m.outcome = none)(h1:m.answer = some yes)(h2:m.frames = []):m.step ={m with outcome:=some (if yes then .matched else .failed)}:=by
 unfold M.step;rw [if_neg (by rw [h0];simp),h1,h2]
noncomputable def ur:{f:Nat→M→M //∀m,M.exec m = f (m.word 0) m}:=⟨_,fun m=>by unfold M.exec;generalize m.word 0 = w;exact rfl⟩
theorem fW{m:M}{w:Nat}(h:m.word 0 = w):m.exec = ur.1 w m:=(ur.2 m).trans (by rw [h])
theorem fy{m:M}(h:m.word 0 = 16)(b:Bool)(hb:(decide (m.pos < m.lim)&& m.text.getD m.pos 0 == m.word 1)= b):
  m.exec = if b then {m with seen:=m.seen.add 16,pc:=m.pc+2,pos:=m.pos+1} else {m with seen:=m.seen.add 16,answer:=some false}:=by
 have h':m.code.getD m.pc 0 = 16:=h;have hw:itemWidth m.code m.pc = 2:=by unfold itemWidth;rw [h'];rfl
 have ha:accepts m.code m.pc (m.text.getD m.pos 0) (m.seen.add 16)= .ok (m.text.getD m.pos 0 == m.word 1,m.seen.add 16):=by unfold accepts;rw [h'];rfl
 refine (fW h).trans ?_
 by_cases hp:m.pos < m.lim
 ·rw [decide_eq_true hp,Bool.true_and] at hb;rw [hb] at ha;refine (if_neg (Nat.not_le.mpr hp)).trans ?_;rw [ha];cases b with
  | true=>exact congrArg (fun n=>({m with seen:=m.seen.add 16,pc:=m.pc+n,pos:=m.pos+1}:M)) hw
  | false=>rfl
 ·rw [decide_eq_false hp,Bool.false_and] at hb;subst hb;exact if_pos (Nat.not_lt.mp hp)
theorem oO{m:M}(h:m.word 0 = 6)(h1:m.word 1 = 1)(b:Bool)(hb:(m.pos == 0 || m.text.getD (m.pos - 1) 0 == 10)= b):
  m.exec = if b then {m with seen:=(m.seen.add 6).add 44,pc:=m.pc+2} else {m with seen:=(m.seen.add 6).add 44,answer:=some false}:=by
 refine (fW h).trans ?_;have e:M.isAt {m with seen:=m.seen.add 6} (M.word {m with seen:=m.seen.add 6} 1)= .ok b:=by
  rw [show M.word {m with seen:=m.seen.add 6} 1 = 1 from h1,← hb];rfl
 have hw:M.word {m with seen:=m.seen.add 6} 1 = 1:=h1;show (match M.isAt {m with seen:=m.seen.add 6} (M.word {m with seen:=m.seen.add 6} 1) with
  | .error why=>M.stick {m with seen:=m.seen.add 6} why
  | .ok yes=>if yes then {m with seen:=(m.seen.add 6).add (43+M.word {m with seen:=m.seen.add 6} 1),pc:=m.pc+2} else M.say {m with seen:=(m.seen.add 6).add (43+M.word {m with seen:=m.seen.add 6} 1)} false)= _
 rw [e,hw];cases b <;> rfl
theorem jT{m:M}(h:m.word 0 = 1)(hw:m.wholeText = false)(hm:m.mustAdvance = false):m.exec ={m with seen:=m.seen.add 1,handed:=m.pos,answer:=some true}:=by
 refine (fW h).trans ?_;refine (if_neg ?_).trans rfl;show ¬((m.outermost &&((m.wholeText && m.pos != m.lim) || (m.mustAdvance && m.pos == m.start)))= true);rw [hw,hm];simp
theorem pE{m:M}(h:m.word 0 = 15):m.exec ={m with seen:=m.seen.add 15,pc:=m.pc+1+m.word 1}:=fW h
theorem ma{m:M}(h:m.word 0 = 7)(hn:m.code.getD (m.pc+1) 0≠0)(hw:m.weight < 1000)(hi:m.inner = none):
  m.exec ={m with seen:=m.seen.add 7,frames:={wait:= .nextBranch,pc:=m.pc+1,pos:=m.pos,outermost:=m.outermost,kept:={lastmark:=m.lastmark,lastindex:=m.lastindex}}::m.frames,weight:=m.weight+1,pc:=m.pc+2,handed:=m.pos}:=by
 have e:m.exec = M.alternative {m with seen:=m.seen.add 7} (m.pc+1) (M.keep {m with seen:=m.seen.add 7} m.inner.isSome):=fW h;rw [e];unfold M.alternative;refine (if_neg (by simpa using hn)).trans ?_
 unfold M.attempt;have hk:(M.keep {m with seen:=m.seen.add 7} m.inner.isSome)={lastmark:=m.lastmark,lastindex:=m.lastindex}:=by unfold M.keep;rw [hi];rfl
 rw [hk,if_neg (by simp;change v5)]
 rfl
theorem qN{m:M}(h:m.word 0 = 5)(h2:m.word 2 = 0)(hw:m.weight < 1000)(hi:m.inner = none):
  m.exec ={m with seen:=m.seen.add 5,frames:={wait:= .lookNot,pc:=m.pc,pos:=m.pos,outermost:=m.outermost,kept:={lastmark:=m.lastmark,lastindex:=m.lastindex}}::m.frames,weight:=m.weight+1,pc:=m.pc+3,handed:=m.pos,outermost:=false}:=by
 have e:m.exec = if m.pos < m.word 2 then {m with seen:=m.seen.add 5,pc:=m.pc+1+m.word 1} else M.attempt {m with seen:=m.seen.add 5} {wait:= .lookNot,pc:=m.pc,pos:=m.pos,outermost:=m.outermost,kept:=M.keep {m with seen:=m.seen.add 5} (true && m.inner.isSome)} (m.pc+3) (m.pos - m.word 2) false:=fW h;rw [e,h2,if_neg (Nat.not_lt_zero _)];unfold M.attempt;have hk:(M.keep {m with seen:=m.seen.add 5} (true && m.inner.isSome))={lastmark:=m.lastmark,lastindex:=m.lastindex}:=by unfold M.keep;rw [hi];rfl
 rw [hk,if_neg (by simp;change v5)]
 rfl
noncomputable def c7(text:Array Nat)(lim s:Nat)(first must:Bool)(marks:Array (Option Nat))(seen:Sre.Seen):M:=
 {code:=bR,text,lim,start:=s,lastStart:=lim,mustAdvance:=must,pc:=5,pos:=s,handed:=s,outermost:=first,marks,frames:= [{wait:= .nextStart,pc:=5,pos:=s,outermost:=first}],weight:=1,seen}
section
variable {text:Array Nat}{lim s:Nat}{first must:Bool}{marks:Array (Option Nat)}{seen:Sre.Seen}
theorem kT{pc pos:Nat}(hs:s < lim):Goes 1 {c7 text lim s first must marks seen with pc:=pc,pos:=pos,answer:=some false} (c7 text lim (s+1) false false marks seen):=by
 refine Goes.one rfl ((bo rfl rfl rfl).trans ?_);simp only [M.resume];refine (if_neg (by decide)).trans ?_
 exact (if_pos hs).trans rfl
theorem ble{a b:Nat}(h:Nat.ble (a+1) b = true):a < b:=Nat.le_of_ble_eq_true h
theorem s4(h1:(s == 0 || text.getD (s - 1) 0 == 10)= true)(h2:(text.getD s 0 == 46)= true)(hs:s < lim):
  ∃m',Goes 5 (c7 text lim s first false marks seen) m'∧m'.outcome = some .matched∧m'.start = s∧m'.handed = s+1:=by
 refine ⟨_,Goes.trans (Goes.trans (Goes.trans (Goes.trans (Goes.one rfl ((bi rfl rfl (ble rfl)).trans (oO rfl rfl true h1))) (Goes.one rfl ((bi rfl rfl (ble rfl)).trans (fy rfl true ?_)))) (Goes.one rfl ((bi rfl rfl (ble rfl)).trans (jT rfl rfl rfl)))) (Goes.one rfl (bo rfl rfl rfl))) (Goes.one rfl (dz rfl rfl rfl)),rfl,rfl,rfl⟩;show (decide (s < lim)&& text.getD s 0 == 46)= true;rw [decide_eq_true hs,h2];rfl
theorem ky(b:Bool)(h:(s == 0 || text.getD (s - 1) 0 == 10)= b):
  Goes 1 (c7 text lim s first must marks seen) {c7 text lim s first must marks ((seen.add 6).add 44) with pc:=if b then 7 else 5,answer:=if b then none else some false}:=
 Goes.one rfl ((bi rfl rfl (ble rfl)).trans ((oO rfl rfl b h).trans (by cases b <;> rfl)))
theorem oz(b:Bool)(h:(decide (s < lim)&& text.getD s 0 == 46)= b):
  Goes 1 {c7 text lim s first must marks seen with pc:=7} {c7 text lim s first must marks (seen.add 16) with pc:=if b then 9 else 7,pos:=if b then s+1 else s,answer:=if b then none else some false}:=
 Goes.one rfl ((bi rfl rfl (ble rfl)).trans ((fy rfl b h).trans (by cases b <;> rfl)))
theorem vi(h:((s == 0 || text.getD (s - 1) 0 == 10)&& text.getD s 0 == 46)= false)(hs:s < lim):
  ∃n seen',n≤3∧Goes n (c7 text lim s first must marks seen) (c7 text lim (s+1) false false marks seen'):=by
 cases h1:(s == 0 || text.getD (s - 1) 0 == 10) with
 | false=>exact ⟨1+1,(seen.add 6).add 44,by decide,Goes.trans (ky false h1) (kT (pc:=5) (pos:=s) hs)⟩
 | true=>
  rw [h1,Bool.true_and] at h;exact ⟨1+1+1,((seen.add 6).add 44).add 16,by decide,Goes.trans (Goes.trans (ky true h1) (oz false (by rw [h,Bool.and_false]))) (kT (pc:=7) (pos:=s) hs)⟩
theorem oy(hs:¬s < lim):∃n m',n≤4∧Goes n (c7 text lim s first must marks seen) m'∧m'.outcome = some .failed:=by
 have fin:∀(pc pos:Nat) (sn:Sre.Seen),∃m',Goes 2 {c7 text lim s first must marks sn with pc:=pc,pos:=pos,answer:=some false} m'∧m'.outcome = some .failed:=fun pc pos sn=>by
  refine ⟨_,Goes.trans (m':={c7 text lim s first must marks sn with frames:= [],weight:=0,pc:=5,pos:=s,answer:=some false}) (Goes.one rfl ((bo rfl rfl rfl).trans ?_)) (Goes.one rfl (dz (yes:=false) rfl rfl rfl)),rfl⟩;simp only [M.resume];refine (if_neg (by decide)).trans ?_
  exact (if_neg hs).trans rfl
 cases h1:(s == 0 || text.getD (s - 1) 0 == 10) with
 | false=>
  obtain ⟨m',g,e⟩:=fin 5 s ((seen.add 6).add 44);exact ⟨1+2,m',by decide,Goes.trans (ky false h1) g,e⟩
 | true=>
  obtain ⟨m',g,e⟩:=fin 7 s (((seen.add 6).add 44).add 16);exact ⟨1+1+2,m',by decide,Goes.trans (Goes.trans (ky true h1) (oz false (by rw [decide_eq_false hs];rfl))) g,e⟩
end
end
section
open PySem.Sre PySem.Sre.M
noncomputable def b6(m:M)(r:Option (Nat×Nat))(N:Nat):Prop:=∃n m',n≤N∧Goes n m m'∧(match r with | some (a,b)=>m'.outcome = some .matched∧m'.start = a∧m'.handed = b | none=>m'.outcome = some .failed)
theorem b6.pre{a N:Nat}{m m':M}{r:Option (Nat×Nat)}(g:Goes a m m')(h:b6 m' r N):b6 m r (a+N):=by
 obtain ⟨n,m'',hn,g',e⟩:=h;exact ⟨a+n,m'',by change wu,g.trans g',e⟩
theorem b6.le{N N':Nat}{m:M}{r:Option (Nat×Nat)}(h:b6 m r N)(hN:N≤N'):b6 m r N':=by
 obtain ⟨n,m'',hn,g',e⟩:=h;exact ⟨n,m'',by change lT,g',e⟩
noncomputable def je(text:Array Nat)(q:Nat):Bool:=(q == 0 || text.getD (q - 1) 0 == 10)&& text.getD q 0 == 46
noncomputable def bz(P:Nat→Bool)(lim:Nat):(fuel s:Nat)→Option Nat
 | 0,_=>none
 | n+1,s=>if s < lim then if P s then some s else bz P lim n (s+1) else none
theorem dl(P:Nat→Bool)(lim n s:Nat):bz P lim (n+1) s = if s < lim then if P s then some s else bz P lim n (s+1) else none:=rfl
theorem nH{text:Array Nat}{lim:Nat}{marks:Array (Option Nat)}:∀(fuel s:Nat) (first:Bool) (seen:Sre.Seen),lim < s+fuel→
  b6 (c7 text lim s first false marks seen) ((bz (je text) lim fuel s).map fun q=>(q,q+1)) (3 * fuel+5):=by
 intro zl
 induction zl with
 | zero=>
  intro s first sn₀ h;obtain ⟨n,m',hn,g,e⟩:=oy (text:=text) (lim:=lim) (s:=s) (first:=first) (must:=false) (marks:=marks) (seen:=sn₀) (Nat.not_lt.mpr (Nat.le_of_lt h));exact ⟨n,m',by change oN,g,e⟩
 | succ fuel ih=>
  intro s first sn₀ h;rw [dl]
  by_cases hs:s < lim
  ·rw [if_pos hs]
   by_cases hp:je text s = true
   ·rw [if_pos hp];unfold je at hp;rw [Bool.and_eq_true] at hp;obtain ⟨m',g,e⟩:=s4 (first:=first) (marks:=marks) (seen:=sn₀) hp.1 hp.2 hs;exact ⟨5,m',by with_reducible exact Nat.le_add_left _ _,g,e⟩
   ·rw [if_neg hp];obtain ⟨n,sn,hn,g⟩:=vi (first:=first) (must:=false) (marks:=marks) (seen:=sn₀) (by unfold je at hp;simpa using hp) hs
    exact (b6.pre g (ih (s+1) false sn (by change xc))).le (by change xE)
  ·rw [if_neg hs];obtain ⟨n,m',hn,g,e⟩:=oy (text:=text) (lim:=lim) (s:=s) (first:=first) (must:=false) (marks:=marks) (seen:=sn₀) hs;exact ⟨n,m',by change w4,g,e⟩
theorem n7{text:Array Nat}{s:Nat}:b6 (forSearch bR text 0 s text.size false) ((bz (je text) text.size (text.size+1 - s) s).map fun q=>(q,q+1)) (3 * text.size+10):=by
 by_cases h:s < text.size
 ·have h1:(decide (s > text.size) || decide (text.size - s < (header bR).1))= false:=by
   rw [show (header bR).1 = 1 from rfl];simp;change uh
  have e:forSearch bR text 0 s text.size false = c7 text text.size s true false #[] (({}:Sre.Seen).add 14):=by
   unfold forSearch;simp only [h1,Bool.false_eq_true,if_false];rfl
  rw [e];exact (nH (marks:=#[]) (text.size+1 - s) s true _ (by change wO)).le (by change w3)
 ·have h1:(decide (s > text.size) || decide (text.size - s < (header bR).1))= true:=by
   rw [show (header bR).1 = 1 from rfl];simp;change uB
  have e:∃m,forSearch bR text 0 s text.size false = m∧m.outcome = none∧m.answer = some false∧m.frames = []:=by
   refine ⟨_,rfl,?_⟩;unfold forSearch;simp only [h1,if_true];exact ⟨rfl,rfl,rfl⟩
  obtain ⟨m,e,e1,e2,e3⟩:=e;rw [e];have:bz (je text) text.size (text.size+1 - s) s = none:=by
   cases text.size+1 - s with
   | zero=>rfl
   | succ n=>rw [dl];rw [if_neg h]
  rw [this];exact ⟨1,_,by with_reducible exact Nat.le_add_left _ _,Goes.one e1 (dz (yes:=false) e1 e2 e3),rfl⟩
noncomputable def r5(text:Array Nat)(lim s:Nat)(first:Bool)(marks:Array (Option Nat))(seen:Sre.Seen):M:=
 {code:=aJ,text,lim,start:=s,lastStart:=lim,mustAdvance:=false,pc:=10,pos:=s,handed:=s,outermost:=first,marks,frames:= [{wait:= .nextStart,pc:=10,pos:=s,outermost:=first}],weight:=1,seen}
noncomputable def eI(text:Array Nat)(lim q:Nat)(first:Bool)(marks:Array (Option Nat))(seen:Sre.Seen)(alt pc pos hd:Nat)(ans:Option Bool):M:=
 {code:=aJ,text,lim,start:=q,lastStart:=lim,mustAdvance:=false,pc,pos,handed:=hd,outermost:=first,marks,frames:= [{wait:= .nextBranch,pc:=alt,pos:=q,outermost:=first,kept:={lastmark:= -1,lastindex:= -1}},{wait:= .nextStart,pc:=10,pos:=q,outermost:=first}],weight:=2,seen,answer:=ans}
section
variable {text:Array Nat}{lim q:Nat}{first:Bool}{marks:Array (Option Nat)}{seen:Sre.Seen}{alt pc pos hd:Nat}
theorem rJ:Goes 1 (r5 text lim q first marks seen) (eI text lim q first marks (seen.add 7) 11 12 q q none):=
 Goes.one rfl ((bi rfl rfl (ble rfl)).trans ((ma rfl (by show (7:Nat)≠0;decide) (by show (1:Nat) < 1000;decide) rfl).trans rfl))
theorem dM(c:Nat)(b:Bool)(hpc:aJ.getD pc 0 = 16)(hc:aJ.getD (pc+1) 0 = c)(hl:pc < 36)(h:(decide (pos < lim)&& text.getD pos 0 == c)= b):
  Goes 1 (eI text lim q first marks seen alt pc pos hd none) (eI text lim q first marks (seen.add 16) alt (if b then pc+2 else pc) (if b then pos+1 else pos) hd (if b then none else some false)):=
 Goes.one rfl ((bi rfl rfl hl).trans ((fy (m:=eI text lim q first marks seen alt pc pos hd none) hpc b (by subst hc;exact h)).trans (by cases b <;> rfl)))
theorem iq(hpc:aJ.getD pc 0 = 15)(hl:pc < 36)(hj:pc+1+aJ.getD (pc+1) 0 = 35):Goes 1 (eI text lim q first marks seen alt pc pos hd none) (eI text lim q first marks (seen.add 15) alt 35 pos hd none):=by
 refine Goes.one rfl ((bi rfl rfl hl).trans ((pE (m:=eI text lim q first marks seen alt pc pos hd none) hpc).trans ?_));show eI text lim q first marks (seen.add 15) alt (pc+1+aJ.getD (pc+1) 0) pos hd none = _;rw [hj]
theorem ip:b6 (eI text lim q first marks seen alt 35 pos hd none) (some (q,pos)) 4:=by
 refine ⟨1+1+1+1,_,by decide,Goes.trans (Goes.trans (Goes.trans (Goes.one (m':={eI text lim q first marks (seen.add 1) alt 35 pos pos none with answer:=some true}) rfl ((bi rfl rfl (ble rfl)).trans (jT rfl rfl rfl))) (Goes.one rfl (bo rfl rfl rfl))) (Goes.one rfl (bo rfl rfl rfl))) (Goes.one rfl (dz (yes:=true) rfl rfl rfl)),rfl,rfl,rfl⟩
theorem jN:Goes 1 (eI text lim q first marks seen 11 pc pos hd (some false)) (eI text lim q first marks seen 18 19 q q none):=
 Goes.one rfl ((bo rfl rfl rfl).trans rfl)
theorem pY:Goes 1 (eI text lim q first marks seen 18 pc pos hd (some false)) (eI text lim q first marks seen 23 24 q q none):=
 Goes.one rfl ((bo rfl rfl rfl).trans rfl)
theorem s7(h:(decide (pos < lim)&& text.getD pos 0 == 10)= false):∃sn,Goes 3 (eI text lim q first marks seen 23 26 pos hd none) (eI text lim q first marks sn 23 32 pos pos none):=by
 refine ⟨(seen.add 5).add 16,Goes.trans (a:=1+1) (b:=1) (Goes.trans (Goes.one rfl ((bi rfl rfl (ble rfl)).trans (qN rfl rfl (by show (2:Nat) < 1000;decide) rfl))) (Goes.one rfl ((bi rfl rfl (ble rfl)).trans (fy rfl false h)))) (Goes.one rfl ((bo rfl rfl rfl).trans rfl))⟩
noncomputable def dN(text:Array Nat)(lim q:Nat):Nat:=if text.getD q 0 == 13 &&(decide (q+1 < lim)&& text.getD (q+1) 0 == 10) then 2 else 1
theorem tf(hq:q < lim)(h:(text.getD q 0 == 10 || text.getD q 0 == 13)= true):b6 (r5 text lim q first marks seen) (some (q,q+dN text lim q)) 16:=by
 unfold dN;have d:decide (q < lim)= true:=decide_eq_true hq;cases h13:(text.getD q 0 == 13) with
 | false=>
  rw [h13,Bool.or_false] at h;simp only [Bool.false_and,Bool.false_eq_true,if_false];have g:=((rJ (text:=text) (lim:=lim) (q:=q) (first:=first) (marks:=marks) (seen:=seen)).trans (dM 13 false rfl rfl (by decide) (by rw [d,h13];rfl))).trans jN
  exact (b6.pre (g.trans ((dM 10 true rfl rfl (by decide) (by rw [d,h];rfl)).trans (iq rfl (by decide) rfl))) ip).le (by decide)
 | true=>
  have g0:=(rJ (text:=text) (lim:=lim) (q:=q) (first:=first) (marks:=marks) (seen:=seen)).trans (dM 13 true rfl rfl (by decide) (by rw [d,h13];rfl))
  cases h10:(decide (q+1 < lim)&& text.getD (q+1) 0 == 10) with
  | true=>
   simp only [Bool.true_and,if_true];exact (b6.pre (g0.trans ((dM 10 true rfl rfl (by decide) h10).trans (iq rfl (by decide) rfl))) ip).le (by decide)
  | false=>
   simp only [Bool.true_and,Bool.false_eq_true,if_false];have e:(text.getD q 0 == 10)= false:=by rw [beq_iff_eq] at h13;rw [h13];rfl
   have g1:=(g0.trans (dM 10 false rfl rfl (by decide) h10)).trans jN
   have g2:=(g1.trans (dM 10 false rfl rfl (by decide) (by rw [e,Bool.and_false]))).trans pY
   have g3:=g2.trans (dM 13 true rfl rfl (by decide) (by rw [d,h13];rfl))
   obtain ⟨sn,g4⟩:=s7 (text:=text) (lim:=lim) (q:=q) (first:=first) (marks:=marks) (seen:=((((seen.add 7).add 16).add 16).add 16).add 16) (hd:=q) h10;exact (b6.pre ((g3.trans g4).trans (iq rfl (by decide) rfl)) ip).le (by decide)
noncomputable def fx(text:Array Nat)(q:Nat):Bool:=text.getD q 0 == 10 || text.getD q 0 == 13
theorem ty(c:Nat)(seen:Sre.Seen):∃sn,inSet aJ c 36 5 true seen = .ok (c == 10 || c == 13,sn):=by
 have e:inSet aJ c 36 5 true seen = if c == 10 then .ok (true,seen.add 16) else if c == 13 then .ok (true,(seen.add 16).add 16) else .ok (false,((seen.add 16).add 16).add 0):=rfl;rw [e];cases h1:(c == 10) <;> cases h2:(c == 13) <;> exact ⟨_,rfl⟩
theorem j6{m:M}(hc:m.code = aJ):∀(fuel s:Nat) (seen:Sre.Seen),∃sn,M.admitted m fuel s seen = .ok (bz (fx m.text) m.lim fuel s,sn):=by
 intro zl
 induction zl with
 | zero=>
  intro s sn₀;exact ⟨sn₀,rfl⟩
 | succ fuel ih=>
  intro s sn₀;unfold M.admitted;rw [dl]
  by_cases hs:s < m.lim
  ·rw [if_neg (Nat.not_le.mpr hs),if_pos hs,hc];obtain ⟨sn,e⟩:=ty (m.text.getD s 0) sn₀;rw [show (aJ:Array Nat).size = 36 from rfl,e];cases hp:fx m.text s with
   | true=>
    unfold fx at hp;rw [hp];exact ⟨sn,rfl⟩
   | false=>
    unfold fx at hp;rw [hp];simpa using ih (s+1) sn
  ·rw [if_pos (Nat.not_lt.mp hs),if_neg hs];exact ⟨sn₀,rfl⟩
set_option tactic.hygienic true in
theorem dc{P:Nat→Bool}{lim:Nat}:∀{fuel s r:Nat},bz P lim fuel s = some r→s≤r∧r < lim∧P r = true∧∀k,s≤k→k < r→P k = false:=by
 intro zl
 induction zl with
 | zero=>
  intro s r h;cases h
 | succ fuel ih=>
  intro s r h;rw [dl] at h
  split at h
  ·rename_i hs
   split at h
   ·rename_i hp;cases h;exact ⟨Nat.le_refl _,hs,hp,fun k h1 h2=>by with_reducible exact (vX ‹_› ‹_›).elim⟩
   ·rename_i hp;obtain ⟨h1,h2,h3,h4⟩:=ih h;refine ⟨by change Nat.le_of_succ_le,h2,h3,fun k hk hk'=>?_⟩
    by_cases e:k = s
    ·subst e;simpa using hp
    ·exact h4 k (by change xw) hk'
  ·cases h
set_option tactic.hygienic true in
theorem kV{P:Nat→Bool}{lim:Nat}:∀{fuel s:Nat},bz P lim fuel s = none→lim≤s+fuel→∀k,s≤k→k < lim→P k = false:=by
 intro zl
 induction zl with
 | zero=>
  intro s h hl k h1 h2
  with_reducible exact (xQ ‹_› ‹_› ‹_›).elim
 | succ fuel ih=>
  intro s h hl k h1 h2;rw [dl] at h;rw [if_pos (by change Nat.lt_of_le_of_lt)] at h
  split at h
  ·cases h
  ·rename_i hp
   by_cases e:k = s
   ·subst e;simpa using hp
   ·exact ih h (lT hl (qE (by rw [Nat.add_assoc,Nat.add_comm 1]))) k (Nat.lt_of_le_of_ne h1 (Ne.symm e)) h2
theorem tr{s:Nat}:b6 (forSearch aJ text 0 s text.size false) ((bz (fx text) text.size (text.size+1 - s) s).map fun q=>(q,q+dN text text.size q)) 20:=by
 by_cases h:s < text.size
 ·have h1:(decide (s > text.size) || decide (text.size - s < (header aJ).1))= false:=by
   rw [show (header aJ).1 = 1 from rfl];simp;change uh
  have e:∃m0:M,m0.code = aJ∧m0.text = text∧m0.lim = text.size∧(∀sn q,({m0 with mustAdvance:=false,seen:=sn}:M).attemptAt q true = r5 text text.size q true #[] sn)∧(∀sn,(({m0 with seen:=sn}:M).say false).outcome = none∧(({m0 with seen:=sn}:M).say false).frames = [])∧
    forSearch aJ text 0 s text.size false = match M.admitted m0 (m0.lim+1 - s) s m0.seen with | .ok (some s,sn)=>({m0 with mustAdvance:=false,seen:=sn}:M).attemptAt s true | .ok (none,sn)=>({m0 with seen:=sn}:M).say false | .error why=>m0.stick why:=by
   refine ⟨{code:=aJ,text,lim:=text.size,start:=s,lastStart:=text.size,mustAdvance:=false,pc:=10,pos:=s,handed:=s,marks:=#[],seen:=({}:Sre.Seen).add 14},rfl,rfl,rfl,fun sn q=>rfl,fun sn=>⟨rfl,rfl⟩,?_⟩;have e0:forSearch aJ text 0 s text.size false = M.attemptFrom {code:=aJ,text,lim:=text.size,start:=s,lastStart:=text.size,mustAdvance:=false,pc:=10,pos:=s,handed:=s,marks:=#[],seen:=({}:Sre.Seen).add 14} s true:=by
    unfold forSearch;simp only [h1,Bool.false_eq_true,if_false];rfl
   rw [e0];unfold M.attemptFrom;refine (if_neg (by simp [M.hasFirstSet,ops])).trans ?_
   generalize M.admitted _ _ _ _ = r;rcases r with _ | ⟨_ | _,_⟩ <;> rfl
  obtain ⟨m0,ec,et,el,ea,en,e⟩:=e;obtain ⟨sn,e'⟩:=j6 ec (m0.lim+1 - s) s m0.seen;rw [e,e'];have e2:bz (fx m0.text) m0.lim (m0.lim+1 - s) s = bz (fx text) text.size (text.size+1 - s) s:=by rw [et,el]
  rw [e2];cases hf:bz (fx text) text.size (text.size+1 - s) s with
  | none=>exact ⟨1,_,by decide,Goes.one (en sn).1 (dz (yes:=false) (en sn).1 rfl (en sn).2),rfl⟩
  | some q=>
   obtain ⟨_,h2,h3,_⟩:=dc hf;dsimp only;rw [ea];exact (tf h2 h3).le (by decide)
 ·have h1:(decide (s > text.size) || decide (text.size - s < (header aJ).1))= true:=by
   rw [show (header aJ).1 = 1 from rfl];simp;change uB
  have e:∃m,forSearch aJ text 0 s text.size false = m∧m.outcome = none∧m.answer = some false∧m.frames = []:=by
   refine ⟨_,rfl,?_⟩;unfold forSearch;simp only [h1,if_true];exact ⟨rfl,rfl,rfl⟩
  obtain ⟨m,e,e1,e2,e3⟩:=e;rw [e];have:bz (fx text) text.size (text.size+1 - s) s = none:=by
   cases text.size+1 - s with
   | zero=>rfl
   | succ n=>rw [dl];rw [if_neg h]
  rw [this];exact ⟨1,_,by with_reducible exact Nat.le_add_left _ _,Goes.one e1 (dz (yes:=false) e1 e2 e3),rfl⟩
end
end
section
open PySem.Sre PySem.Sre.M PySem.Builtin PySem.Builtin.Re
theorem lD{a b:Nat}{m:M}(ha:(runFor a m).outcome.isSome = true)(hb:(runFor b m).outcome.isSome = true):runFor a m = runFor b m:=by
 by_cases h:a≤b
 ·obtain ⟨c,rfl⟩:=Nat.le.dest h;rw [cQ,bW ha]
 ·obtain ⟨c,rfl⟩:=Nat.le.dest (Nat.le_of_not_le h);rw [cQ,bW hb]
section
variable {M₀:Model}{A:Around}{E:Value→Shared→Prop}{s:Shared}
theorem nK:∀{turns N:Nat} {m:M} {Q:M→Shared→Prop},(runFor N m).outcome.isSome = true→N < 4 * turns→Q (runFor N m) s→wpAny M₀ A (reDrive turns m) Q E s:=by
 intro zl
 induction zl with
 | zero=>
  intro N m Q _ hN _
  with_reducible exact (wJ ‹_›).elim
 | succ turns ih=>
  intro N m Q ho hN hQ;unfold reDrive;dsimp only;rw [show reTurnSteps = 4 from rfl]
  by_cases h4:(runFor 4 m).outcome.isSome = true
  ·refine wT h4 ?_;rw [lD ho h4] at hQ;exact wpAny_pure hQ
  ·refine wE h4 ?_;have h5:4 < N:=by
    refine Nat.lt_of_not_le fun h=>h4 ?_;obtain ⟨c,hc⟩:=Nat.le.dest h;rw [← hc,cQ,bW ho];exact ho
   obtain ⟨c,rfl⟩:=Nat.le.dest (Nat.le_of_lt h5);rw [cQ] at ho hQ;exact wpAny_bind (wpAny_rule (ih ho (by change vY) hQ))
theorem sM{f:Nat→Bool}{g:Nat→String}:∀(l:List Nat) {Q:PUnit→Shared→Prop},Q ⟨⟩ s→
  wpAny M₀ A (forIn l PUnit.unit fun i (_:PUnit)=>if f i = true then do rule (g i);Pure.pure (ForInStep.yield PUnit.unit) else do Pure.pure PUnit.unit;Pure.pure (ForInStep.yield PUnit.unit)) Q E s:=by
 intro zl
 induction zl with
 | nil=>
  intro Q h;rw [List.forIn_nil];exact wpAny_pure h
 | cons i l ih=>
  intro Q h;rw [List.forIn_cons];refine wpAny_bind ?_
  by_cases hf:f i = true
  ·rw [if_pos hf];exact wpAny_bind (wpAny_rule (wpAny_pure (ih h)))
  ·rw [if_neg hf];exact wpAny_pure (ih h)
theorem lA{m:M}{r:Option (Nat×Nat)}{N:Nat}{Q:Option M→Shared→Prop}(hf:b6 m r N)(hN:N≤2 ^ 62)(h:match r with | some (a,b)=>∀m',m'.start = a→m'.handed = b→Q (some m') s | none=>Q none s):wpAny M₀ A (reRunToEnd m) Q E s:=by
 obtain ⟨n,m',hn,g,e⟩:=hf;unfold Goes at g;unfold reRunToEnd;have ho:(runFor n m).outcome.isSome = true:=by
  rw [g];cases r with
  | none=>dsimp only at e;rw [e];rfl
  | some p=>dsimp only at e;rw [e.1];rfl
 refine wpAny_bind (nK ho (by change wX) ?_)
 rw [g];refine wpAny_bind ?_;refine sM (f:=fun i=>m'.seen.has i) (g:=fun i=>Sre.names.getD i "") _ ?_;cases r with
 | none=>dsimp only at e h;rw [e];exact wpAny_pure h
 | some p=>obtain ⟨a,b⟩:=p;dsimp only at e h;rw [e.1];exact wpAny_pure (h m' e.2.1 e.2.2)
end
end
section
open PySem.Sre PySem.Sre.M PySem.Builtin PySem.Builtin.Re
noncomputable def ca(kind:Nat)(x:Array Nat)(t:Tok):Value:=if kind = 0 then .str ⟨x⟩ t else .bytes (x.map (·.toUInt8)) t
structure fA(h:Heap)(a:Addr)(code:Array Nat)(kind:Nat):Prop where
 ex:∃o fs c oc items n,h.get? a = some o∧o.cls = .type "re.Pattern" ∧o.data = .fields fs∧fs.getD 5 .none = .ref c∧h.get? c = some oc∧oc.data = .seq items n∧(items.map reRawOf).map (·.toNat)= code∧reRawNat (fs.getD 2 .none)= 0∧reRawNat (fs.getD 6 .none)= kind
theorem fA.keeps{h h':Heap}{a:Addr}{code:Array Nat}{kind:Nat}(p:fA h a code kind)(k:∀b o,h.get? b = some o→h'.get? b = some o):fA h' a code kind:=by
 obtain ⟨o,fs,c,oc,items,n,h1,h2,h3,h4,h5,h6⟩:=p.ex;exact ⟨o,fs,c,oc,items,n,k _ _ h1,h2,h3,h4,k _ _ h5,h6⟩
section
variable {prog:Program}{w:World}{A:Around}{E:Value→Shared→Prop}{s:Shared}
theorem pw{kind:Nat}{x:Array Nat}{t:Tok}(hk:kind≤1)(hx:kind = 1→∀c∈x,c < 256){Q:Array Nat×Nat→Shared→Prop}(h:Q (x,kind) s):wpAny (model prog w) A (reTextOf (ca kind x t)) Q E s:=by
 unfold reTextOf ca;rcases (show kind = 0∨kind = 1 by change yx) with rfl | rfl
 ·simp only [if_true];exact wpAny_bind (wpAny_pure (wpAny_pure h))
 ·simp only [Nat.one_ne_zero,if_false];refine wpAny_bind (wpAny_of_eq (a:=none) rfl ?_);refine wpAny_bind (wpAny_of_eq KBy.quiet_eq ?_);have e:(x.map (·.toUInt8)).map (·.toNat)= x:=by
   rw [Array.map_map]
   conv=>rhs;rw [← Array.map_id x]
   refine Array.map_congr_left fun c hc=>?_;have:=hx rfl c hc;simp only [Function.comp,Nat.toUInt8_eq,UInt8.toNat_ofNat',_root_.id]
   change xj
  refine wpAny_pure ?_;rw [e];exact h
theorem d6{a:Addr}{code:Array Nat}{kind:Nat}{x:Array Nat}{t:Tok}(hp:fA s.heap a code kind)(hk:kind≤1)(hx:kind = 1→∀c∈x,c < 256){Q:ReTarget→Shared→Prop}
  (h:Q {pattern:= .ref a,string:=ca kind x t,code,text:=x,kind,groups:=0,pos:=0,lim:=x.size} s):wpAny (model prog w) A (reWholeTarget (.ref a) (ca kind x t)) Q E s:=by
 obtain ⟨o,fs,c,oc,items,n,h1,h2,h3,h4,h5,h6,h7,h8,h9⟩:=hp.ex;unfold reWholeTarget;refine wpAny_bind (wpAny_fieldsOf h1 h3 ?_);refine wpAny_bind (pw hk hx ?_);dsimp only;rw [h9];refine wE (by rcases (show kind = 0∨kind = 1 by change sF) with rfl | rfl <;> decide) ?_
 refine wE (by rcases (show kind = 0∨kind = 1 by change sF) with rfl | rfl <;> decide) ?_
 refine wpAny_bind ?_;unfold reNoCollectionInside;have key:wpAny (model prog w) A (reRawItems (fs.getD 5 .none) >>= fun r=>Pure.pure ({pattern:= .ref a,string:=ca kind x t,code:=r.map (·.toNat),text:=x,kind,groups:=reRawNat (fs.getD 2 .none),pos:=0,lim:=x.size}:ReTarget)) Q E s:=by
  rw [h4,h8];refine wpAny_bind ?_;unfold reRawItems;refine wpAny_bind (wpAny_seqItems h5 h6 (wpAny_pure ?_));dsimp only [Option.getD];rw [h7];exact wpAny_pure h
 rcases (show kind = 0∨kind = 1 by change sF) with rfl | rfl
 ·rw [if_neg (by decide)];exact wpAny_pure key
 ·refine wT (by decide) ?_
  refine wpAny_bind (wpAny_of_eq (a:=true) KBy.isInstance_eq ?_);rw [if_neg (by decide)];exact wpAny_pure key
theorem iH{x:Array Nat}{kind b e:Nat}(hz:x.size≤sizeLine){Q:Value→Shared→Prop}(h:Q (ca kind (x.extract b e) s.toks) {s with toks:=s.toks+1}):wpAny (model prog w) A (reSlice x kind b e) Q E s:=by
 unfold reSlice;have hl:(x.extract b e).size≤sizeLine:=by rw [Array.size_extract];change yB
 unfold ca at h
 by_cases hk:kind = 0
 ·rw [if_pos hk] at h;refine wT (by simpa using hk) ?_
  exact wpAny_mkStr h hl
 ·rw [if_neg hk] at h;refine wE (by simpa using hk) ?_
  exact wpAny_mkBytes h (by rw [Array.size_map];exact hl)
end
noncomputable def cC(kind:Nat):List Value→List (Array Nat)→Prop
 | [],[]=>True
 | v::vs,y::ys=>(∃t,v = ca kind y t)∧cC kind vs ys
 | _,_=>False
theorem cC.append{kind:Nat}:∀{vs vs':List Value} {ys ys':List (Array Nat)},cC kind vs ys→cC kind vs' ys'→cC kind (vs++vs') (ys++ys')
 | [],_,[],_,_,h=>h
 | _::_,_,_::_,_,h,h'=>⟨h.1,h.2.append h'⟩
 | [],_,_::_,_,h,_=>h.elim
 | _::_,_,[],_,h,_=>h.elim
theorem cC.length{kind:Nat}:∀{vs:List Value} {ys:List (Array Nat)},cC kind vs ys→vs.length = ys.length
 | [],[],_=>rfl
 | _::_,_::_,h=>by simp [h.2.length]
 | [],_::_,h=>h.elim
 | _::_,[],h=>h.elim
theorem cC.strs:∀{vs:List Value} {ys:List (Array Nat)},cC 0 vs ys→StrsAre vs (ys.map fun y=>⟨y⟩)
 | [],[],_=> .nil
 | _::_,y::_,h=>by obtain ⟨⟨t,rfl⟩,h2⟩:=h;exact .cons ⟨y⟩ t h2.strs
 | [],_::_,h=>h.elim
 | _::_,[],h=>h.elim
noncomputable def p7(x rp:Array Nat)(fnd:Nat→Option (Nat×Nat)):Nat→Nat→List (Array Nat)
 | 0,_=> []
 | fuel+1,p=>match fnd p with
  | none=>if p < x.size then [x.extract p x.size] else []
  | some (a,b)=>(if p < a then [x.extract p a] else [])++rp::p7 x rp fnd fuel b
theorem rE(x rp:Array Nat)(fnd:Nat→Option (Nat×Nat))(fuel p:Nat):p7 x rp fnd (fuel+1) p = match fnd p with
  | none=>if p < x.size then [x.extract p x.size] else []
  | some (a,b)=>(if p < a then [x.extract p a] else [])++rp::p7 x rp fnd fuel b:=rfl
theorem ia:entryFor table "re.Pattern.sub.loop" = some Builtin.«re.Pattern.sub.loop»:=entryFor_of_fast (by kernel_rfl)
theorem cW:plainId "re.Pattern.sub.loop" = true:=by decide+kernel
noncomputable def JoinOk(prog:Program)(w:World)(kind:Nat):Prop:=∀{A:Around} {E:Value→Shared→Prop} {s:Shared} {l:Addr} {vs:List Value} {n:Nat} {ys:List (Array Nat)} {t:Tok} {Q:Value→Shared→Prop},
 IsL s.heap l vs.toArray n→cC kind vs ys→ys≠ []→(ys.map (·.size)).sum≤1000000→ys.length≤1000000→(∀t' k,Q (ca kind (ys.foldr (·++·) #[]) t') {s with toks:=k})→wpAny (model prog w) A (call (.builtin (if kind == 0 then "str.join" else "bytes.join")) [ca kind #[] t,.ref l]) Q E s
section
variable {prog:Program}{w:World}{A:Around}{R:Result→Shared→Prop}
theorem nO{kind:Nat}{rp:Array Nat}{t:Tok}{s:Shared}{E:Value→Shared→Prop}{Q:Unit→Shared→Prop}(h:Q () s):wpAny (model prog w) A (reLiteralCannotBeTurned (ca kind rp t)) Q E s:=by
 unfold reLiteralCannotBeTurned ca
 by_cases hk:kind = 0
 ·rw [if_pos hk];refine wpAny_bind (wpAny_pure ?_);exact wpAny_pure h
 ·rw [if_neg hk];refine wpAny_bind (wpAny_of_eq (a:=none) rfl ?_);refine wT (by rfl) ?_
  refine wpAny_bind (wpAny_of_eq (a:=true) KBy.isInstance_eq ?_);rw [if_neg (by decide)];exact wpAny_pure h
theorem qQ{a l:Addr}{code:Array Nat}{kind N:Nat}{x rp:Array Nat}{t u:Tok}{fnd:Nat→Option (Nat×Nat)}(hk:kind≤1)(hx:kind = 1→∀c∈x,c < 256)(hz:x.size≤100000)(hrp:rp.size≤2)
  (hF:∀p,p≤x.size→b6 (forSearch code x 0 p x.size false) (fnd p) N) (hN:N≤2 ^ 62) (hB:∀p a b,fnd p = some (a,b)→p≤a∧a < b∧b≤x.size) (hal:fA (s₀:Heap) a code kind) (hla:l≠a) (J:JoinOk prog w kind):
  ∀(fuel p k:Nat) (s:Shared) (vs:List Value) (ys:List (Array Nat)) (n:Nat),x.size < p+fuel→p≤x.size→IsL s.heap l vs.toArray n→cC kind vs ys→ys.length≤2 * p→(ys.map (·.size)).sum≤3 * p→
  (∀b o,b≠l→s₀.get? b = some o→s.heap.get? b = some o)→s₀.get? l = none→
  (∀h' tk t',(∀b o,b≠l→s.heap.get? b = some o→h'.get? b = some o)→R (.ok (.ret (ca kind ((ys++p7 x rp fnd fuel p).foldr (·++·) #[]) t'))) {s with heap:=h',toks:=tk})→
  codeAny (model prog w) A (.builtin "re.Pattern.sub.loop" ⟨[.ref a,ca kind x t,ca kind rp u,rawInt 0,rawInt 0,rawInt k,rawInt p,rawInt p,.bool false,.ref l,.bool false],[]⟩) R s:=by
 intro fuel
 induction fuel with
 | zero=>intro p k s vs ys n h1 h2;with_reducible exact (t4 ‹_› ‹_›).elim
 | succ fuel ih=>
  intro p k s vs ys n hf hp hL hpc hyl hys hkp hl0 hR;have pat:fA s.heap a code kind:=by
   obtain ⟨o,fs,c,oc,items,m,h1,h2,h3,h4,h5,h6⟩:=hal.ex;exact ⟨o,fs,c,oc,items,m,hkp _ _ (Ne.symm hla) h1,h2,h3,h4,hkp _ _ (fun e=>by rw [e,hl0] at h5;cases h5) h5,h6⟩
  refine codeAny_builtin ia ?_;rw [Around.under_plainId cW _];refine (wpAny_bind (d6 pat hk hx ?_):wpAny _ A.in1 (reWholeTarget (.ref a) (ca kind x t) >>= _) _ _ s);show wpAny _ A.in1 (if ((0:Int)== 0)= true then (reLiteralCannotBeTurned (ca kind rp u) >>= _) else _) _ _ s;refine wT (show ((0:Int)== 0)= true from rfl) ?_;refine wpAny_bind (nO ?_);show wpAny _ A.in1 (reNextFound {pattern:= .ref a,string:=ca kind x t,code,text:=x,kind,groups:=0,pos:=0,lim:=x.size} p false >>= _) _ _ s;refine wpAny_bind (lA (hF p hp) hN ?_);have hzl:x.size≤sizeLine:=by rw [sizeLine_eq];change ue
  have hvl:vs.length≤200000:=by rw [hpc.length];change xC
  have hne:(ca kind rp u != Value.none)= true:=by unfold ca;split <;> rfl
  cases hfn:fnd p with
  | none=>
   dsimp only;have tail:∀(s':Shared) (vs':List Value) (ys':List (Array Nat)) (n':Nat),IsL s'.heap l vs'.toArray n'→cC kind vs' ys'→ys'.length≤1000000→(ys'.map (·.size)).sum≤1000000→
     (∀h' tk t',(∀b o,b≠l→s'.heap.get? b = some o→h'.get? b = some o)→R (.ok (.ret (ca kind (ys'.foldr (·++·) #[]) t'))) {s' with heap:=h',toks:=tk})→
     wpAny (model prog w) A.in1 (reSlice x kind 0 0 >>= fun joiner=>seqItems? (.ref l) >>= fun r=>if (r.getD #[]).isEmpty = true then Pure.pure joiner >>= fun text=>ret text else call (.builtin (if (kind == 0)= true then "str.join" else "bytes.join")) [joiner,.ref l] >>= fun text=>ret text)
      (fun fin s'=>match fin with | .done f=>R (.ok f) s' | .again c'=>c'.quiet = true∧codeAny (model prog w) A c' R s') (fun e s'=>R (.error e) s') s':=by
    intro s' vs' ys' n' hL' hpc' hl1 hl2 hR';refine wpAny_bind (iH hzl ?_);refine wpAny_bind (wpAny_seqItems hL' rfl ?_);rw [show x.extract 0 0 = #[] by simp]
    dsimp only [Option.getD];cases ys' with
    | nil=>
     cases vs' with
     | nil=>
      refine wT (show ((#[]:Array Value).isEmpty = true) from rfl) ?_;exact wpAny_pure (hR' s'.heap _ _ fun Z Y V e=>e)
     | cons _ _=>exact hpc'.elim
    | cons y ys'=>
     cases vs' with
     | nil=>exact hpc'.elim
     | cons v vs'=>
      refine wE (by simp) ?_
      exact wpAny_bind (J hL' hpc' (by simp) hl2 hl1 fun t' k'=>wpAny_pure (hR' s'.heap _ _ fun Z Y V e=>e))
   show wpAny _ A.in1 (if p < x.size then _ else _) _ _ s;have hpcs:p7 x rp fnd (fuel+1) p = if p < x.size then [x.extract p x.size] else []:=by rw [rE];rw [hfn]
   rw [hpcs] at hR
   by_cases hps:p < x.size
   ·rw [if_pos hps] at hR ⊢;refine wpAny_bind (iH hzl ?_);refine wpAny_bind (wpAny_updateSeq hL rfl ?_ (by simp;rw [sizeLine_eq];change oj) (by simp;rw [sizeLine_eq];change oj))
    have hL':=IsL.update hL (fun y=>y.push (ca kind (x.extract p x.size) s.toks));rw [show vs.toArray.push (ca kind (x.extract p x.size) s.toks)=(vs++ [ca kind (x.extract p x.size) s.toks]).toArray by simp] at hL'
    refine tail _ _ (ys++ [x.extract p x.size]) _ hL' (hpc.append ⟨⟨_,rfl⟩,trivial⟩) (by simp;change v9) (by simp;change ww) fun h' tk t' hk'=>?_
    exact hR h' tk t' fun b o hb e=>hk' b o hb ((Heap.get?_update_other _ _ (Ne.symm hb)).trans e)
   ·rw [if_neg hps] at hR ⊢;rw [List.append_nil] at hR;exact tail s vs ys n hL hpc (by change xl) (by change xo) hR
  | some r=>
   obtain ⟨q,b⟩:=r;dsimp only;intro m' e1 e2;subst e1 e2;obtain ⟨hq1,hq2,hq3⟩:=hB p _ _ hfn;have tail:∀(s':Shared) (vs':List Value) (ys':List (Array Nat)) (n':Nat),IsL s'.heap l vs'.toArray n'→cC kind vs' ys'→ys'.length+1≤2 * m'.handed→(ys'.map (·.size)).sum+rp.size≤3 * m'.handed→(∀b o,b≠l→s₀.get? b = some o→s'.heap.get? b = some o)→
     (∀h' tk t',(∀b o,b≠l→s'.heap.get? b = some o→h'.get? b = some o)→R (.ok (.ret (ca kind ((ys'++rp::p7 x rp fnd fuel m'.handed).foldr (·++·) #[]) t'))) {s' with heap:=h',toks:=tk})→
     wpAny (model prog w) A.in1 (Pure.pure (ca kind rp u) >>= fun item=>if (item != Value.none)= true then updateSeq l (fun x=>x.push item) >>= fun Z=>again (.builtin "re.Pattern.sub.loop" ⟨[.ref a,ca kind x t,ca kind rp u,rawInt 0,rawInt 0,rawInt ((k:Int)+1),rawInt m'.handed,rawInt m'.handed,.bool (m'.handed == m'.start),.ref l,.bool false],[]⟩) else again (.builtin "re.Pattern.sub.loop" ⟨[.ref a,ca kind x t,ca kind rp u,rawInt 0,rawInt 0,rawInt ((k:Int)+1),rawInt m'.handed,rawInt m'.handed,.bool (m'.handed == m'.start),.ref l,.bool false],[]⟩))
      (fun fin s'=>match fin with | .done f=>R (.ok f) s' | .again c'=>c'.quiet = true∧codeAny (model prog w) A c' R s') (fun e s'=>R (.error e) s') s':=by
    intro s' vs' ys' n' hL' hpc' hl1 hl2 hkp' hR';refine wpAny_bind (wpAny_pure ?_);refine wT hne ?_;have hvl':=hpc'.length;refine wpAny_bind (wpAny_updateSeq hL' rfl ?_ (by simp;rw [sizeLine_eq];change uA) (by simp;rw [sizeLine_eq];change uA))
    have hL'':=IsL.update hL' (fun y=>y.push (ca kind rp u));rw [show vs'.toArray.push (ca kind rp u)=(vs'++ [ca kind rp u]).toArray by simp] at hL''
    refine wpAny_pure ⟨plainId_quiet cW _,?_⟩;rw [show (m'.handed == m'.start)= false by simp;omega,show ((k:Int)+1)=((k+1:Nat):Int) by push_cast;rfl]
    refine ih m'.handed (k+1) _ _ (ys'++ [rp]) _ (by change xm) hq3 hL'' (hpc'.append ⟨⟨_,rfl⟩,trivial⟩) (by simp;assumption) (by simp;assumption) (fun b o hb e=>(Heap.get?_update_other _ _ (Ne.symm hb)).trans (hkp' b o hb e)) hl0 fun h' tk t' hk'=>?_
    rw [List.append_assoc,List.singleton_append];exact hR' h' tk t' fun b o hb e=>hk' b o hb ((Heap.get?_update_other _ _ (Ne.symm hb)).trans e)
   have hpcs:p7 x rp fnd (fuel+1) p =(if p < m'.start then [x.extract p m'.start] else [])++rp::p7 x rp fnd fuel m'.handed:=by rw [rE,hfn]
   rw [hpcs] at hR;show wpAny _ A.in1 (if p < m'.start then _ else _) _ _ s
   by_cases hps:p < m'.start
   ·rw [if_pos hps] at hR ⊢;refine wpAny_bind (iH hzl ?_);refine wpAny_bind (wpAny_updateSeq hL rfl ?_ (by simp;rw [sizeLine_eq];change oj) (by simp;rw [sizeLine_eq];change oj))
    have hL':=IsL.update hL (fun y=>y.push (ca kind (x.extract p m'.start) s.toks));rw [show vs.toArray.push (ca kind (x.extract p m'.start) s.toks)=(vs++ [ca kind (x.extract p m'.start) s.toks]).toArray by simp] at hL'
    show wpAny _ A.in1 (if ((0:Int)== 0)= true then _ else _) _ _ _;refine wT (show ((0:Int)== 0)= true from rfl) ?_;refine tail _ _ (ys++ [x.extract p m'.start]) _ hL' (hpc.append ⟨⟨_,rfl⟩,trivial⟩) (by simp;change yF) (by simp;change v7) (fun b o hb e=>(Heap.get?_update_other _ _ (Ne.symm hb)).trans (hkp b o hb e)) fun h' tk t' hk'=>?_
    rw [List.append_assoc];exact hR h' tk t' fun b o hb e=>hk' b o hb ((Heap.get?_update_other _ _ (Ne.symm hb)).trans e)
   ·rw [if_neg hps] at hR ⊢;rw [List.nil_append] at hR;show wpAny _ A.in1 (if ((0:Int)== 0)= true then _ else _) _ _ _;refine wT (show ((0:Int)== 0)= true from rfl) ?_;exact tail s vs ys n hL hpc (by change yb) (by change xB) hkp hR
end
end
section
open PySem.Sre PySem.Sre.M PySem.Builtin PySem.Builtin.Re
theorem pC{α:Type}(f:α→Array Nat):∀(l:List α) (acc:Array Nat),l.foldl (fun a p=>a++#[]++f p) acc = acc++(l.map f).foldr (·++·) #[]:=by
 intro zl
 induction zl with
 | nil=>
  intro acc;simp
 | cons p l ih=>
  intro acc;rw [List.foldl_cons,ih];simp
theorem eX(ys:List (Array Nat)):Txt.join ⟨#[]⟩ (ys.map fun y=>(⟨y⟩:Str))=⟨ys.foldr (·++·) #[]⟩:=by
 unfold Txt.join Str.glued;cases ys with
 | nil=>rfl
 | cons y ys=>
  simp only [List.map_cons,List.drop_succ_cons,List.drop_zero,List.headD_cons,List.foldr_cons];rw [pC (fun p:Str=>p.cps)]
  congr 2
  rw [List.map_map];simp [Function.comp_def]
section
variable {prog:Program}{w:World}
theorem sN:JoinOk prog w 0:=by
 intro A E s l vs n ys t Q hL hp hne h1 h2 h;refine (join_list hL.isList (by simpa using hp.strs) ?_ fun t' k=>?_:wpAny _ A (call (.builtin "str.join") [.str ⟨#[]⟩ t,.ref l]) Q E s)
 ·simp only [List.map_map,Function.comp];have e:((fun x:Str=>x.length)∘ fun y=>(⟨y⟩:Str))= fun y:Array Nat=>y.size:=rfl;show (ys.map fun y:Array Nat=>y.size).sum+(ys.map fun y=>(⟨y⟩:Str)).length * 0≤16777216
  change yh
 ·rw [eX];exact h t' k
theorem my:Slot "bytes" "join" "bytes.join" :=
 .of (owner:= "bytes") (n:= "join") (by rw [typeLookup_type,builtinLookup_eq_fast];kernel_rfl) (by decide+kernel) (by decide+kernel) (by decide+kernel)
  (by first | exact .inl (by decide+kernel) | exact .inr (by decide+kernel)) (by rw [isSubtype_type];kernel_rfl)
theorem mq:entryFor table "bytes.join" = some Builtin.«bytes.join»:=entryFor_of_tree (by kernel_rfl)
theorem nU(a b:Value):argsOk "bytes.join" ⟨[a,b],[]⟩:=by unfold argsOk;kernel_rfl
theorem nc{id:String}{b:Array UInt8}{t:Tok}:Bytes.takeBufferQuiet? id (.bytes b t) 0 = Pure.pure (some (b,none)):=by
 have e:Bytes.takeBuffer? id (.bytes b t) 0 = Pure.pure (some (b,none)):=by
  unfold Bytes.takeBuffer?;rw [KBy.special_eq KBy.look_buffer,KBy.own_buffer];show (Bytes.buffer? id (.bytes b t) >>= _)= _;rw [KBy.buffer_eq]
  kernel_rfl
 unfold Bytes.takeBufferQuiet?;rw [e];rfl
theorem mT(parts:List (Array UInt8)):Bytes.joined #[] parts = parts.foldr (·++·) #[]:=by
 unfold Bytes.joined;have key:∀(l:List (Array UInt8)) (k:Nat) (acc:Array UInt8),(l.zipIdx k).foldl (fun out (p:Array UInt8×Nat)=>(if p.2 > 0 then out++#[] else out)++p.1) acc = acc++l.foldr (·++·) #[]:=by
  intro l
  induction l with
  | nil=>intro k acc;simp
  | cons p l ih=>intro k acc;rw [List.zipIdx_cons,List.foldl_cons,ih];simp
 have:=key parts 0 #[];simpa using this
theorem qB(ys:List (Array Nat)):(ys.map fun y=>y.map (·.toUInt8)).foldr (·++·) #[] =(ys.foldr (·++·) #[]).map (·.toUInt8):=by
 induction ys with
 | nil=>simp
 | cons y ys ih=>simp only [List.map_cons,List.foldr_cons,ih,Array.map_append]
theorem py(ys:List (Array Nat)):(ys.foldr (·++·) #[]).size =(ys.map (·.size)).sum:=by
 induction ys with
 | nil=>rfl
 | cons y ys ih=>simp [ih]
theorem cC.get1:∀{vs:List Value} {ys:List (Array Nat)},cC 1 vs ys→∀{i:Nat} {y:Array Nat},ys[i]? = some y→∃t,vs[i]? = some (.bytes (y.map (·.toUInt8)) t)
 | [],[],_,_,_,h=>by simp at h
 | _::_,_::_,hp,0,y,h=>by simp at h;subst h;obtain ⟨⟨t,rfl⟩,_⟩:=hp;exact ⟨t,rfl⟩
 | _::_,_::_,hp,i+1,y,h=>by simp at h;simpa using hp.2.get1 h
 | [],_::_,h,_,_,_=>h.elim
 | _::_,[],h,_,_,_=>h.elim
theorem j0{M:Model}{A:Around}{E:Value→Shared→Prop}{s:Shared}{Q:Unit→Shared→Prop}{keep:List Value}(h:Q () s):∀{taken:List (Value×Option Value)},(∀p∈taken,p.2 = none)→wpAny M A (Bytes.joinLetGo taken keep) Q E s:=by
 intro zl
 induction zl with
 | nil=>
  intro _;exact wpAny_pure h
 | cons zq rest ih=>
  obtain ⟨x,w⟩:=zq;intro hn;have:w = none:=hn _ (.head _);subst this;exact (wpAny_bind (wpAny_letGo (ih fun p hp=>hn p (.tail _ hp))):wpAny M A (letGo _ _ >>= fun Z=>Bytes.joinLetGo rest keep) Q E s)
theorem nT{M:Model}{A:Around}{E:Value→Shared→Prop}{s:Shared}{σ:Type}{n:Nat}{b0:σ}{B:Nat→σ→Sem (ForInStep σ)}{Q:σ→Shared→Prop}(I:Nat→σ→Prop)(h0:I 0 b0)
  (step:∀i b,i < n→I i b→wpAny M A (B i b) (fun r s'=>s' = s∧∃b',r = .yield b'∧I (i+1) b') E s) (fin:∀b,I n b→Q b s):wpAny M A (forIn [:n] b0 B) Q E s:=by
 rw [Std.Legacy.Range.forIn_eq_forIn_range'];refine wpAny_forIn_list _ (fun rest b s'=>s' = s∧∃i,i+rest.length = n∧rest = List.range' i rest.length∧I i b) _ ?_ ?_ _ _ ?_
 ·rintro x rest b s' ⟨rfl,j,hj1,hj2,hj3⟩;rw [List.length_cons,List.range'_succ,List.cons.injEq] at hj2;obtain ⟨rfl,hj2⟩:=hj2;refine wpAny_mono (step x b (by simp at hj1;change xY) hj3) (fun r s'' z=>?_) fun Z Y z=>z
  obtain ⟨rfl,b',rfl,hi⟩:=z;exact ⟨rfl,x+1,by simp at hj1;change x8,hj2,hi⟩
 ·rintro b s' ⟨rfl,j,hj1,hj2,hj3⟩;have:j = n:=by simpa using hj1
  exact fin b (this▸hj3)
 ·exact ⟨rfl,0,by simp [Std.Legacy.Range.size],by simp [Std.Legacy.Range.size],h0⟩
inductive wf(ys:List (Array Nat))(i:Nat)(b:Array (Array UInt8)×List (Value×Option Value)):Prop
 | mk (h:b.1 =((ys.take i).map fun y=>y.map (·.toUInt8)).toArray) (k:∀p∈b.2,p.1.onHeap = false∧p.2 = none)
theorem u9{ys:List (Array Nat)}(hp:cC 1 [] ys)(hne:ys≠ []):False:=by
 cases ys with
 | nil=>exact absurd rfl hne
 | cons _ _=>exact hp.elim
theorem sR:JoinOk prog w 1:=by
 intro A E s l vs n ys t Q hL hp hne h1 h2 h;have e0:ca 1 #[] t = .bytes #[] t:=by simp [ca]
 rw [e0,if_neg (by decide)]
 refine wpAny_call_entry my (typeIs_bytes s _ _) mq ?_ (nU _ _);unfold «bytes.join» Bytes.joinM;show wpAny _ A.in1 (Bytes.joinItems (.ref l) >>= _) _ _ s;have hj:∀{Q':Value→Shared→Prop},Q' (.ref l) s→wpAny (model prog w) A.in1 (Bytes.joinItems (.ref l)) Q' E s:=fun {Q'} hq=>by
  unfold Bytes.joinItems;refine wpAny_bind (wpAny_typeOf (T:= "list") ⟨_,hL,rfl⟩ ?_);refine wT (by decide) ?_
  exact wpAny_pure hq
 refine wpAny_bind (hj ?_);refine wpAny_bind (wpAny_seqItems hL rfl ?_);dsimp only;refine wT (by decide) ?_
 rcases vs with _ | ⟨v1,_ | ⟨v2,r⟩⟩
 ·exact (u9 hp hne).elim
 ·rcases ys with _ | ⟨y1,_ | ⟨y2,yr⟩⟩
  ·exact hp.elim
  rotate_left
  ·exact hp.2.elim
  obtain ⟨⟨t',rfl⟩,_⟩:=hp;refine (wpAny_bind (wpAny_typeOf (T:= "bytes") (typeIs_bytes s _ _) ?_):wpAny _ A.in1 (typeOf (ca 1 y1 t') >>= _) _ _ s);refine wT (by decide) ?_
  refine wpAny_bind (wpAny_rule (wpAny_pure ⟨_,rfl,?_⟩));have:=h t' s.toks;have e1:List.foldr (fun x1 x2:Array Nat=>x1++x2) #[] [y1] = y1:=by simp
  rw [e1] at this;exact this
 ·rcases ys with _ | ⟨y1,_ | ⟨y2,yr⟩⟩
  ·exact hp.elim
  ·exact hp.2.elim
  show wpAny _ A.in1 (forIn [:(v1::v2::r).toArray.size] ((#[]:Array (Array UInt8)),([]:List (Value×Option Value))) _ >>= _) _ _ s;have hlen:(v1::v2::r).length =(y1::y2::yr).length:=hp.length
  ·refine wpAny_bind (nT (wf (y1::y2::yr)) ⟨rfl,fun p hpm=>(nomatch hpm)⟩ ?_ ?_)
   ·rintro i ⟨parts,taken⟩ hi ⟨hj3,hj4⟩;have hlt:i < (y1::y2::yr).length:=hlen▸hi;obtain ⟨t',hv⟩:=hp.get1 (gE hlt);refine wpAny_bind (wpAny_seqItems hL rfl ?_);have hx:(v1::v2::r).toArray.getD i Value.none = .bytes ((y1::y2::yr)[i].map (·.toUInt8)) t':=by
     rw [Array.getD_eq_getD_getElem?,List.getElem?_toArray,hv];rfl
    have hany:(taken.any fun x=>x.fst.onHeap)= false:=by
     rw [List.any_eq_false];intro p hpm;rw [(hj4 p hpm).1];decide
    dsimp only at hj3 ⊢;refine wE (by rw [hany];decide) ?_
    rw [hx];refine wpAny_bind (wpAny_holding (wpAny_of_eq nc ?_));refine wpAny_bind (wpAny_seqItems hL rfl ?_);dsimp only;refine wE (by simp) ?_
    refine wpAny_pure ⟨rfl,_,rfl,?_,?_⟩
    ·show parts.push _ = _;rw [hj3,List.take_add_one,gE hlt,Option.toList_some,List.map_append,List.push_toArray];rfl
    ·intro p hpm;rcases mA hpm with hpm | hpm
     ·exact hj4 p hpm
     ·simp at hpm;subst hpm;exact ⟨rfl,rfl⟩
   ·rintro ⟨parts,taken⟩ ⟨hj3,hj4⟩;replace hj3:parts =((y1::y2::yr).map fun y=>y.map (·.toUInt8)).toArray:=by rw [← List.take_length (l:=y1::y2::yr),← hlen];exact hj3
    dsimp only at hj3 ⊢;refine wpAny_bind (wpAny_pure ?_);have hsz:((y1::y2::yr).foldr (·++·) #[]).size≤1000000:=by rw [py];exact h1
    have hfold:∀(l:List (Array Nat)) (k:Nat),(l.map fun y=>y.map (·.toUInt8)).foldl (fun x1 (x2:Array UInt8)=>x1+x2.size) k = k+(l.map (·.size)).sum:=by
     intro l
     induction l with
     | nil=>intro k;simp
     | cons y l ih=>intro k;simp only [List.map_cons,List.foldl_cons,ih,Array.size_map,List.sum_cons];with_reducible exact Nat.add_assoc _ _ _
    rw [if_neg (by
     rw [hj3];rw [show Array.foldl (fun x1 (x2:Array UInt8)=>x1+x2.size) ((#[]:Array UInt8).size *((List.map (fun y:Array Nat=>y.map (·.toUInt8)) (y1::y2::yr)).toArray.size - 1)) (List.map (fun y:Array Nat=>y.map (·.toUInt8)) (y1::y2::yr)).toArray = 0+((y1::y2::yr).map (·.size)).sum by
      rw [List.foldl_toArray' _ _ _ rfl];simp only [List.size_toArray];rw [hfold];simp]
     rw [KBy.tooLong_not (by change xH)];decide)]
    rw [hj3,mT,qB];show wpAny _ _ (mkBytes _ >>= _) _ _ _;refine wpAny_bind (wpAny_mkBytes ?_ (by rw [Array.size_map,sizeLine_eq];change wV))
    refine wpAny_bind (wpAny_holding (wpAny_point ?_));refine wpAny_bind (j0 ?_ fun p hpm=>(hj4 p hpm).2);exact wpAny_pure ⟨_,rfl,h _ _⟩
end
end
section
open PySem.Builtin PySem.Builtin.Re
theorem lG:Slot "re.Pattern" "sub" "re.Pattern.sub" :=
 .of (owner:= "re.Pattern") (n:= "sub") (by rw [typeLookup_type,builtinLookup_eq_fast];kernel_rfl) (by decide+kernel) (by decide+kernel) (by decide+kernel)
  (by first | exact .inl (by decide+kernel) | exact .inr (by decide+kernel)) (by rw [isSubtype_type];kernel_rfl)
theorem entry_sub:entryFor table "re.Pattern.sub" = some Builtin.«re.Pattern.sub»:=entryFor_of_tree (by kernel_rfl)
theorem pX:plainId "re.Pattern.sub" = true:=by decide+kernel
theorem sG(a b c:Value):argsOk "re.Pattern.sub" ⟨[a,b,c],[]⟩:=by unfold argsOk;kernel_rfl
theorem ix:PlainAttrs "re.Pattern" :=
 ⟨⟨"object.__getattribute__",by rw [typeLookup_type,builtinLookup_eq_fast];kernel_rfl,by decide+kernel⟩,by rw [typeLookup_type,builtinLookup_eq_fast];kernel_rfl⟩
theorem sw:typeOf (.builtin "re.Pattern.sub")= Pure.pure (.type "method_descriptor"):=by kernel_rfl
theorem jk:typeLookup (.type "str") "__call__" = Pure.pure none:=by rw [typeLookup_type,builtinLookup_eq_fast];kernel_rfl
theorem gO:typeLookup (.type "bytes") "__call__" = Pure.pure none:=by rw [typeLookup_type,builtinLookup_eq_fast];kernel_rfl
theorem pP(a b:Value):reNamed "re.Pattern.sub" "sub" ["repl","string","count"] 2 [a,b] [] = Pure.pure [some a,some b,none]:=rfl
section
variable {prog:Program}{w:World}{A:Around}{E:Value→Shared→Prop}{s:Shared}
theorem iW{a:Addr}{code:Array Nat}{kind N:Nat}{x rp:Array Nat}{t u:Tok}{fnd:Nat→Option (Nat×Nat)}{Q:Value→Shared→Prop}(hk:kind≤1)(hx:kind = 1→∀c∈x,c < 256)(hz:x.size≤100000)(hrp:rp.size≤2)(hlit:92∉rp)(hrb:kind = 1→∀c∈rp,c < 256)
  (hF:∀p,p≤x.size→b6 (Sre.forSearch code x 0 p x.size false) (fnd p) N) (hN:N≤2 ^ 62) (hB:∀p a b,fnd p = some (a,b)→p≤a∧a < b∧b≤x.size) (hal:fA s.heap a code kind)
  (h:∀h' tk t',(∀b o,s.heap.get? b = some o→h'.get? b = some o)→Q (ca kind ((p7 x rp fnd (x.size+1) 0).foldr (·++·) #[]) t') {s with heap:=h',toks:=tk}):
  wpAny (model prog w) A (call (.builtin "re.Pattern.sub") [.ref a,ca kind rp u,ca kind x t]) Q E s:=by
 obtain ⟨o,fs,c,oc,items,m,g1,g2,g3⟩:=hal.ex;refine wpAny_call (codeAny_call_builtin pX entry_sub (lG.check _ _ _ _ _ _ _ _ ⟨o,g1,g2⟩ (sG _ _ _) ?_));show wpAny _ A.in1 (reSubstitute "re.Pattern.sub" "sub" false ⟨[.ref a,ca kind rp u,ca kind x t],[]⟩) _ _ s;unfold reSubstitute;dsimp only;rw [pP];refine wpAny_bind (wpAny_pure ?_);dsimp only;refine wpAny_bind (wpAny_pure ?_);have hsp:∀{Q':Option Value→Shared→Prop},Q' none s→wpAny (model prog w) A.in1 (specialOf (ca kind rp u) "__call__") Q' (fun e s'=>qe Q E (.error e) s') s:=fun {Q'} hq=>by
  unfold ca
  by_cases hk0:kind = 0
  ·rw [if_pos hk0];exact wpAny_specialOf (typeIs_str _ _ _) jk hq
  ·rw [if_neg hk0];exact wpAny_specialOf (typeIs_bytes _ _ _) gO hq
 refine wpAny_bind (hsp ?_);refine wE (by decide) ?_
 refine wpAny_bind ?_;have main:wpAny (model prog w) A.in1 (holding [ca kind rp u] (reWholeTarget (.ref a) (ca kind x t)) >>= fun Z=>newList [] >>= fun l=>again (.builtin "re.Pattern.sub.loop" ⟨[.ref a,ca kind x t,ca kind rp u,rawInt 0,rawInt 0,rawInt 0,rawInt 0,rawInt 0,.bool false,l,.bool false],[]⟩))
   (fun fin s'=>match fin with | .done f=>qe Q E (.ok f) s' | .again c'=>c'.quiet = true∧codeAny (model prog w) A c' (qe Q E) s') (fun e s'=>qe Q E (.error e) s') s:=by
  refine wpAny_bind (wpAny_holding (d6 hal hk hx ?_));refine wpAny_bind (wpAny_newList ?_ (by simp))
  refine wpAny_pure ⟨plainId_quiet cW _,?_⟩;have hal':fA s.heap a code kind:=hal;have hne:s.heap.objs.size≠a:=fun e=>absurd (e▸Heap.lt_size g1) (Nat.lt_irrefl _);refine qQ (s₀:=s.heap) hk hx hz hrp hF hN hB hal hne (by rcases (Nat.le_one_iff_eq_zero_or_eq_one.mp hk) with rfl | rfl <;> first | exact sN | exact sR) (x.size+1) 0 0 _ [] [] 0 (by omega) (Nat.zero_le _) (IsL.new _ _) trivial (by simp) (by simp) (fun b o hb e=>Heap.get?_push_of_some _ e) (aw _) fun h' tk t' hk'=>?_
  exact h h' tk t' fun b o e=>hk' b o (fun q=>absurd (q▸Heap.lt_size e) (Nat.lt_irrefl _)) (Heap.get?_push_of_some _ e)
 have hlit':∀{y:Array Nat},92∉y→y.contains 92 = false:=fun {y} hy=>by simpa using hy
 rcases (Nat.le_one_iff_eq_zero_or_eq_one.mp hk) with rfl | rfl
 ·refine wpAny_of_eq (a:=some ⟨rp⟩) rfl ?_;dsimp only;rw [hlit' hlit];exact main
 ·refine wpAny_of_eq (a:=none) rfl ?_;dsimp only;refine wpAny_bind (wpAny_of_eq (a:=some (rp.map (·.toUInt8))) KBy.quiet_eq ?_);dsimp only;have:(rp.map (·.toUInt8)).contains 92 = false:=by
   rw [← Bool.not_eq_true,Array.contains_iff_mem];intro hm;obtain ⟨c,hc,e⟩:=Array.mem_map.mp hm;have h256:=hrb rfl c hc;have:c = 92:=by
    have:=congrArg UInt8.toNat e;simp only [Nat.toUInt8_eq,UInt8.toNat_ofNat'] at this;have h92:(92:UInt8).toNat = 92:=rfl
    change wy
   exact hlit (this▸hc)
  rw [this];exact main
end
end
section
open PySem.Builtin PySem.Builtin.Re
noncomputable def fixF:Bool→List Nat→List Nat
 | _,[]=> []
 | b,c::r=>if c = 13 then 13::10::fixF true r else if c = 10 then (if b then fixF false r else 13::10::fixF false r) else c::fixF false r
theorem ei(b:Bool)(c:Nat)(r:List Nat):fixF b (c::r)= if c = 13 then 13::10::fixF true r else if c = 10 then (if b then fixF false r else 13::10::fixF false r) else c::fixF false r:=rfl
theorem tm(b:Bool)(r:List Nat):fixF b (13::r)= 13::10::fixF true r:=by rw [ei,if_pos rfl]
theorem qF(r:List Nat):fixF true (10::r)= fixF false r:=by rw [ei,if_neg (by decide),if_pos rfl,if_pos rfl]
theorem qz(r:List Nat):fixF false (10::r)= 13::10::fixF false r:=by rw [ei,if_neg (by decide),if_pos rfl,if_neg (by decide)]
theorem uI(b:Bool){c:Nat}(r:List Nat)(h1:c≠10)(h2:c≠13):fixF b (c::r)= c::fixF false r:=by rw [ei,if_neg h2,if_neg h1]
noncomputable def aZ:Bool→List Nat→List Nat
 | _,[]=> []
 | b,c::r=>if b = true∧c = 46 then 46::46::aZ false r else c::aZ (c == 10) r
theorem dI(b:Bool)(c:Nat)(r:List Nat):aZ b (c::r)= if b = true∧c = 46 then 46::46::aZ false r else c::aZ (c == 10) r:=rfl
theorem kq{x:Array Nat}{p q:Nat}(h:p < q)(hq:q≤x.size):(x.extract p q).toList = x.getD p 0::(x.extract (p+1) q).toList:=by
 rw [Array.toList_extract,Array.toList_extract,List.extract_eq_take_drop,List.extract_eq_take_drop,List.drop_eq_getElem_cons (by simp;change Nat.lt_of_lt_of_le)]
 rw [show q - p =(q - (p+1))+1 by change yy,List.take_succ_cons]
 simp [Array.getD_eq_getD_getElem?,show p < x.size by change Nat.lt_of_lt_of_le]
theorem ku{x:Array Nat}{P:Nat→Bool}{F:Nat→List Nat}(hs:∀p,p < x.size→P p = false→F p = x.getD p 0::F (p+1)):
  ∀(n p q:Nat),q - p = n→p≤q→q≤x.size→(∀k,p≤k→k < q→P k = false)→F p =(x.extract p q).toList++F q:=by
 intro zl
 induction zl with
 | zero=>
  intro p q hn hp hq _;have:p = q:=by change uS
  subst this;simp
 | succ n ih=>
  intro p q hn hp hq hP;rw [hs p (by change wn) (hP p (Nat.le_refl _) (by change tI)),kq (by change tI) hq,List.cons_append,← ih (p+1) q (by change sd) (by change q5) hq fun k h1 h2=>hP k (by change Nat.le_of_succ_le) h2]
theorem q4{x rp:Array Nat}{P:Nat→Bool}{len:Nat→Nat}{F:Nat→List Nat}(hs:∀p,p < x.size→P p = false→F p = x.getD p 0::F (p+1))(he:F x.size = [])
  (hh:∀q,q < x.size→P q = true→0 < len q∧q+len q≤x.size∧F q = rp.toList++F (q+len q)):
  ∀(fuel p:Nat),x.size < p+fuel→p≤x.size→((p7 x rp (fun p=>(bz P x.size (x.size+1 - p) p).map fun q=>(q,q+len q)) fuel p).foldr (·++·) #[]).toList = F p:=by
 intro zl
 induction zl with
 | zero=>
  intro p h1 h2
  with_reducible exact (t4 ‹_› ‹_›).elim
 | succ fuel ih=>
  intro p h1 h2;rw [rE];cases hf:bz P x.size (x.size+1 - p) p with
  | none=>
   have hno:=kV hf (by rw [Nat.add_sub_cancel' (Nat.le_succ_of_le h2)];exact Nat.le_succ _)
   have:=ku hs _ p x.size rfl h2 (Nat.le_refl _) hno;rw [he,List.append_nil] at this;show (List.foldr (fun x1 x2:Array Nat=>x1++x2) #[] (if p < x.size then [x.extract p x.size] else [])).toList = _
   by_cases hp:p < x.size
   ·rw [if_pos hp,this];simp
   ·rw [if_neg hp,this,show p = x.size by change uu];simp
  | some q=>
   obtain ⟨hq1,hq2,hq3,hq4⟩:=dc hf;obtain ⟨l1,l2,l3⟩:=hh q hq2 hq3;have:=ku hs _ p q rfl hq1 (Nat.le_of_lt hq2) hq4;show (List.foldr (fun x1 x2:Array Nat=>x1++x2) #[] ((if p < q then [x.extract p q] else [])++rp::p7 x rp _ fuel (q+len q))).toList = _;rw [this,l3,← ih (q+len q) (by change xn) l2]
   by_cases hp:p < q
   ·rw [if_pos hp];simp
   ·rw [if_neg hp,show p = q by change uu];simp
theorem drop_cons{x:Array Nat}{p:Nat}(h:p < x.size):x.toList.drop p = x.getD p 0::x.toList.drop (p+1):=by
 rw [List.drop_eq_getElem_cons (by simpa using h)]
 simp [Array.getD_eq_getD_getElem?,h]
theorem qf{r:List Nat}(h:∀c r',r = c::r'→c≠10):fixF true r = fixF false r:=by
 cases r with
 | nil=>rfl
 | cons c r'=>
  have:=h c r' rfl;rw [ei,ei];rw [if_neg this,if_neg this]
noncomputable def kb(x:Array Nat):Nat→Option (Nat×Nat):=fun p=>(bz (fx x) x.size (x.size+1 - p) p).map fun q=>(q,q+dN x x.size q)
noncomputable def iD(x:Array Nat):Nat→Option (Nat×Nat):=fun p=>(bz (je x) x.size (x.size+1 - p) p).map fun q=>(q,q+1)
theorem ow{x:Array Nat}{q:Nat}(hq:q < x.size)(h:fx x q = true):0 < dN x x.size q∧q+dN x x.size q≤x.size∧fixF false (x.toList.drop q)= [13,10]++fixF false (x.toList.drop (q+dN x x.size q)):=by
 rw [drop_cons hq];unfold fx at h;unfold dN;rw [Bool.or_eq_true,beq_iff_eq,beq_iff_eq] at h
 by_cases h13:x.getD q 0 = 13
 ·rw [h13];rw [show ((13:Nat)== 13)= true from rfl,Bool.true_and,tm]
  by_cases h10:(decide (q+1 < x.size)&& x.getD (q+1) 0 == 10)= true
  ·rw [if_pos h10];rw [Bool.and_eq_true,decide_eq_true_eq,beq_iff_eq] at h10;refine ⟨by decide,by change xt,?_⟩
   rw [drop_cons h10.1,h10.2,qF];rfl
  ·rw [if_neg h10];refine ⟨by decide,by change rA,?_⟩
   have key:fixF true (x.toList.drop (q+1))= fixF false (x.toList.drop (q+1)):=qf fun c r' e hc=>by
    apply h10;have hlt:q+1 < x.size:=by
     refine Nat.lt_of_not_le fun hle=>?_;rw [List.drop_eq_nil_of_le (by simpa using hle)] at e;cases e
    rw [drop_cons hlt] at e;cases e;rw [Bool.and_eq_true,decide_eq_true_eq,beq_iff_eq];exact ⟨hlt,hc⟩
   rw [key];rfl
 ·have h10:x.getD q 0 = 10:=h.resolve_right h13;have e:(x.getD q 0 == 13 &&(decide (q+1 < x.size)&& x.getD (q+1) 0 == 10))= false:=by rw [h10];rfl
  rw [e,if_neg Bool.false_ne_true,h10,qz];exact ⟨by decide,by change rA,rfl⟩
theorem tU(x:Array Nat):((p7 x #[13,10] (kb x) (x.size+1) 0).foldr (·++·) #[]).toList = fixF false x.toList:=by
 have:=q4 (x:=x) (rp:=#[13,10]) (P:=fx x) (len:=fun q=>dN x x.size q) (F:=fun p=>fixF false (x.toList.drop p)) (fun p hp hP=>?_) (by rw [← Array.length_toList,List.drop_length];rfl) (fun q hq hP=>ow hq hP) (x.size+1) 0 (by change k9) (Nat.zero_le _)
 ·exact this
 ·rw [drop_cons hp];unfold fx at hP;rw [Bool.or_eq_false_iff,beq_eq_false_iff_ne,beq_eq_false_iff_ne] at hP;rw [uI _ _ hP.1 hP.2]
noncomputable def nZ(x:Array Nat)(p:Nat):Bool:=p == 0 || x.getD (p - 1) 0 == 10
theorem o6(x:Array Nat):((p7 x #[46,46] (iD x) (x.size+1) 0).foldr (·++·) #[]).toList = aZ true x.toList:=by
 have bol_succ:∀p,nZ x (p+1)=(x.getD p 0 == 10):=fun p=>by unfold nZ;simp
 have:=q4 (x:=x) (rp:=#[46,46]) (P:=je x) (len:=fun q=>1) (F:=fun p=>aZ (nZ x p) (x.toList.drop p)) (fun p hp hP=>?_) (by rw [← Array.length_toList,List.drop_length];rfl) (fun q hq hP=>⟨by decide,by change rA,?_⟩) (x.size+1) 0 (by change k9) (Nat.zero_le _)
 ·exact this
 ·rw [drop_cons hp,bol_succ,dI,if_neg];rintro ⟨h1,h2⟩;unfold je at hP;unfold nZ at h1;rw [h1,h2] at hP;cases hP
 ·rw [drop_cons hq,bol_succ];unfold je at hP;rw [Bool.and_eq_true,beq_iff_eq] at hP;rw [hP.2,dI,if_pos ⟨hP.1,rfl⟩];rfl
theorem pK{x:Array Nat}(p a b:Nat)(h:kb x p = some (a,b)):p≤a∧a < b∧b≤x.size:=by
 unfold kb at h;obtain ⟨q,hf,e⟩:=oM h;obtain ⟨h1,h2,h3,_⟩:=dc hf;obtain ⟨l1,l2,_⟩:=ow h2 h3;cases e
 change xd
theorem jK{x:Array Nat}(p a b:Nat)(h:iD x p = some (a,b)):p≤a∧a < b∧b≤x.size:=by
 unfold iD at h;obtain ⟨q,hf,e⟩:=oM h;obtain ⟨h1,h2,h3,_⟩:=dc hf;cases e
 change vN
structure i7(G:Gd)(a:Addr)(code:Array Nat)(kind:Nat):Prop where
 pat:fA G.h₀ a code kind
 obj:∃o,G.h₀.get? a = some o∧o.dict = none∧o.cls = .type "re.Pattern"
section
variable {G:Gd}{cx:Cx}{fm:Fm}{X:Value→St→Prop}{W₀ W:Wd}{st:St}{s:Shared}{Q:AV→St→Prop}
theorem Mth.sub{a:Addr}{code:Array Nat}{kind:Nat}(p:i7 G a code kind):nj G cx fm X (.raw (.ref a)) "sub" (.builtin "re.Pattern.sub") [.raw (.ref a)] st:=by
 intro W s A E pl Q v hA hR rv hQ;have rv':=rv;simp only [qC] at rv;subst rv;obtain ⟨o,h1,h2,h3⟩:=p.obj;have ho:=hR.keep _ _ h1;exact getMethod_builtin ⟨o,ho,h3⟩ ix lG sw (fun b e=>by cases e;exact ⟨o,ho,h2⟩) (hQ [.ref a] s.toks (au.cons rv' au.nil))
theorem Cal.subEol{a:Addr}{x:Str}(p:i7 G a aJ 0)(hz:x.length≤100000)(h:Q (.str ⟨(fixF false x.cps.toList).toArray⟩) st):bB G cx fm X (.builtin "re.Pattern.sub") [.raw (.ref a),.str ⟨#[13,10]⟩,.str x] st Q:=by
 intro W₀ vs rs W s A hA hW hR hT;obtain ⟨_,_,rfl,rfl,_,_,rfl,⟨u,rfl⟩,_,_,rfl,⟨t,rfl⟩,rfl⟩:=rs;refine iW (kind:=0) (x:=x.cps) (rp:=#[13,10]) (fnd:=kb x.cps) (by decide) (fun e=>by cases e) hz (by decide) (by simp) (fun e=>by cases e) (fun p hp=>tr) (by decide) pK (p.pat.keeps hR.keep) fun h' tk t' hk=>?_
 refine ⟨W,st,.str ⟨(fixF false x.cps.toList).toArray⟩,.refl _,hR.keeps hk,?_,h⟩;simp only [kz];refine ⟨t',?_⟩;rw [← tU];rfl
theorem Cal.subDot{a:Addr}{x:Str}(p:i7 G a bR 0)(hz:x.length≤100000)(h:Q (.str ⟨(aZ true x.cps.toList).toArray⟩) st):bB G cx fm X (.builtin "re.Pattern.sub") [.raw (.ref a),.str ⟨#[46,46]⟩,.str x] st Q:=by
 intro W₀ vs rs W s A hA hW hR hT;obtain ⟨_,_,rfl,rfl,_,_,rfl,⟨u,rfl⟩,_,_,rfl,⟨t,rfl⟩,rfl⟩:=rs;refine iW (kind:=0) (x:=x.cps) (rp:=#[46,46]) (fnd:=iD x.cps) (by decide) (fun e=>by cases e) hz (by decide) (by simp) (fun e=>by cases e) (fun p hp=>n7) (lT (Nat.add_le_add_right (Nat.mul_le_mul_left 3 hz) 10) (by decide)) jK (p.pat.keeps hR.keep) fun h' tk t' hk=>?_
 refine ⟨W,st,.str ⟨(aZ true x.cps.toList).toArray⟩,.refl _,hR.keeps hk,?_,h⟩;simp only [kz];refine ⟨t',?_⟩;rw [← o6];rfl
theorem Cal.subDotB{a:Addr}{x:List Nat}(p:i7 G a bR 1)(hz:x.length≤100000)(hx:∀c∈x,c < 256)(h:Q (.bytes ((aZ true x).map (·.toUInt8)).toArray) st):bB G cx fm X (.builtin "re.Pattern.sub") [.raw (.ref a),.bytes #[46,46],.bytes (x.map (·.toUInt8)).toArray] st Q:=by
 intro W₀ vs rs W s A hA hW hR hT;obtain ⟨_,_,rfl,rfl,_,_,rfl,⟨u,rfl⟩,_,_,rfl,⟨t,rfl⟩,rfl⟩:=rs;have e1:Value.bytes #[46,46] u = ca 1 #[46,46] u:=by unfold ca;rw [if_neg (by decide)];simp
 have e2:Value.bytes (x.map (·.toUInt8)).toArray t = ca 1 x.toArray t:=by unfold ca;rw [if_neg (by decide)];simp
 have hz':x.toArray.size≤100000:=by simpa using hz
 rw [e1,e2];refine iW (kind:=1) (x:=x.toArray) (rp:=#[46,46]) (fnd:=iD x.toArray) (by decide) (fun Z c hc=>hx c (by simpa using hc)) hz' (by decide) (by simp) (fun Z c hc=>by simp at hc;change wR) (fun p hp=>n7) (by change wt) jK (p.pat.keeps hR.keep) fun h' tk t' hk=>?_
 refine ⟨W,st,.bytes ((aZ true x).map (·.toUInt8)).toArray,.refl _,hR.keeps hk,?_,h⟩;simp only [qX];refine ⟨t',?_⟩;have:=o6 x.toArray;rw [show aZ true x = aZ true x.toArray.toList by simp,← this]
 unfold ca;rw [if_neg (by decide)]
 generalize List.foldr _ _ _ = y;obtain ⟨y⟩:=y;simp
end
end
section
noncomputable abbrev z9:Addr:=163
noncomputable abbrev yn:Addr:=168
noncomputable abbrev AM:Addr:=173
noncomputable abbrev su:Addr:=180
noncomputable abbrev mu:Addr:=187
noncomputable abbrev uo:Addr:=194
noncomputable abbrev q7:Addr:=201
noncomputable abbrev fText:Addr:=208
noncomputable abbrev oK:Addr:=213
noncomputable abbrev sC:Addr:=218
noncomputable abbrev n6:Addr:=223
noncomputable abbrev uk:Addr:=228
noncomputable abbrev sI:Addr:=235
noncomputable abbrev fX:Addr:=240
variable {w:World}{h₀:Heap}{os:OsState}{mg mb:Str→Option Value}{cx:Cx}{fm:Fm}{X:Value→St→Prop}{st:St}{Q:AV→St→Prop}
theorem oV(O:(gd w h₀ os mg mb).Ok):i7 (gd w h₀ os mg mb) z9 bR 0:=
 ⟨⟨_,_,_,_,_,_,O.K _ _ rfl,rfl,rfl,rfl,O.K _ _ rfl,rfl,by kernel_rfl,rfl,rfl⟩,_,O.K _ _ rfl,rfl,rfl⟩
theorem lF(O:(gd w h₀ os mg mb).Ok):i7 (gd w h₀ os mg mb) yn bR 1:=
 ⟨⟨_,_,_,_,_,_,O.K _ _ rfl,rfl,rfl,rfl,O.K _ _ rfl,rfl,by kernel_rfl,rfl,rfl⟩,_,O.K _ _ rfl,rfl,rfl⟩
theorem g8(O:(gd w h₀ os mg mb).Ok):i7 (gd w h₀ os mg mb) AM aJ 0:=
 ⟨⟨_,_,_,_,_,_,O.K _ _ rfl,rfl,rfl,rfl,O.K _ _ rfl,rfl,by kernel_rfl,rfl,rfl⟩,_,O.K _ _ rfl,rfl,rfl⟩
theorem mQ:(Str.ofString "\r\n")=⟨#[13,10]⟩:=by decide
theorem vd:(Str.ofString "..")=⟨#[46,46]⟩:=by decide
theorem jI:nsIn (gd w h₀ os mg mb).K mainGlobals "CRLF" = some (some (.str (Str.ofString "\r\n") 547)):=by kernel_rfl
theorem Ev.globS{G:Gd}{cx:Cx}{fm:Fm}{X:Value→St→Prop}{st:St}{x y:Str}{pos:Pos}{t:Tok}(O:G.Ok)(e:nsIn G.K mainGlobals x = some (some (.str y t)))(h:Q (.str y) st)
  (hl:fm.kind x = some .globalImplicit:=by rfl) (hd:(x ==("__debug__" :Str))= false:=by decide):Ev G cx fm X (.Name x pos) st Q:=Ev.glob O h (fun W=>by simp) e hl hd
noncomputable def cP(x:Str):Str:=⟨(fixF false x.cps.toList).toArray⟩
noncomputable def fc(x:Str):Str:=⟨(aZ true x.cps.toList).toArray⟩
theorem mv:∀(l:List Nat) (b:Bool),(fixF b l).length≤2 * l.length:=by
 intro zl
 induction zl with
 | nil=>
  intro _;exact Nat.zero_le _
 | cons c r ih=>
  intro b;rw [ei];have h1:=ih true;have h2:=ih false
  split
  ·simp;change v4
  ·split
   ·split <;> simp <;> omega
   ·simp;change vD
theorem lp:∀(l:List Nat) (b:Bool),(aZ b l).length≤2 * l.length:=by
 intro zl
 induction zl with
 | nil=>
  intro _;exact Nat.zero_le _
 | cons c r ih=>
  intro b;rw [dI];have h1:=ih false;have h2:=ih (c == 10)
  split <;> simp <;> omega
theorem fF(x:Str):(cP x).length≤2 * x.length:=by
 have:=mv x.cps.toList false;simpa [cP,Str.length] using this
theorem lP(x:Str):(fc x).length≤2 * x.length:=by
 have:=lp x.cps.toList true;simpa [fc,Str.length] using this
theorem te{n:Nat}{x:Str}(O:(gd w h₀ os mg mb).Ok)(hn:n+1≤cx.n)(hz:x.length≤100000)(h:Q (.str (cP x)) st):aH (gd w h₀ os mg mb) cx fm X uo [.str x] st Q:=by
 refine Fun.go (n:=n) O (cA.of O rfl rfl rfl) hn (Bind.p1 (fun Z=>rfl)) fun env he=>?_;clear he;refine Ex.cons (an.ret (Ev.mcall (Ev.globR O ⟨_,_,aa.builtin _,Mth.sub (g8 O),aU.cons (ah.cons (Ev.globS O jI ?_))⟩ (by kernel_rfl))))
 refine ah.cons (Ev.loc rfl (ah.nil ?_));rw [mQ];exact Cal.subEol (g8 O) hz h
theorem q9{n:Nat}{x:Str}(O:(gd w h₀ os mg mb).Ok)(hn:n+1≤cx.n)(hz:x.length≤50000)(h:Q (.str (fc (cP x))) st):aH (gd w h₀ os mg mb) cx fm X su [.str x] st Q:=by
 refine Fun.go (n:=n) O (cA.of O rfl rfl rfl) hn (Bind.p1 (fun Z=>rfl)) fun env he=>?_;clear he;refine Ex.cons (an.ret (Ev.mcall (Ev.globR O ⟨_,_,aa.builtin _,Mth.sub (oV O),aU.cons (ah.cons (Ev.cstr (ah.cons ?_)))⟩ (by kernel_rfl))))
 refine Ev.mcall (Ev.globR O ⟨_,_,aa.builtin _,Mth.sub (g8 O),aU.cons (ah.cons (Ev.globS O jI ?_))⟩ (by kernel_rfl))
 refine ah.cons (Ev.loc rfl (ah.nil ?_));rw [mQ];refine Cal.subEol (g8 O) (by change up) (ah.nil ?_)
 rw [vd];exact Cal.subDot (x:=cP x) (oV O) (by have:=fF x;change uz) h
theorem nh{n:Nat}{x:List Nat}(O:(gd w h₀ os mg mb).Ok)(hn:n+1≤cx.n)(hz:x.length≤100000)(hx:∀c∈x,c < 256)(h:Q (.bytes ((aZ true x).map (·.toUInt8)).toArray) st):
  aH (gd w h₀ os mg mb) cx fm X mu [.bytes (x.map (·.toUInt8)).toArray] st Q:=by
 refine Fun.go (n:=n) O (cA.of O rfl rfl rfl) hn (Bind.p1 (fun Z=>rfl)) fun env he=>?_;clear he;refine Ex.cons (an.ret (Ev.mcall (Ev.globR O ⟨_,_,aa.builtin _,Mth.sub (lF O),aU.cons (ah.cons (Ev.cbytes (ah.cons (Ev.loc rfl (ah.nil ?_)))))⟩ (by kernel_rfl))))
 exact Cal.subDotB (lF O) hz hx h
end
section
noncomputable abbrev Told:=List (Str×List Str)
noncomputable def bL(ks:List Str)(x:Str):List Str:=if x∈ks then ks else ks++ [x]
noncomputable def az(T:Told):List Str:=T.flatMap fun p=>p.1::p.2
noncomputable def ag(T:Told):List Str:=(az T).foldl bL []
set_option tactic.hygienic true in
theorem lm{ks:List Str}{x y:Str}:y∈bL ks x ↔y∈ks∨y = x:=by
 unfold bL;split
 ·rename_i h;exact ⟨.inl,fun h'=>h'.elim _root_.id fun e=>e▸h⟩
 ·simp
theorem gc:∀{l ks:List Str} {y:Str},y∈l.foldl bL ks ↔y∈ks∨y∈l:=by
 intro zl
 induction zl with
 | nil=>
  intro ks y;simp
 | cons x l ih=>
  intro ks y;rw [List.foldl_cons,ih,lm];simp;grind
set_option tactic.hygienic true in
theorem nM{ks:List Str}{x:Str}(h:ks.Nodup):(bL ks x).Nodup:=by
 unfold bL;split
 ·exact h
 ·rename_i hx;rw [List.nodup_append];exact ⟨h,by simp,fun a ha b hb=>by simp at hb;subst hb;rintro rfl;exact hx ha⟩
theorem kM:∀{l ks:List Str},ks.Nodup→(l.foldl bL ks).Nodup:=by
 intro zl
 induction zl with
 | nil=>
  intro _ h;exact h
 | cons x l ih=>
  intro ks h;rw [List.foldl_cons];exact ih (nM h)
theorem cg(T:Told):(ag T).Nodup:=kM List.nodup_nil
theorem bq{T:Told}{y:Str}:y∈ag T ↔∃p∈T,y = p.1∨y∈p.2:=by
 unfold ag;rw [gc];simp [az]
theorem eA:∀{l ks:List Str},(l.foldl bL ks).length≤ks.length+l.length:=by
 intro zl
 induction zl with
 | nil=>
  intro ks;simp
 | cons x l ih=>
  intro ks;rw [List.foldl_cons];have:=ih (ks:=bL ks x);have h2:(bL ks x).length≤ks.length+1:=by unfold bL;split <;> simp
  simp;change zC
noncomputable def p9(T:Told)(x s:Str):Prop:=∃p∈T,p.1 = s∧x∈p.2
inductive eM(T:Told):Str→Prop
 | mk (x:Str):(∀s,p9 T x s→eM T s)→eM T x
noncomputable def dw(T:Told)(l:List Str):List Str:=l.filter fun x=>T.any fun p=>decide (x∈p.2)&& decide (p.1∈l)
theorem fY{T:Told}{l:List Str}{x:Str}:x∈dw T l ↔x∈l∧∃s,p9 T x s∧s∈l:=by
 unfold dw;simp only [List.mem_filter,List.any_eq_true,Bool.and_eq_true,decide_eq_true_eq];constructor
 ·rintro ⟨h1,p,hp,h2,h3⟩;exact ⟨h1,p.1,⟨p,hp,rfl,h2⟩,h3⟩
 ·rintro ⟨h1,s,⟨p,hp,rfl,h2⟩,h3⟩;exact ⟨h1,p,hp,h2,h3⟩
structure Alive(T:Told)(al:List Str):Prop where
 sub:∃P:Str→Bool,al =(ag T).filter P
 all:∀x∈ag T,¬eM T x→x∈al
structure dD(T:Told)(al:List Str):Prop extends Alive T al where
 fix:dw T al = al
theorem Alive.start(T:Told):Alive T (ag T):=⟨⟨fun Z=>true,(List.filter_eq_self.mpr fun Z Y=>rfl).symm⟩,fun x hx Z=>hx⟩
theorem Alive.step{T:Told}{al:List Str}(h:Alive T al):Alive T (dw T al):=by
 obtain ⟨P,rfl⟩:=h.sub;refine ⟨⟨fun x=>P x &&(T.any fun p=>decide (x∈p.2)&& decide (p.1∈(ag T).filter P)),?_⟩,fun x hx hd=>?_⟩
 ·unfold dw;rw [List.filter_filter];congr 1;funext x;exact Bool.and_comm _ _
 ·rw [fY];refine ⟨h.all x hx hd,?_⟩;have:¬∀s,p9 T x s→eM T s:=fun q=>hd (.mk x q);obtain ⟨s,hs⟩:=Classical.not_forall.mp this;obtain ⟨h1,h2⟩:=Classical.not_imp.mp hs;refine ⟨s,h1,h.all s ?_ h2⟩;obtain ⟨p,hp,rfl,_⟩:=h1;exact bq.mpr ⟨p,hp,.inl rfl⟩
theorem dD.dead{T:Told}{al:List Str}(h:dD T al):∀{x:Str},x∈al→¬eM T x:=by
 intro x hx hd
 induction hd with
 | mk x _ ih=>
  have:=h.fix▸hx;rw [fY] at this;obtain ⟨_,s,hs,hsl⟩:=this;exact ih s hs hsl
theorem Alive.mem{T:Told}{al:List Str}(h:Alive T al){x:Str}(hx:x∈al):x∈ag T:=by
 obtain ⟨P,rfl⟩:=h.sub;exact (List.mem_filter.mp hx).1
noncomputable def jd(T:Told)(al:List Str)(x:Str):List Str:=(T.filter fun p=>decide (x∈p.2)&& decide (p.1∈al)).map (·.1)
theorem tE{T:Told}{al:List Str}(h:dD T al){x:Str}(hx:x∈al):jd T al x≠ []:=by
 have:=h.fix▸hx;rw [fY] at this;obtain ⟨_,s,⟨p,hp,rfl,hxp⟩,hsl⟩:=this;unfold jd;intro e;rw [List.map_eq_nil_iff,List.filter_eq_nil_iff] at e;exact e p hp (by simp [hxp,hsl])
theorem sS{T:Told}{al:List Str}{x y:Str}(h:y∈jd T al x):y∈al∧p9 T x y:=by
 unfold jd at h;obtain ⟨p,hp,rfl⟩:=mM h;obtain ⟨h1,h2⟩:=List.mem_filter.mp hp;simp only [Bool.and_eq_true,decide_eq_true_eq] at h2;exact ⟨h2.2,p,h1,rfl,h2.1⟩
structure iG(T:Told)(al wk:List Str):Prop where
 first:wk[0]? = al[0]?
 ne:wk≠ []
 nd:wk.dropLast.Nodup
 mem:∀x∈wk,x∈al
 step:∀(i:Nat) x y,wk[i]? = some x→wk[i+1]? = some y→(jd T al x)[0]? = some y
theorem iG.len{T:Told}{al wk:List Str}(h:iG T al wk):wk.length≤al.length+1:=by
 have:=bw h.nd fun x hx=>h.mem x (List.dropLast_subset _ hx);simp at this;assumption
end
section
noncomputable def aD(p:Str×List Str):AV:= .tup [.str p.1,.lst (p.2.map .str)]
theorem d5{T:Told}{p:Str×List Str}(h:p∈T):p.2.length < (az T).length:=by
 induction T with
 | nil=>cases h
 | cons a T ih=>
  unfold az at ih ⊢;rw [List.flatMap_cons,List.length_append];rcases mC h with rfl | h
  ·simp;change t3
  ·have:=ih h;change vH
noncomputable def zk(ks:List Str):List Str×List AV:=(ks,ks.map fun Z=>AV.int 0)
set_option tactic.hygienic true in
theorem qZ(ks:List Str)(x:Str):dput (zk ks).1 (zk ks).2 x (.int 0)= zk (bL ks x):=by
 unfold dput bL zk;dsimp only
 by_cases h:x∈ks
 ·rw [if_pos h,if_pos h]
  congr 1
  refine List.ext_getElem? fun i=>?_;rw [List.getElem?_set]
  split
  ·rename_i e;subst e
   split
   ·rename_i h2;rw [lN] at h2;simp [h2]
   ·rename_i h2;rw [lN] at h2;exact absurd (List.idxOf_lt_length_of_mem h) h2
  ·rfl
 ·rw [if_neg h,if_neg h];simp
section
variable {G:Gd}{cx:Cx}{fm:Fm}{X:Value→St→Prop}{W₀ W:Wd}{st:St}{s:Shared}{Q:AV→St→Prop}
theorem lH{x:Str}{l:List Str}(h:l.elem x = true):x∈l:=List.mem_of_elem_eq_true h
theorem z7{x:Str}{l:List Str}(h:l.elem x = false):x∉l:=fun m=>by rw [List.elem_eq_true_of_mem m] at h;cases h
theorem f9{x:Str}(h1:fm.kind x = some .cell:=by rfl)(h2:fm.own.elem x = true:=by rfl):aX fm x:= .inr ⟨h1,lH h2⟩
theorem Ev.own{x:Str}{pos:Pos}{a:AV}(hv:st.loc x = some a)(h:Q a st)(hl:fm.kind x = some .cell:=by rfl)(ho:fm.own.elem x = true:=by rfl)(hd:(x ==("__debug__" :Str))= false:=by decide):Ev G cx fm X (.Name x pos) st Q:=
 Ev.name (jP hl (lH ho) hv h) hd
theorem Ev.outer{x:Str}{pos:Pos}{a:AV}(hv:fm.out x = some a)(h:Q a st)(hl:fm.kind x = some .cell:=by rfl)(hd:(x ==("__debug__" :Str))= false:=by decide):Ev G cx fm X (.Name x pos) st Q:=
 Ev.name (q6 hl hv h) hd
theorem lL{fm:Fm}{st:St}{names:List (Str×NameKind)}{x:Str}{a:AV}(hv:st.loc x = some a)(h1:(freeNames names).elem x = true:=by rfl)(h2:fm.own.elem x = true:=by rfl):cF fm st names x = some a:=by
 unfold cF;rw [if_pos (lH h1),if_pos (lH h2)];exact hv
theorem lZ{fm:Fm}{st:St}{names:List (Str×NameKind)}{x:Str}{a:AV}(hv:fm.out x = some a)(h1:(freeNames names).elem x = true:=by rfl)(h2:fm.own.elem x = false:=by rfl):cF fm st names x = some a:=by
 unfold cF;rw [if_pos (lH h1),if_neg (z7 h2)];exact hv
theorem kj{fm:Fm}{st:St}{names:List (Str×NameKind)}{x:Str}{a:AV}(h1:(freeNames names).elem x = true)(h2:fm.own.elem x = true)(hv:st.loc x = some a):cF fm st names x = some a:=lL hv h1 h2
theorem kl{fm:Fm}{st:St}{names:List (Str×NameKind)}{x:Str}{a:AV}(h1:(freeNames names).elem x = true)(h2:fm.own.elem x = false)(hv:fm.out x = some a):cF fm st names x = some a:=lZ hv h1 h2
theorem di{fm:Fm}{st:St}{scope:Scope}{cenv:Env}{x:Str}{a:AV}(h1:(freeNames scope.names).elem x = true)(h2:fm.own.elem x = true)(hv:st.loc x = some a):(aT fm st scope cenv).out x = some a:=kj h1 h2 hv
theorem za{fm:Fm}{st:St}{scope:Scope}{cenv:Env}{x:Str}{a:AV}(h1:(freeNames scope.names).elem x = true)(h2:fm.own.elem x = false)(hv:fm.out x = some a):(aT fm st scope cenv).out x = some a:=kl h1 h2 hv
theorem br{names:List (Str×NameKind)}(h:((freeNames names).all fun n=>fm.own.elem n)= true:=by rfl):∀n∈freeNames names,n∈fm.own∨(fm.out n).isSome = true:=fun n hn=> .inl (lH (List.all_eq_true.mp h n hn))
theorem tL{names:List (Str×NameKind)}(l:List Str)(h:∀n∈l,n∈fm.own∨(fm.out n).isSome = true)(hl:freeNames names = l:=by rfl):∀n∈freeNames names,n∈fm.own∨(fm.out n).isSome = true:=hl▸h
theorem Bt{o:Option AV}{a:AV}(h:o = some a):o.isSome = true:=by rw [h];rfl
end
inductive AX(hp0:Nat→Option AO)(T:Told)(n':Nat)(st':St):Prop
 | mk (al:List Str) (lf:List Str) (h1:st'.hp = hp0) (h2:st'.loc "told" = some (.lst (T.map aD))) (h3:st'.loc "alive" = some (.lst (al.map .str))) (h4:st'.loc "left" = some (.lst (lf.map .str))) (h5:Alive T al) (h6:(lf = al→dw T al = al)) (h7:n' = 2 * al.length+(if lf = al then 0 else 1))
inductive yX(hp0:Nat→Option AO)(T:Told)(al:List Str)(i:Nat)(n':Nat)(st₂:St):Prop
 | mk (wk:List Str) (h1:st₂.hp i = some (.list (wk.map .str))) (h2:∀k,k≠i→st₂.hp k = hp0 k) (h3:st₂.loc "told" = some (.lst (T.map aD))) (h4:st₂.loc "alive" = some (.lst (al.map .str))) (h5:st₂.loc "walk" = some (.ref i)) (h6:iG T al wk) (h7:n' = al.length+2 - wk.length)
variable {w:World}{h₀:Heap}{os:OsState}{mg mb:Str→Option Value}{cx:Cx}{fm:Fm}{X:Value→St→Prop}{st:St}{Q:AV→St→Prop}
theorem anyStr(ps:List Str)(x:Str):((ps.map AV.str).any fun y=>match y with | .str z=>decide (z = x) | _=>false)= decide (x∈ps):=by
 rw [List.any_map]
 by_cases hm:x∈ps
 ·rw [decide_eq_true hm,List.any_eq_true];exact ⟨x,hm,by simp⟩
 ·rw [decide_eq_false hm,List.any_eq_false];intro z hz;simp;rintro rfl;exact hm hz
noncomputable def picks(x:Str)(al:List Str)(a:AV):Bool:=match a with | .tup [.str nm,.lst ps]=>(ps.any fun y=>match y with | .str z=>decide (z = x) | _=>false)&& decide (nm∈al) | _=>false
noncomputable def nameOf(a:AV):AV:=match a with | .tup [nm,_]=>nm | _=> .none
theorem cV(x:Str)(al:List Str)(p:Str×List Str):picks x al (aD p)=(decide (x∈p.2)&& decide (p.1∈al)):=by
 show (((p.2.map AV.str).any fun y=>match y with | .str z=>decide (z = x) | _=>false)&& decide (p.1∈al))= _
 rw [anyStr]
theorem mc{x:Str}{al:List Str}{p:Str×List Str}(h:x∈p.2)(g:p.1∈al):true = picks x al (aD p):=by rw [cV,decide_eq_true h,decide_eq_true g];rfl
theorem ml{x:Str}{al:List Str}{p:Str×List Str}(h:x∈p.2)(g:p.1∉al):false = picks x al (aD p):=by rw [cV,decide_eq_true h,decide_eq_false g];rfl
theorem oH{x:Str}{al:List Str}{p:Str×List Str}(h:x∉p.2):false = picks x al (aD p):=by rw [cV,decide_eq_false h];rfl
theorem j8(x:Str)(al:List Str):∀L:Told,((L.map aD).filter (picks x al)).map nameOf =((L.filter fun p=>decide (x∈p.2)&& decide (p.1∈al)).map (·.1)).map AV.str:=by
 intro zl
 induction zl with
 | nil=>
  exact rfl
 | cons p L ih=>
  rw [List.map_cons,List.filter_cons,List.filter_cons,cV]
  split
  ·rw [List.map_cons,List.map_cons,List.map_cons,ih];rfl
  ·exact ih
theorem pG(x:Str)(al:List Str):∀L:Told,(!(((L.map aD).filter (picks x al)).map fun Z=>AV.int 1).isEmpty)= L.any fun p=>decide (x∈p.2)&& decide (p.1∈al):=by
 intro zl
 induction zl with
 | nil=>
  exact rfl
 | cons p L ih=>
  rw [List.map_cons,List.filter_cons,List.any_cons,cV];cases hb2:(decide (x∈p.2)&& decide (p.1∈al)) with
  | true=>rfl
  | false=>rw [if_neg (by decide),ih];rfl
set_option tactic.hygienic true in
theorem tV{T:Told}{n:Nat}(O:(gd w h₀ os mg mb).Ok)(hc:cx.calm = true)(hn:n+1≤cx.n)(hz:(az T).length≤500)(hzT:T.length≤500)
  (h0:(∀x∈ag T,eM T x)→Q .none st)
  (h1:∀al wk j x,dD T al→iG T al wk→wk.getLast? = some x→x∈wk.dropLast→wk[j]? = some x→(∀m,m < j→wk[m]?≠some x)→Q (.lst ((wk.drop j).map .str)) st):
  aH (gd w h₀ os mg mb) cx fm X sC [.lst (T.map aD)] st Q:=by
 have hml:(ag T).length≤500:=by have:=eA (l:=az T) (ks:= []);unfold ag;simp at this;change lT
 refine Fun.go (n:=n) O (cA.of O rfl rfl rfl) hn (Bind.p1 (fun Z=>rfl)) fun env he=>?_;clear he;refine Ex.cons (an.asg (Ev.tuple (ah.cons ?_)) rfl rfl rfl);refine Ev.call (Ev.boot (v:= .type "list") O ⟨_,rfl,aa.type _,aU.cons (ah.cons (Ev.dictComp2F O hc (by decide) (fun n hn=>by simp [freeNames] at hn) ?_))⟩ (by kernel_rfl) (by kernel_rfl))
 refine Ev.own rfl ⟨_,_,Iter.lst (xs:=T.map aD) (lM (small (oL ‹_› (by rfl)))),fun k hp b=>hp = st.hp∧b = zk ((az (T.take k)).foldl bL []),⟨rfl,rfl⟩,fun k loc hp b Z=>rfl,fun cenv it ad k x loc hp b hs hx hI=>?_,fun hp b hI=>?_⟩
 ·obtain ⟨rfl,rfl⟩:=hI;rw [gM] at hx;obtain ⟨p,hp,rfl⟩:=oM hx;refine Asg.tuple hc rfl rfl (Asg.name (.inl rfl) (Asg.name (.inl rfl) ?_));refine dq.nil ?_;rw [if_pos rfl];have hpT:p∈T:=mG hp;have hp2:p.2.length≤500:=by
   have:=d5 hpT
   change oD
  refine Aft.nest hc (eD _ _ _ _ _) rfl (fun Z Y=>rfl) (fun Z Y V=>kN _ _ _ _ _ _ _ _ _ _ _ _ _) (aft:=t7 _ _ _) ?_;refine Ev.binop (Ev.listF (ah.cons (Ev.loc rfl (ah.nil ⟨by simp [sizeLine_eq],Ev.loc rfl ?_⟩))))
  refine Bin.addListF (l:= [.str p.1]) (l':=p.2.map .str) rfl rfl (by simp;rw [sizeLine_eq];change wM) ?_
  refine ⟨_,_,Iter.lst (xs:= [AV.str p.1]++p.2.map AV.str) (by simp;rw [sizeLine_eq];change yo),fun m st' b=>st'.hp = st.hp∧b = zk (((az (T.take k))++(p.1::p.2).take m).foldl bL []),⟨rfl,by simp⟩,fun m st' b Z=>rfl,fun it' m y st' b hy hI=>?_,fun st' b hI=>?_⟩
  ·obtain ⟨h2,rfl⟩:=hI;have hy':((p.1::p.2).map AV.str)[m]? = some y:=by simpa using hy
   rw [gM] at hy';obtain ⟨o,ho,rfl⟩:=oM hy';refine Asg.name (.inl rfl) (dq.nil ?_);refine bH rfl ?_;refine Aft.emitD rfl (Ev.loc rfl ⟨o,rfl,Ev.cint ⟨?_,h2,?_⟩⟩)
   ·have:=eA (l:=(az (T.take k))++(p.1::p.2).take m) (ks:= []);have h5:(az (T.take k)).length≤(az T).length:=by
     conv=>rhs;rw [← List.take_append_drop k T]
     unfold az;rw [List.flatMap_append,List.length_append];exact Nat.le_add_right _ _
    exact wd this (qE List.length_append) (lT h5 hz) (List.length_take_le' _ _) hp2 (by rw [sizeLine_eq];decide)
   ·rw [qZ,List.take_add_one,ho];simp [List.foldl_append]
  ·obtain ⟨h2,rfl⟩:=hI;refine ⟨h2,?_⟩;rw [List.take_add_one,hp];simp [az,List.flatMap_append,List.foldl_append]
 ·obtain ⟨rfl,rfl⟩:=hI;rw [lN,List.take_length];refine (ah.nil ?_:ah _ _ _ _ _ _ _ _);refine Cal.listKeys (ks:=ag T) O hc rfl (by rw [sizeLine_eq];change oU) ?_
  refine ah.cons (Ev.listF (ah.nil ⟨by simp,ah.nil ⟨by simp [sizeLine_eq],?_⟩⟩))
  refine Asg.tuple hc rfl rfl (Asg.name f9 (Asg.name f9 ?_));have hm0:(ag T).length≤sizeLine:=by rw [sizeLine_eq];change oU
  refine Ex.cons (an.while_ (AX st.hp T) _ ⟨ag T,[],rfl,rfl,rfl,rfl,Alive.start T,fun e=>by rw [← e];rfl,rfl⟩ ?_)
  rintro n' st' ⟨al,lf,hh,l1,l2,l3,hA,hfx,rfl⟩;refine bj.cmp (Ev.own l3 (Ev.own l2 (Cmp.neStrs (ys:=lf) (zs:=al) rfl rfl (Tru.bool ?_))))
  by_cases hla:lf = al
  ·have hb:(! decide (lf = al))= false:=by simp [hla]
   refine bN hb ?_;have hF:dD T al:=⟨hA,hfx hla⟩;refine Ex.nil ?_;subst hla;have hal:lf.length≤500:=by
    obtain ⟨P,rfl⟩:=hA.sub;exact lT (List.length_filter_le _ _) hml
   refine Ex.cons (an.if_ (bj.not (bj.plain (Ev.own l2 (Tru.list (l:=lf.map .str) rfl (lM (small (oL ‹_› (by rfl)))) ?_)))))
   cases lf with
   | nil=>
    refine Ex.cons (an.ret (Ev.cnone ?_));have:Q .none st:=h0 fun x hx=>Classical.byContradiction fun hd=>by have:=hA.all x hx hd;cases this
    show Q .none ⟨st.loc,st'.hp⟩;rw [hh];exact this
   | cons a0 ar=>
    refine Ex.nil ?_;generalize hal0:a0::ar = al at *;have hal1:al[0]? = some a0:=by rw [← hal0];rfl
    refine Ex.cons (an.asg (Ev.listM (ah.cons (Ev.sub (Ev.own l2 (Ev.cint (Sub.lst (l:=al.map .str) (x:= .str a0) rfl (by unfold idx;rw [if_neg (by decide)];decide) (by unfold idx;rw [if_neg (by decide)];simp [hal1]) (lM (small (oL ‹_› (by rfl)))) (ah.nil ⟨by simp [sizeLine_eq],fun i hi=>Asg.name f9 ?_⟩))))))) rfl rfl rfl)
    have hi':st.hp i = Option.none:=by rw [← hh];exact hi
    refine Ex.cons (an.while_ (yX st.hp T al i) _ ⟨[a0],if_pos rfl,fun k hk=>(if_neg hk).trans (congrFun hh k),l1,l2,rfl,⟨by rw [hal1];rfl,by simp,by simp,fun x hx=>by simp at hx;subst hx;exact mG hal1,fun m x y Z hy=>by simp at hy⟩,rfl⟩ ?_)
    rintro n' st₂ ⟨wk,hw,ho,m1,m2,m3,hW,rfl⟩;have hwl:=hW.len;obtain ⟨init,last,rfl⟩:∃init last,wk = init++ [last]:=⟨_,_,(List.dropLast_concat_getLast hW.ne).symm⟩;have hwl':init.length≤al.length:=by simp at hwl;assumption
    have hnd:init.Nodup:=by have:=hW.nd;simpa using this
    have hlL:((init++ [last]).map AV.str).length = init.length+1:=by simp
    refine bj.cmp (Ev.sub (Ev.own m3 (Ev.neg (Ev.cint ⟨1,rfl,?_⟩))));refine Sub.lst (l:=(init++ [last]).map AV.str) (x:= .str last) (ai hw) (by rw [hlL];unfold idx;rw [if_pos (by decide)];change rK) ?_ (by rw [hlL,sizeLine_eq];change iV) ?_
    ·rw [hlL];unfold idx;rw [if_pos (by decide),show ((-1:Int)+((init.length+1:Nat):Int)).toNat = init.length by change ua];simp
    refine Ev.sub (Ev.own m3 (Ev.slice (b4.none (b4.some (Ev.neg (Ev.cint ⟨1,rfl,_,rfl,b4.none ?_⟩))))));refine Sub.sliceF (l:=(init++ [last]).map AV.str) (ai hw) (by simp) (by rw [hlL,sizeLine_eq];change iV) ?_ (fun Z Y=>rfl)
    rw [show (-(1:Int))= -1 from rfl,fM,show ((init++ [last]).map AV.str).dropLast = init.map AV.str by simp]
    refine Cmp.notInStrs (ys:=init) rfl (Tru.bool ?_)
    by_cases hlm:last∈init
    ·have hb3:(! decide (last∈init))= false:=by simp [hlm]
     refine bN hb3 ?_;refine Ex.nil ?_;have hjl:=List.idxOf_lt_length_of_mem hlm;have hj:(init++ [last])[init.idxOf last]? = some last:=by rw [List.getElem?_append_left hjl,gE hjl];simp
     have hjn:∀m,m < init.idxOf last→(init++ [last])[m]?≠some last:=fun m hm e=>by
      rw [List.getElem?_append_left (by change xJ)] at e
      obtain ⟨hlt,e'⟩:=gS e;have e2:init[init.idxOf last] = last:=List.getElem_idxOf hjl;have:=(List.getElem?_inj hlt hnd (j:=init.idxOf last)).mp (by rw [gE hlt,gE hjl,e',e2])
      exact absurd this (Nat.ne_of_lt hm)
     refine Ex.cons (an.ret (J.forget (Ev.sub (Ev.own m3 (Ev.slice (b4.some (Ev.mcall (Ev.own m3 ⟨.builtin "list.index",_,aa.builtin _,Mth.list PySem.F.slot_list_index PySem.F.type_list_index (ai hw),aU.cons (ah.cons (Ev.sub (Ev.own m3 (Ev.neg (Ev.cint ⟨1,rfl,?_⟩)))))⟩))))))));refine Sub.lst (l:=(init++ [last]).map AV.str) (x:= .str last) (ai hw) (by rw [hlL];unfold idx;rw [if_pos (by decide)];change rK) ?_ (by rw [hlL,sizeLine_eq];change iV) (ah.nil ?_)
     ·rw [hlL];unfold idx;rw [if_pos (by decide),show ((-1:Int)+((init.length+1:Nat):Int)).toNat = init.length by change yl];simp
     refine Cal.index (j:=init.idxOf last) (ai hw) hj hjn (by simp;rw [sizeLine_eq];change iV) ⟨_,rfl,b4.none (b4.none ?_)⟩
     refine Sub.sliceF (l:=(init++ [last]).map AV.str) (ai hw) (by simp) (by rw [hlL,sizeLine_eq];change iV) ?_ (fun Z Y=>rfl)
     rw [pick_from,← List.map_drop];refine ⟨st.hp,fun k ao e=>?_,?_⟩
     ·rw [ho k (fun e'=>by rw [e',hi'] at e;cases e)];exact e
     ·exact h1 al _ _ last hF hW (by simp) (by simpa using hlm) hj hjn
    ·have hb3:(! decide (last∈init))= true:=by simp [hlm]
     refine bH hb3 ?_;have hlastal:last∈al:=hW.mem last (by simp)
     have hfree2:∀names:List (Str×NameKind),True:=fun Z=>trivial;refine Ex.cons (an.expr (Ev.mcall (Ev.own m3 ⟨.builtin "list.append",_,aa.builtin _,Mth.list PySem.F.slot_list_append PySem.F.type_list_append (ai hw),aU.cons (ah.cons (Ev.sub (Ev.listCompF hc (by decide) br (Ev.own m1 ?_))))⟩)))
     refine Comp.filter (p:=picks last al) (f:=nameOf) (Iter.lst (xs:=T.map aD) (lM (small (oL ‹_› (by rfl))))) (fun Z=>rfl) (lM (small (oL ‹_› (by rfl)))) (fun cenv' k' a' loc' hs' ha'=>?_) ?_
     ·rw [gM] at ha';obtain ⟨p,hp,rfl⟩:=oM ha';refine Asg.tuple hc rfl rfl (Asg.name (.inl rfl) (Asg.name (.inl rfl) ?_));refine bj.boolop (aE.and (bj.cmp (Ev.sub (Ev.outer (a:= .ref i) (di rfl rfl m3) (Ev.neg (Ev.cint ⟨1,rfl,?_⟩))))));refine Sub.lst (l:=(init++ [last]).map AV.str) (x:= .str last) (ai hw) (by rw [hlL];unfold idx;rw [if_pos (by decide)];change rK) ?_ (by rw [hlL,sizeLine_eq];change iV) (Ev.loc rfl (Cmp.inStrs (ys:=p.2) rfl (Tru.bool ?_)))
      ·rw [hlL];unfold idx;rw [if_pos (by decide),show ((-1:Int)+((init.length+1:Nat):Int)).toNat = init.length by change ua];simp
      by_cases hm:last∈p.2
      ·refine bH (decide_eq_true hm) ?_;refine aE.and (bj.cmp (Ev.loc rfl (Ev.outer (a:= .lst (al.map .str)) (di rfl rfl m2) (Cmp.inStrs (ys:=al) rfl (Tru.bool ?_)))))
       by_cases hm2:p.1∈al
       ·refine bH (decide_eq_true hm2) ?_;refine aE.andNil ⟨?_,rfl,fun Z=>Ev.loc rfl ⟨rfl,rfl⟩⟩;exact mc hm hm2
       ·refine bN (decide_eq_false hm2) ?_;refine ⟨?_,rfl,fun e=>by cases e⟩
        exact ml hm hm2
      ·refine bN (decide_eq_false hm) ?_;refine ⟨?_,rfl,fun e=>by cases e⟩
       exact oH hm
     ·rw [j8 last al T];have hne:=tE hF hlastal;show Ev _ _ _ _ _ _ _;obtain ⟨y,r,hy⟩:∃y r,jd T al last = y::r:=by cases hh2:jd T al last with | nil=>exact absurd hh2 hne | cons y r=>exact ⟨y,r,rfl⟩
      have hy':((T.filter fun p=>decide (last∈p.2)&& decide (p.1∈al)).map (·.1))= y::r:=hy;have hnl:(y::r).length≤500:=by rw [← hy',lN];exact lT (List.length_filter_le _ _) hzT
      rw [hy'];refine Ev.cint (Sub.lst (l:=(y::r).map AV.str) (x:= .str y) rfl (by unfold idx;rw [if_neg (by decide)];decide) (by unfold idx;rw [if_neg (by decide)];rfl) (by rw [lN,sizeLine_eq];change oU) (ah.nil ?_))
      refine Cal.append hw (by rw [hlL,sizeLine_eq];change iV) (Ex.nil ?_)
      have hlen2:(init++ [last]++ [y]).length = init.length+2:=by simp
      have hnd2:(init++ [last]).Nodup:=by
       rw [List.nodup_append];exact ⟨hnd,by simp,fun a ha b hb=>by simp at hb;subst hb;rintro rfl;exact hlm ha⟩
      have hya:=sS (T:=T) (al:=al) (x:=last) (y:=y) (by rw [hy];exact .head _)
      have hW2:iG T al (init++ [last]++ [y]):=by
       refine ⟨?_,by simp,?_,fun x hx=>?_,fun m x z hx hz=>?_⟩
       ·rw [← hW.first,List.getElem?_append_left (by simp)]
       ·rw [List.dropLast_concat];exact hnd2
       ·rcases mA hx with hx | hx
        ·exact hW.mem x hx
        ·simp at hx;subst hx;exact hya.1
       ·by_cases hm:m+1 < (init++ [last]).length
        ·rw [List.getElem?_append_left (by change Nat.lt_of_succ_lt)] at hx
         rw [List.getElem?_append_left hm] at hz;exact hW.step m x z hx hz
        ·have hml2:m+1 < (init++ [last]++ [y]).length:=(gS hz).1;have:m+1 =(init++ [last]).length:=by simp at hm hml2 ⊢;change wz
         have hm':m = init.length:=by simp at this;assumption
         subst hm';rw [List.getElem?_append_right (by simp)] at hz
         rw [List.append_assoc,List.getElem?_append_right (by simp)] at hx
         simp at hx hz;subst hx hz;rw [hy];rfl
      have hlen3:=hW2.len;refine ⟨_,?_,init++ [last]++ [y],?_,fun k hk=>?_,m1,m2,m3,hW2,rfl⟩
      ·simp at hlen3 ⊢;change wG
      ·show (if i = i then _ else _)= _;rw [if_pos rfl];simp
      ·exact (if_neg hk).trans (ho k hk)
  ·have hb:(! decide (lf = al))= true:=by simp [hla]
   refine bH hb ?_;have hal:al.length≤500:=by
    obtain ⟨P,rfl⟩:=hA.sub;exact lT (List.length_filter_le _ _) hml
   refine Ex.cons (an.asg (Ev.own l2 (Asg.name f9 ?_)) rfl rfl rfl);refine Ex.cons (an.asg (Ev.listCompF hc (by decide) br ?_) rfl rfl rfl)
   refine Ev.own rfl ?_;refine Comp.filter (p:=fun a=>match a with | .str x=>T.any fun p=>decide (x∈p.2)&& decide (p.1∈al) | _=>false) (f:=fun a=>a) (Iter.lst (xs:=al.map .str) (lM (small (oL ‹_› (by rfl))))) (fun Z=>rfl) (lM (small (oL ‹_› (by rfl)))) (fun cenv k a loc hs ha=>?_) ?_
   ·rw [gM] at ha;obtain ⟨x,hx,rfl⟩:=oM ha;refine Asg.name f9 ?_;refine bj.plain (Ev.listCompF hc (by decide) (tL ["left","one"] ?_) ?_)
    ·intro n hn;simp only [List.mem_cons,List.not_mem_nil,or_false] at hn;rcases hn with rfl | rfl
     ·right
      refine Bt (a:= .lst (al.map .str)) ?_;exact di rfl rfl rfl
     ·exact .inl (lH rfl)
    refine Ev.outer (di rfl rfl l1) ?_;refine Comp.filter (p:=picks x al) (f:=fun a=> .int 1) (Iter.lst (xs:=T.map aD) (lM (small (oL ‹_› (by rfl))))) (fun Z=>rfl) (lM (small (oL ‹_› (by rfl)))) (fun cenv' k' a' loc' hs' ha'=>?_) ?_
    ·rw [gM] at ha';obtain ⟨p,hp,rfl⟩:=oM ha';refine Asg.tuple hc rfl rfl (Asg.name (.inl rfl) (Asg.name (.inl rfl) ?_));refine bj.boolop (aE.and (bj.cmp (Ev.outer (a:= .str x) (di rfl rfl rfl) (Ev.loc rfl (Cmp.inStrs (ys:=p.2) rfl (Tru.bool ?_))))))
     by_cases hm:x∈p.2
     ·refine bH (decide_eq_true hm) ?_;refine aE.and (bj.cmp (Ev.loc rfl (Ev.outer (a:= .lst (al.map .str)) (za rfl rfl (di rfl rfl rfl)) (Cmp.inStrs (ys:=al) rfl (Tru.bool ?_)))))
      by_cases hm2:p.1∈al
      ·refine bH (decide_eq_true hm2) ?_;refine aE.andNil ⟨?_,rfl,fun Z=>Ev.cint ⟨rfl,rfl⟩⟩;exact mc hm hm2
      ·refine bN (decide_eq_false hm2) ?_;refine ⟨?_,rfl,fun e=>by cases e⟩
       exact ml hm hm2
     ·refine bN (decide_eq_false hm) ?_;refine ⟨?_,rfl,fun e=>by cases e⟩
      exact oH hm
    ·refine Tru.list rfl ?_ ⟨?_,rfl,fun Z=>Ev.own rfl ⟨rfl,rfl⟩⟩
     ·rw [lN];refine lT (List.length_filter_le _ _) ?_;simp;rw [sizeLine_eq];change oU
     ·exact pG x al T
   ·have e:((al.map AV.str).filter fun a=>match a with | .str x=>T.any fun p=>decide (x∈p.2)&& decide (p.1∈al) | _=>false).map (fun a=>a)=(dw T al).map AV.str:=by
     unfold dw;rw [List.map_id',List.filter_map];rfl
    rw [e];refine Asg.name f9 (Ex.nil ?_);have hsub:(dw T al).length≤al.length:=List.length_filter_le _ _;refine ⟨2 *(dw T al).length+(if al = dw T al then 0 else 1),?_,dw T al,al,hh,l1,rfl,rfl,hA.step,fun e=>by rw [← e];exact e.symm,rfl⟩
    rw [if_neg hla]
    split
    ·change v0
    ·rename_i hne;have:(dw T al).length≠al.length:=fun e=>hne ((List.filter_sublist (l:=al)).eq_of_length e).symm
     change yv
end
section
noncomputable def bM(T:Told):PV:=T.foldl (fun v p=>dA p.1 p.2 v) []
noncomputable def dR(y:Str)(v:PV):Option (Str×Int×List Str):=v.find? fun p=>p.1 = y
theorem dm{y:Str}{f:Str×Int×List Str→Str×Int×List Str}(hf:∀p,(f p).1 = p.1)(v:PV):dR y (v.map f)=(dR y v).map f:=by
 unfold dR;rw [List.find?_map]
 congr 2
 funext p;simp [hf]
theorem gn{y:Str}{v:PV}{p:Str×Int×List Str}(h:dR y v = some p):p.1 = y∧p∈v:=by
 unfold dR at h;exact ⟨by simpa using List.find?_some h,List.mem_of_find?_eq_some h⟩
theorem cM{y:Str}{v:PV}:dR y v = none ↔y∉v.map (·.1):=by
 unfold dR;rw [List.find?_eq_none];simp only [decide_eq_true_eq,List.mem_map,not_exists,not_and]
theorem gH(x y:Str)(v:PV):dR y (a5 x v)= if y = x∧x∉v.map (·.1) then some (x,0,[]) else dR y v:=by
 by_cases h:x∈v.map (·.1)
 ·rw [eE h,if_neg (by simp [h])]
 ·rw [fq h];unfold dR;rw [List.find?_append]
  by_cases e:y = x
  ·subst e;rw [if_pos ⟨rfl,h⟩,show v.find? (fun p=>decide (p.1 = y))= none from cM.mpr h];simp
  ·rw [if_neg (by simp [e])]
   simp [Ne.symm e]
theorem ck(y:Str)(v:PV):aO y v =((dR y v).map (·.2.2)).getD []:=rfl
theorem bY(y:Str)(v:PV):aQ y v =((dR y v).map (·.2.1)).getD 0:=rfl
theorem dK(x:Str)(v:PV):(a5 x v).map (·.1)= bL (v.map (·.1)) x:=by
 unfold bL
 by_cases h:x∈v.map (·.1)
 ·rw [eE h,if_pos h]
 ·rw [fq h,if_neg h];simp
theorem md(x y:Str)(v:PV):(cr x y v).map (·.1)= v.map (·.1):=by
 unfold cr;rw [List.map_map];exact List.map_congr_left fun p Z=>by simp only [Function.comp];split <;> rfl
set_option tactic.hygienic true in
theorem jF(x y:Str)(v:PV):aO y (a5 x v)= aO y v:=by
 rw [ck,ck,gH]
 split
 ·rename_i h;obtain ⟨rfl,h⟩:=h;rw [cM.mpr h];rfl
 ·rfl
set_option tactic.hygienic true in
theorem jx(x y:Str)(v:PV):aQ y (a5 x v)= aQ y v:=by
 rw [bY,bY,gH]
 split
 ·rename_i h;obtain ⟨rfl,h⟩:=h;rw [cM.mpr h];rfl
 ·rfl
theorem ly(x y:Str)(k:Int)(v:PV):aO y (aP x k v)= aO y v:=by
 rw [ck,ck];unfold aP;rw [dm (fun p=>by split <;> rfl)]
 cases dR y v with
 | none=>rfl
 | some p=>simp only [Option.map_some,Option.getD_some];split <;> rfl
theorem lc(x y:Str)(k:Int)(v:PV):aO y (setNp x k v)= aO y v:=by
 rw [ck,ck];unfold setNp;rw [dm (fun p=>by split <;> rfl)]
 cases dR y v with
 | none=>rfl
 | some p=>simp only [Option.map_some,Option.getD_some];split <;> rfl
theorem iK{x:Str}(y:Str)(k:Int){v:PV}(hx:x∈v.map (·.1)):aQ y (aP x k v)= aQ y v+if y = x then k else 0:=by
 rw [bY,bY];unfold aP;rw [dm (fun p=>by split <;> rfl)]
 cases h:dR y v with
 | none=>
  have:y≠x:=fun e=>cM.mp h (e▸hx);simp [this]
 | some p=>
  have hp:=(gn h).1;simp only [Option.map_some,Option.getD_some]
  by_cases e:y = x
  ·rw [if_pos (hp.trans e),if_pos e]
  ·rw [if_neg (fun q=>e (hp.symm.trans q)),if_neg e];change wx
theorem io{x:Str}(y:Str)(k:Int){v:PV}(hx:x∈v.map (·.1)):aQ y (setNp x k v)= if y = x then k else aQ y v:=by
 rw [bY,bY];unfold setNp;rw [dm (fun p=>by split <;> rfl)]
 cases h:dR y v with
 | none=>
  have:y≠x:=fun e=>cM.mp h (e▸hx);simp [this]
 | some p=>
  have hp:=(gn h).1;simp only [Option.map_some,Option.getD_some]
  by_cases e:y = x
  ·rw [if_pos (hp.trans e),if_pos e]
  ·rw [if_neg (fun q=>e (hp.symm.trans q)),if_neg e]
theorem rB(x y z:Str)(v:PV):aQ y (cr x z v)= aQ y v:=by
 rw [bY,bY];unfold cr;rw [dm (fun p=>by split <;> rfl)]
 cases dR y v with
 | none=>rfl
 | some p=>simp only [Option.map_some,Option.getD_some];split <;> rfl
theorem qs{x:Str}(y z:Str){v:PV}(hx:x∈v.map (·.1)):aO y (cr x z v)= aO y v++if y = x then [z] else []:=by
 rw [ck,ck];unfold cr;rw [dm (fun p=>by split <;> rfl)]
 cases h:dR y v with
 | none=>
  have:y≠x:=fun e=>cM.mp h (e▸hx);simp [this]
 | some p=>
  have hp:=(gn h).1;simp only [Option.map_some,Option.getD_some]
  by_cases e:y = x
  ·rw [if_pos (hp.trans e),if_pos e]
  ·rw [if_neg (fun q=>e (hp.symm.trans q)),if_neg e];simp
theorem lB(x:Str)(v:PV):x∈(a5 x v).map (·.1):=by rw [dK,lm];exact .inr rfl
theorem nn:∀(ps:List Str) (x:Str) (v:PV),(ps.foldl (fun v p=>cr p x (a5 p v)) v).map (·.1)= ps.foldl bL (v.map (·.1))∧(∀y,aO y (ps.foldl (fun v p=>cr p x (a5 p v)) v)= aO y v++List.replicate (ps.count y) x)∧∀y,aQ y (ps.foldl (fun v p=>cr p x (a5 p v)) v)= aQ y v:=by
 intro zl
 induction zl with
 | nil=>
  intro x v;exact ⟨rfl,fun y=>by simp,fun y=>rfl⟩
 | cons p ps ih=>
  intro x v;obtain ⟨h1,h2,h3⟩:=ih x (cr p x (a5 p v));rw [List.foldl_cons];refine ⟨?_,fun y=>?_,fun y=>?_⟩
  ·rw [h1,md,dK,List.foldl_cons]
  ·rw [h2 y,qs y x (lB p v),jF,List.count_cons]
   by_cases e:y = p
   ·subst e;simp [List.replicate_succ]
   ·have:(p == y)= false:=beq_false_of_ne (Ne.symm e);simp [e,this]
  ·rw [h3 y,rB,jx]
theorem mo(x:Str)(ps:List Str)(v:PV):(dA x ps v).map (·.1)=(x::ps).foldl bL (v.map (·.1)):=by
 unfold dA;rw [(nn ps x _).1,da,dK];rfl
theorem qO(x y:Str)(ps:List Str)(v:PV):aO y (dA x ps v)= aO y v++List.replicate (ps.count y) x:=by
 unfold dA;rw [(nn ps x _).2.1,ly,jF]
theorem sQ(x y:Str)(ps:List Str)(v:PV):aQ y (dA x ps v)= aQ y v+if y = x then (ps.length:Int) else 0:=by
 unfold dA;rw [(nn ps x _).2.2,iK y _ (lB x v),jx]
theorem nk:∀(T:Told) (v:PV),(T.foldl (fun v p=>dA p.1 p.2 v) v).map (·.1)=(az T).foldl bL (v.map (·.1))∧(∀y,aO y (T.foldl (fun v p=>dA p.1 p.2 v) v)= aO y v++T.flatMap fun p=>List.replicate (p.2.count y) p.1)∧
  ∀y,aQ y (T.foldl (fun v p=>dA p.1 p.2 v) v)= aQ y v+(T.map fun p=>if y = p.1 then (p.2.length:Int) else 0).sum:=by
 intro zl
 induction zl with
 | nil=>
  intro v;exact ⟨rfl,fun y=>by simp,fun y=>by simp⟩
 | cons p T ih=>
  intro v;obtain ⟨h1,h2,h3⟩:=ih (dA p.1 p.2 v);rw [List.foldl_cons];refine ⟨?_,fun y=>?_,fun y=>?_⟩
  ·rw [h1,mo];simp [az,List.foldl_append]
  ·rw [h2 y,qO];simp
  ·rw [h3 y,sQ];simp;change yt
theorem cw(T:Told):(bM T).map (·.1)= ag T:=(nk T []).1
theorem lj(T:Told)(y:Str):aO y (bM T)= T.flatMap fun p=>List.replicate (p.2.count y) p.1:=by
 have:=(nk T []).2.1 y;simpa [bM,aO] using this
theorem wl(T:Told)(y:Str):aQ y (bM T)=(T.map fun p=>if y = p.1 then (p.2.length:Int) else 0).sum:=by
 have:=(nk T []).2.2 y;have e:aQ y [] = 0:=rfl;rw [e] at this;simpa [bM] using this
theorem nt{T:Told}{x s:Str}:s∈aO x (bM T) ↔p9 T x s:=by
 rw [lj,List.mem_flatMap];constructor
 ·rintro ⟨p,hp,h⟩;obtain ⟨h1,rfl⟩:=List.mem_replicate.mp h;exact ⟨p,hp,rfl,List.count_pos_iff.mp (Nat.pos_of_ne_zero h1)⟩
 ·rintro ⟨p,hp,rfl,h⟩;exact ⟨p,hp,List.mem_replicate.mpr ⟨Nat.ne_of_gt (List.count_pos_iff.mpr h),rfl⟩⟩
theorem du{T:Told}{x:Str}:eZ (bM T) x ↔eM T x:=by
 constructor
 ·intro h
  induction h with
  | mk x _ ih=>exact .mk x fun s hs=>ih s (nt.mpr hs)
 ·intro h
  induction h with
  | mk x _ ih=>exact .mk x fun s hs=>ih s (nt.mp hs)
end
section
theorem gk{v:PV}{seen:List Str}{sk:List (Str×Nat)}{x:Str}(c:CP v seen sk)(t:jA v sk x){m:Nat}{p:Str×Nat}(hp:sk[m]? = some p):∃y,(sk.map (·.1)++ [x])[m+1]? = some y∧0 < p.2∧(aO p.1 v)[p.2 - 1]? = some y:=by
 have hlt:m < sk.length:=(gS hp).1
 by_cases hm:m+1 < sk.length
 ·have hq:sk[m+1]? = some sk[m+1]:=gE hm;obtain ⟨h1,h2⟩:=c.chain m p _ hp hq;refine ⟨sk[m+1].1,?_,h1,h2⟩;rw [List.getElem?_append_left (by simpa using hm),gM,hq];rfl
 ·have hm':m+1 = sk.length:=by change vK
  have hl:sk.getLast? = some p:=by rw [List.getLast?_eq_getElem?,show sk.length - 1 = m by change vx];exact hp
  obtain ⟨h1,h2⟩:=t p hl;refine ⟨x,?_,h1,h2⟩;rw [List.getElem?_append_right (lM (by change Nat.le_of_not_lt))];simp [hm']
theorem iu{v:PV}{names:List Str}{sk:List (Str×Nat)}{x:Str}{i:Nat}(R:Ring v names sk x i):∀y,eZ v y→∀m:Nat,(sk.map (·.1)++ [x])[m]? = some y→False:=by
 obtain ⟨seen,c⟩:=R.seen;intro y hy
 induction hy with
 | mk y hs ih=>
  have step:∀m:Nat,(sk.map (·.1))[m]? = some y→False:=fun m hm=>by
   rw [gM] at hm;obtain ⟨p,hp,rfl⟩:=oM hm;obtain ⟨z,hz,_,hz2⟩:=gk c R.top hp;exact ih z (mG hz2) (m+1) hz
  intro m hm
  by_cases hlt:m < (sk.map (·.1)).length
  ·rw [List.getElem?_append_left hlt] at hm;exact step m hm
  ·rw [List.getElem?_append_right (Nat.le_of_not_lt hlt)] at hm;have:m - (sk.map (·.1)).length = 0:=by
    have:=(gS hm).1;simp at this ⊢;assumption
   rw [this] at hm;simp at hm;subst hm;exact step i R.at_
theorem oJ{T:Told}{al:List Str}(hA:Alive T al){sk:List (Str×Nat)}{x:Str}{i:Nat}(R:Ring (bM T) (ag T) sk x i){y:Str}(hy:y∈sk.map (·.1)++ [x])(hm:y∈ag T):y∈al:=by
 obtain ⟨m,hm'⟩:=List.getElem?_of_mem hy;exact hA.all y hm fun hd=>iu R y (du.mpr hd) m hm'
theorem ko{T:Told}{x s:Str}(h:p9 T x s):s∈ag T∧x∈ag T:=by
 obtain ⟨p,hp,rfl,h⟩:=h;exact ⟨bq.mpr ⟨p,hp,.inl rfl⟩,bq.mpr ⟨p,hp,.inr h⟩⟩
theorem dG{T:Told}{sk:List (Str×Nat)}{x:Str}{i:Nat}(R:Ring (bM T) (ag T) sk x i):∀y∈sk.map (·.1)++ [x],y∈ag T:=by
 obtain ⟨seen,c⟩:=R.seen;have hin:∀y∈sk.map (·.1),y∈ag T:=fun y hy=>by
  obtain ⟨p,hp,rfl⟩:=mM hy;obtain ⟨m,hm⟩:=List.getElem?_of_mem hp;obtain ⟨z,_,_,h2⟩:=gk c R.top hm;exact (ko (nt.mp (mG h2))).2
 intro y hy;rcases mA hy with hy | hy
 ·exact hin y hy
 ·simp at hy;subst hy;exact hin _ (mG R.at_)
theorem si(T:Told)(al:List Str)(a:Str):((T.flatMap fun p=>List.replicate (p.2.count a) p.1).filter (decide <| ·∈al))[0]? =(jd T al a)[0]?:=by
 unfold jd
 induction T with
 | nil=>rfl
 | cons p T ih=>
  rw [List.flatMap_cons,List.filter_append,List.filter_cons]
  by_cases h1:a∈p.2
  ·have hc:p.2.count a =(p.2.count a - 1)+1:=by have:=List.count_pos_iff.mpr h1;change xG
   by_cases h2:p.1∈al
   ·rw [hc,List.replicate_succ,List.filter_cons,if_pos (by simpa using h2),if_pos (by simp [h1,h2])];rfl
   ·have:(List.replicate (p.2.count a) p.1).filter (decide <| ·∈al)= []:=by
     rw [List.filter_eq_nil_iff];intro y hy;rw [(List.mem_replicate.mp hy).2];simpa using h2
    rw [this,List.nil_append,if_neg (by simp [h2])];exact ih
  ·rw [List.count_eq_zero.mpr h1,if_neg (by simp [h1])]
   simpa using ih
theorem gr{al:List Str}:∀{l:List Str} {k:Nat} {b:Str},l[k]? = some b→b∈al→(∀(j:Nat) s,j < k→l[j]? = some s→s∉al)→(l.filter (decide <| ·∈al))[0]? = some b:=by
 intro zl
 induction zl with
 | nil=>
  intro k b h _ _;simp at h
 | cons a l ih=>
  intro zm;cases zm with
  | zero=>
   intro b h hb _;simp at h;subst h;rw [List.filter_cons,if_pos (by simpa using hb)];rfl
  | succ k=>
   intro b h hb hn;have ha:=hn 0 a (Nat.succ_pos _) rfl;rw [List.filter_cons,if_neg (by simpa using ha)]
   exact ih (by simpa using h) hb fun j s hj hs=>hn (j+1) s (by change xF) (by simpa using hs)
theorem pd{T:Told}{al:List Str}(hF:dD T al){sk:List (Str×Nat)}{x:Str}{i:Nat}(R:Ring (bM T) (ag T) sk x i){m:Nat}{a b:Str}(ha:(sk.map (·.1))[m]? = some a)(hb:(sk.map (·.1)++ [x])[m+1]? = some b):(jd T al a)[0]? = some b:=by
 obtain ⟨seen,c⟩:=R.seen;rw [gM] at ha;obtain ⟨p,hp,rfl⟩:=oM ha;obtain ⟨z,hz,h1,h2⟩:=gk c R.top hp;rw [hb] at hz;cases hz;rw [← si,← lj];have hbm:b∈sk.map (·.1)++ [x]:=mG hb;refine gr h2 (oJ hF.toAlive R hbm (dG R b hbm)) fun j s hj hs=>?_;have hd:=c.old p (mG hp) j s (by change yd) hs
 exact fun hm=>hF.dead hm (du.mp hd)
theorem lb{T:Told}{al:List Str}(hF:dD T al){k:Nat}{r:Str}(hk:(ag T)[k]? = some r)(hb:∀(j:Nat) y,j < k→(ag T)[j]? = some y→y∉al)(hr:r∈al):al[0]? = some r:=by
 obtain ⟨P,hP⟩:=hF.sub;have e:al =(ag T).filter (decide <| ·∈al):=by
  conv=>lhs;rw [hP]
  refine List.filter_congr fun y hy=>?_;rw [hP]
  by_cases h:P y = true
  ·simp [h,List.mem_filter,hy]
  ·simp [h,List.mem_filter]
 rw [e];exact gr hk hr hb
theorem pM{T:Told}{al wk:List Str}{sk:List (Str×Nat)}{x z:Str}{i j:Nat}(hF:dD T al)(hW:iG T al wk)(hz:wk.getLast? = some z)(hzm:z∈wk.dropLast)(hj:wk[j]? = some z)(hjn:∀m,m < j→wk[m]?≠some z)
  (R:Ring (bM T) (ag T) sk x i):(sk.map (·.1)).drop i++ [x] = wk.drop j:=by
 obtain ⟨seen,c⟩:=R.seen;have hnd:=c.nd;have hil:i < (sk.map (·.1)).length:=(gS R.at_).1;have key:∀(m:Nat) a b,(sk.map (·.1)++ [x])[m]? = some a→wk[m]? = some b→a = b:=by
  intro m
  induction m with
  | zero=>
   intro a b ha hb;obtain ⟨k,r,hk,hdead,hr⟩:=R.root;rw [List.getElem?_append_left (by change xe),hr] at ha
   cases ha;have hrm:a∈sk.map (·.1)++ [x]:=aL _ (mG hr);have:=lb hF hk (fun j y hj hy hm=>hF.dead hm (du.mp (hdead j y hj hy))) (oJ hF.toAlive R hrm (dG R a hrm));rw [hW.first,this] at hb;cases hb;rfl
  | succ m ih=>
   intro a b ha hb;have hml:m < (sk.map (·.1)).length:=by have:=(gS ha).1;simp at this ⊢;assumption
   have hmw:m < wk.length:=by have:=(gS hb).1;change Nat.lt_of_succ_lt
   have e1:(sk.map (·.1))[m]? = some (sk.map (·.1))[m]:=gE hml;have e2:wk[m]? = some wk[m]:=gE hmw;have e3:=ih _ _ (by rw [List.getElem?_append_left hml];exact e1) e2
   have s1:=pd hF R e1 ha;have s2:=hW.step m _ _ e2 hb;rw [e3,s2] at s1;cases s1;rfl
 have hwl:0 < wk.length:=List.length_pos_iff.mpr hW.ne;have hlen:wk.length =(sk.map (·.1)).length+1:=by
  rcases Nat.lt_trichotomy wk.length ((sk.map (·.1)).length+1) with h | h | h
  ·exfalso
   have hz0:wk[wk.length - 1]? = some z:=by rw [← List.getLast?_eq_getElem?];exact hz
   obtain ⟨m,hm⟩:=List.getElem?_of_mem hzm;have hmd:=(gS hm).1;rw [List.length_dropLast] at hmd;have hmw:wk[m]? = some z:=by rw [List.getElem?_dropLast] at hm;rwa [if_pos (by assumption)] at hm
   have g1:(sk.map (·.1))[wk.length - 1]? = some (sk.map (·.1))[wk.length - 1]:=gE (by change ut)
   have g2:(sk.map (·.1))[m]? = some (sk.map (·.1))[m]:=gE (by change r4)
   have k1:=key (wk.length - 1) _ _ (by rw [List.getElem?_append_left (by change ut)];exact g1) hz0
   have k2:=key m _ _ (by rw [List.getElem?_append_left (by change r4)];exact g2) hmw
   have:=(List.getElem?_inj (i:=m) (j:=wk.length - 1) (by change r4) hnd).mp (by rw [g1,g2,k1,k2])
   with_reducible exact (wB ‹_› ‹_›).elim
  ·exact h
  ·exfalso
   have h1:(sk.map (·.1)).length < wk.dropLast.length:=by rw [List.length_dropLast];change uy
   have g1:(sk.map (·.1)++ [x])[(sk.map (·.1)).length]? = some x:=by simp
   have g2:(sk.map (·.1)++ [x])[i]? = some x:=by rw [List.getElem?_append_left hil];exact R.at_
   have w1:wk.dropLast[(sk.map (·.1)).length]? = wk[(sk.map (·.1)).length]?:=by rw [List.getElem?_dropLast,if_pos (by change uy)]
   have w2:wk.dropLast[i]? = wk[i]?:=by rw [List.getElem?_dropLast,if_pos (by change wc)]
   have v1:wk[(sk.map (·.1)).length]? = some wk[(sk.map (·.1)).length]:=gE (by change Nat.lt_of_succ_lt)
   have v2:wk[i]? = some wk[i]:=gE (by change wv)
   have k1:=key _ _ _ g1 v1;have k2:=key _ _ _ g2 v2;have:=(List.getElem?_inj (i:=i) (j:=(sk.map (·.1)).length) (by change yi) hW.nd).mp (by rw [w1,w2,v1,v2,← k1,← k2])
   exact absurd this (Nat.ne_of_lt hil)
 have heq:wk = sk.map (·.1)++ [x]:=by
  refine List.ext_getElem? fun m=>?_
  by_cases hm:m < wk.length
  ·have v1:wk[m]? = some wk[m]:=gE hm;have v2:(sk.map (·.1)++ [x])[m]? = some ((sk.map (·.1)++ [x])[m]'(by simp at hlen ⊢;change yc)):=gE _
   rw [v1,v2,key m _ _ v2 v1]
  ·rw [List.getElem?_eq_none (by change Nat.le_of_not_lt),List.getElem?_eq_none (by simp at hlen ⊢;change wZ)]
 subst heq;have hzx:z = x:=by simp at hz;exact hz.symm
 subst hzx;have hji:j≤i:=by
  refine Nat.le_of_not_lt fun h=>hjn i h ?_;rw [List.getElem?_append_left hil];exact R.at_
 have:j = i:=by
  rw [List.getElem?_append_left (by change Nat.lt_of_le_of_lt)] at hj
  exact (List.getElem?_inj (by change Nat.lt_of_le_of_lt) hnd).mp (hj.trans R.at_.symm)
 subst this;rw [List.drop_append_of_le_length (by change Nat.le_of_lt)]
end
section
structure mW(T:Told):Prop where
 nd:(T.map (·.1)).Nodup
 all:∀x∈ag T,x∈T.map (·.1)
noncomputable def partsOf(T:Told)(x:Str):List Str:=((T.find? fun p=>p.1 = x).map (·.2)).getD []
theorem bG{T:Told}(h:(T.map (·.1)).Nodup){p:Str×List Str}(hp:p∈T):partsOf T p.1 = p.2:=by
 unfold partsOf
 induction T with
 | nil=>cases hp
 | cons a T ih=>
  rw [List.map_cons,List.nodup_cons] at h;rw [List.find?_cons];rcases mC hp with rfl | hp
  ·simp
  ·have:a.1≠p.1:=fun e=>h.1 (e▸List.mem_map_of_mem hp);rw [show decide (a.1 = p.1)= false from decide_eq_false this];exact ih h.2 hp
noncomputable def startT(T:Told):List Str:=((az T).filter fun x=>(partsOf T x).isEmpty).foldl bL []
theorem jW(P:Str→Bool):∀(l ks:List Str),(l.filter P).foldl bL (ks.filter P)=(l.foldl bL ks).filter P:=by
 intro zl
 induction zl with
 | nil=>
  intro ks;exact rfl
 | cons x l ih=>
  intro ks;rw [List.foldl_cons,← ih (bL ks x),List.filter_cons]
  by_cases h:P x = true
  ·rw [if_pos h,List.foldl_cons]
   congr 1
   unfold bL
   by_cases hm:x∈ks
   ·rw [if_pos (List.mem_filter.mpr ⟨hm,h⟩),if_pos hm]
   ·rw [if_neg (fun q=>hm (List.mem_filter.mp q).1),if_neg hm,List.filter_append,List.filter_cons,if_pos h];rfl
  ·rw [if_neg h]
   congr 1
   unfold bL
   split
   ·rfl
   ·rw [List.filter_append,List.filter_cons,if_neg h];simp
theorem d7(T:Told):startT T =(ag T).filter fun x=>(partsOf T x).isEmpty:=by
 have:=jW (fun x=>(partsOf T x).isEmpty) (az T) [];simpa [startT,ag] using this
noncomputable def kH(T:Told)(o:List Str)(x:Str):List Str:=(T.filter fun p=>decide (x∈p.2)&& p.2.all fun q=>decide (q∈o)).map (·.1)
theorem gV{T:Told}{o:List Str}{x y:Str}:y∈kH T o x ↔∃p∈T,p.1 = y∧x∈p.2∧∀q∈p.2,q∈o:=by
 unfold kH;simp only [List.mem_map,List.mem_filter,Bool.and_eq_true,decide_eq_true_eq,List.all_eq_true];constructor
 ·rintro ⟨p,⟨h1,h2,h3⟩,rfl⟩;exact ⟨p,h1,rfl,h2,h3⟩
 ·rintro ⟨p,h1,rfl,h2,h3⟩;exact ⟨p,⟨h1,h2,h3⟩,rfl⟩
noncomputable def qt(last:Bool):List Str→Option (Str×List Str)
 | []=>none
 | x::r=>if last then some ((x::r).getLast (by simp),(x::r).dropLast) else some (x,r)
theorem jn{b:Bool}{w:List Str}{x:Str}{r:List Str}(h:qt b w = some (x,r)):w.Perm (x::r):=by
 cases w with
 | nil=>cases h
 | cons a w=>
  cases b with
  | true=>
   have e:qt true (a::w)= some ((a::w).getLast (by simp),(a::w).dropLast):=rfl
   rw [e] at h;cases h
   conv=>lhs;rw [← List.dropLast_concat_getLast (l:=a::w) (by simp)]
   exact List.perm_append_comm
  | false=>
   have e:qt false (a::w)= some (a,w):=rfl;rw [e] at h;cases h;exact .refl _
structure OI(T:Told)(o w:List Str):Prop where
 nd:(o++w).Nodup
 mem:∀x∈o++w,x∈ag T
 done:∀x∈o++w,∀q∈partsOf T x,q∈o
 ord:∀(i:Nat) x,o[i]? = some x→∀q∈partsOf T x,q∈o.take i
theorem OI.start{T:Told}:OI T [] (startT T):=by
 rw [d7];refine ⟨by rw [List.nil_append];exact (cg T).filter _,fun x hx=>?_,fun x hx q hq=>?_,fun i x h=>by simp at h⟩
 ·simp at hx;exact hx.1
 ·simp at hx;rw [hx.2] at hq;cases hq
theorem po{T:Told}(h:mW T)(o:List Str)(x:Str):(kH T o x).Nodup:=by
 unfold kH;exact (List.Sublist.map _ List.filter_sublist).nodup h.nd
theorem OI.step{T:Told}(ok:mW T){o w r:List Str}{x:Str}{b:Bool}(h:OI T o w)(hp:qt b w = some (x,r)):OI T (o++ [x]) (r++kH T (o++ [x]) x):=by
 have pm:=jn hp;have hxw:x∈w:=pm.mem_iff.mpr (.head _);have hrw:∀y∈r,y∈w:=fun y hy=>pm.mem_iff.mpr (.tail _ hy);have nd1:(o++x::r).Nodup:=(List.Perm.nodup_iff (List.Perm.append_left o pm)).mp h.nd;have hxo:x∉o:=fun hm=>by
  rw [List.nodup_append] at nd1;exact nd1.2.2 x hm x (.head _) rfl
 have hun:∀y∈kH T (o++ [x]) x,y∉o++w:=fun y hy hm=>by
  obtain ⟨p,hpT,rfl,hxp,_⟩:=gV.mp hy;have:=h.done _ hm x (by rw [bG ok.nd hpT];exact hxp)
  exact hxo this
 refine ⟨?_,fun y hy=>?_,fun y hy q hq=>?_,fun i y hi q hq=>?_⟩
 ·rw [← List.append_assoc,List.append_assoc o,List.singleton_append,List.nodup_append];refine ⟨nd1,po ok _ _,fun a ha b hb=>?_⟩;rintro rfl;refine hun a hb ?_;rcases mA ha with ha | ha
  ·exact aL _ ha
  ·exact aR _ (pm.mem_iff.mpr ha)
 ·rcases mA hy with hy | hy
  ·rcases mA hy with hy | hy
   ·exact h.mem y (aL _ hy)
   ·simp at hy;subst hy;exact h.mem _ (aR _ hxw)
  ·rcases mA hy with hy | hy
   ·exact h.mem y (aR _ (hrw y hy))
   ·obtain ⟨p,hpT,rfl,_⟩:=gV.mp hy;exact bq.mpr ⟨p,hpT,.inl rfl⟩
 ·rcases mA hy with hy | hy
  ·rcases mA hy with hy | hy
   ·exact aL _ (h.done y (aL _ hy) q hq)
   ·simp at hy;subst hy;exact aL _ (h.done _ (aR _ hxw) q hq)
  ·rcases mA hy with hy | hy
   ·exact aL _ (h.done y (aR _ (hrw y hy)) q hq)
   ·obtain ⟨p,hpT,rfl,_,hall⟩:=gV.mp hy;rw [bG ok.nd hpT] at hq;exact hall q hq
 ·by_cases hil:i < o.length
  ·rw [List.getElem?_append_left hil] at hi;rw [List.take_append_of_le_length (by change Nat.le_of_lt)]
   exact h.ord i y hi q hq
  ·rw [List.getElem?_append_right (by change Nat.le_of_not_lt)] at hi
   have:i = o.length:=by have:=(gS hi).1;simp at this;change wY
   subst this;simp at hi;subst hi;rw [List.take_left];exact h.done _ (aR _ hxw) q hq
theorem OI.len{T:Told}{o w:List Str}(h:OI T o w):(o++w).length≤(ag T).length:=bw h.nd h.mem
end
section
theorem bQ(prs:List (Str×AV))(h:(prs.map (·.1)).Nodup):ax prs =(prs.map (·.1),prs.map (·.2)):=by
 have key:∀(l:List (Str×AV)) (b:List Str×List AV),(b.1++l.map (·.1)).Nodup→l.foldl (fun b p=>dput b.1 b.2 p.1 p.2) b =(b.1++l.map (·.1),b.2++l.map (·.2)):=by
  intro l
  induction l with
  | nil=>intro b _;simp
  | cons p l ih=>
   intro b hb;have hn:p.1∉b.1:=fun hm=>by
    rw [List.nodup_append] at hb;exact hb.2.2 p.1 hm p.1 (by simp) rfl
   have e:dput b.1 b.2 p.1 p.2 =(b.1++ [p.1],b.2++ [p.2]):=by unfold dput;rw [if_neg hn]
   rw [List.foldl_cons,e,ih _ (by simpa using hb)];simp
 have:=key prs ([],[]) (by simpa using h)
 simpa [ax] using this
noncomputable def hY(T:Told):AV:= .dct (T.map (·.1)) (T.map fun p=> .lst (p.2.map .str))
theorem mL(T:Told):T.map aD =(T.map fun p=>(p.1,AV.lst (p.2.map .str))).map fun p=> .tup [.str p.1,p.2]:=by
 rw [List.map_map];rfl
theorem pg{T:Told}(h:(T.map (·.1)).Nodup):AV.dct (ax (T.map fun p=>(p.1,AV.lst (p.2.map .str)))).1 (ax (T.map fun p=>(p.1,AV.lst (p.2.map .str)))).2 = hY T:=by
 rw [bQ _ (by rw [List.map_map];exact h)]
 unfold hY;rw [List.map_map,List.map_map];rfl
end
section
noncomputable def gf(o ps:List Str):Nat:=ps.countP fun q=>! decide (q∈o)
theorem fU{o:List Str}{x:Str}(hx:x∉o):∀ps:List Str,gf o ps = gf (o++ [x]) ps+ps.count x
 | []=>rfl
 | q::ps=>by
  have ih:=fU hx ps;unfold gf at ih ⊢;rw [List.countP_cons,List.countP_cons,List.count_cons,ih]
  by_cases hq:q = x
  ·subst hq;simp [hx];with_reducible exact Nat.add_assoc _ _ _
  ·by_cases ho:q∈o
   ·simp [ho,hq]
   ·simp [ho,hq];change xg
theorem jD{o ps:List Str}:gf o ps = 0 ↔∀q∈ps,q∈o:=by
 unfold gf;rw [List.countP_eq_zero];simp
structure cy(v v':PV):Prop where
 nm:v'.map (·.1)= v.map (·.1)
 sc:∀z,aO z v' = aO z v
theorem cy.refl(v:PV):cy v v:=⟨rfl,fun Z=>rfl⟩
theorem cy.trans{a b c:PV}(x:cy a b)(y:cy b c):cy a c:=⟨y.nm.trans x.nm,fun z=>(y.sc z).trans (x.sc z)⟩
theorem kK{y:Str}:∀(k:Nat) (v:PV) (l:List Str) (c:Nat),y∈v.map (·.1)→aQ y v = c+k→
  cy v ((List.replicate k y).foldl a9 (v,l)).1∧(∀z,aQ z ((List.replicate k y).foldl a9 (v,l)).1 = aQ z v - if z = y then (k:Int) else 0)∧((List.replicate k y).foldl a9 (v,l)).2 = l++if 0 < k∧c = 0 then [y] else []
 | 0,v,l,c,hy,hnp=>⟨cy.refl v,fun z=>by show aQ z v = _;simp,by simp⟩
 | k+1,v,l,c,hy,hnp=>by
  have e1:aQ y (aP y (-1) v)= c+k:=by rw [iK y (-1) hy,if_pos rfl,hnp];change xv
  have ih:=kK k (aP y (-1) v) (if aQ y (aP y (-1) v)= 0 then l++ [y] else l) c (by rw [da];exact hy) e1
  rw [List.replicate_succ,List.foldl_cons];refine (⟨cy.trans ⟨da _ _ _,fun z=>ly _ _ _ _⟩ ih.1,fun z=>?_,?_⟩:cy v ((List.replicate k y).foldl a9 (aP y (-1) v,if aQ y (aP y (-1) v)= 0 then l++ [y] else l)).1∧(∀z,aQ z ((List.replicate k y).foldl a9 (aP y (-1) v,if aQ y (aP y (-1) v)= 0 then l++ [y] else l)).1 = _)∧((List.replicate k y).foldl a9 (aP y (-1) v,if aQ y (aP y (-1) v)= 0 then l++ [y] else l)).2 = _)
  ·rw [ih.2.1 z,iK z (-1) hy]
   by_cases hz:z = y
   ·rw [if_pos hz,if_pos hz,if_pos hz];change xK
   ·rw [if_neg hz,if_neg hz,if_neg hz];change wU
  ·rw [ih.2.2,e1]
   by_cases hc:c = 0
   ·by_cases hk:k = 0
    ·subst hc hk;simp
    ·rw [if_neg (show ¬((c:Int)+(k:Int)= 0) from fun e=>hk (Nat.eq_zero_of_add_eq_zero (Int.ofNat.inj e)).2),if_pos ⟨by change wb,hc⟩,if_pos ⟨by change yf,hc⟩]
   ·rw [if_neg (show ¬((c:Int)+(k:Int)= 0) from fun e=>hc (Nat.eq_zero_of_add_eq_zero (Int.ofNat.inj e)).1),if_neg (by simp [hc]),if_neg (by simp [hc])]
theorem r9(p:Str×List Str)(L:Told)(o:List Str)(x:Str):kH (p::L) o x =(if 0 < p.2.count x∧gf o p.2 = 0 then [p.1] else [])++kH L o x:=by
 unfold kH;rw [List.filter_cons]
 by_cases h:0 < p.2.count x∧gf o p.2 = 0
 ·rw [if_pos h,if_pos]
  ·rfl
  ·simp only [Bool.and_eq_true,decide_eq_true_eq,List.all_eq_true];exact ⟨List.count_pos_iff.mp h.1,jD.mp h.2⟩
 ·rw [if_neg h,if_neg]
  ·rfl
  ·simp only [Bool.and_eq_true,decide_eq_true_eq,List.all_eq_true];exact fun q=>h ⟨List.count_pos_iff.mpr q.1,jD.mpr q.2⟩
theorem jE{x:Str}{o:List Str}:∀(L:Told) (v:PV) (l:List Str),(L.map (·.1)).Nodup→(∀p∈L,p.1∈v.map (·.1))→(∀p∈L,0 < p.2.count x→aQ p.1 v = gf o p.2+p.2.count x)→
  cy v ((L.flatMap fun p=>List.replicate (p.2.count x) p.1).foldl a9 (v,l)).1∧(∀z,z∉L.map (·.1)→aQ z ((L.flatMap fun p=>List.replicate (p.2.count x) p.1).foldl a9 (v,l)).1 = aQ z v)∧
  (∀p∈L,aQ p.1 ((L.flatMap fun p=>List.replicate (p.2.count x) p.1).foldl a9 (v,l)).1 = aQ p.1 v - p.2.count x)∧((L.flatMap fun p=>List.replicate (p.2.count x) p.1).foldl a9 (v,l)).2 = l++kH L o x
 | [],v,l,_,_,_=>⟨cy.refl v,fun Z Y=>rfl,(fun p h=>absurd h (List.not_mem_nil)),by simp [kH]⟩
 | p::L,v,l,hnd,hin,hnp=>by
  rw [List.map_cons,List.nodup_cons] at hnd;rw [List.flatMap_cons,List.foldl_append];have s1:cy v ((List.replicate (p.2.count x) p.1).foldl a9 (v,l)).1∧(∀z,aQ z ((List.replicate (p.2.count x) p.1).foldl a9 (v,l)).1 = aQ z v - if z = p.1 then ((p.2.count x:Nat):Int) else 0)∧((List.replicate (p.2.count x) p.1).foldl a9 (v,l)).2 = l++if 0 < p.2.count x∧gf o p.2 = 0 then [p.1] else []:=by
   by_cases hc:0 < p.2.count x
   ·exact kK (p.2.count x) v l (gf o p.2) (hin p (.head _)) (hnp p (.head _) hc)
   ·have:p.2.count x = 0:=by change xO
    rw [this];exact ⟨cy.refl v,fun z=>by show aQ z v = _;simp,by simp⟩
  generalize (List.replicate (p.2.count x) p.1).foldl a9 (v,l)= a at *;obtain ⟨v1,l1⟩:=a;obtain ⟨r1,n1,e1⟩:=s1;dsimp only at r1 n1 e1;have hne:∀q∈L,q.1≠p.1:=fun q hq e=>hnd.1 (e▸List.mem_map_of_mem hq);have ih:=jE (x:=x) (o:=o) L v1 l1 hnd.2 (fun q hq=>by rw [r1.nm];exact hin q (.tail _ hq)) (fun q hq hc=>by rw [n1,if_neg (hne q hq),Int.sub_zero];exact hnp q (.tail _ hq) hc)
  obtain ⟨r2,n2,n3,e2⟩:=ih;refine ⟨r1.trans r2,fun z hz=>?_,fun q hq=>?_,?_⟩
  ·rw [List.map_cons,List.mem_cons,not_or] at hz;rw [n2 z hz.2,n1,if_neg hz.1,Int.sub_zero]
  ·rcases mC hq with rfl | hq
   ·rw [n2 _ hnd.1,n1,if_pos rfl]
   ·rw [n3 q hq,n1,if_neg (hne q hq),Int.sub_zero]
  ·rw [e2,e1,r9,List.append_assoc]
end
section
structure SI(T:Told)(o u:List Str)(v:PV):Prop where
 nm:v.map (·.1)= ag T
 sc:∀z,aO z v = aO z (bM T)
 od:∀x∈o,aQ x v = -2
 ud:∀x∈u,aQ x v = -1
 rest:∀x∈ag T,x∉o→x∉u→aQ x v = gf o (partsOf T x)
theorem k7(ps:List Str):gf [] ps = ps.length:=by
 unfold gf;rw [List.countP_eq_length];simp
theorem tz{T:Told}(h:(T.map (·.1)).Nodup){p:Str×List Str}(hp:p∈T):(T.map fun q=>if p.1 = q.1 then (q.2.length:Int) else 0).sum = p.2.length:=by
 induction T with
 | nil=>cases hp
 | cons a T ih=>
  rw [List.map_cons,List.nodup_cons] at h;rw [List.map_cons,List.sum_cons];have zero:∀L:Told,(∀q∈L,p.1≠q.1)→(L.map fun q=>if p.1 = q.1 then (q.2.length:Int) else 0).sum = 0:=by
   intro L
   induction L with
   | nil=>intro _;rfl
   | cons q L ihL=>
    intro hq;rw [List.map_cons,List.sum_cons,if_neg (hq q (.head _)),ihL fun z hz=>hq z (.tail _ hz)];rfl
  rcases mC hp with rfl | hp
  ·rw [if_pos rfl,zero T fun q hq e=>h.1 (e▸List.mem_map_of_mem hq)];change v6
  ·have hne:p.1≠a.1:=fun e=>h.1 (e▸List.mem_map_of_mem hp);rw [if_neg hne,ih h.2 hp];change x6
theorem SI.start{T:Told}(ok:mW T):SI T [] [] (bM T):=by
 refine ⟨cw T,fun Z=>rfl,(fun x h=>absurd h List.not_mem_nil),(fun x h=>absurd h List.not_mem_nil),fun x hx Z Y=>?_⟩;obtain ⟨p,hp,rfl⟩:=mM (ok.all x hx);rw [wl,tz ok.nd hp,bG ok.nd hp,k7]
theorem t0{v:PV}(h:(v.map (·.1)).Nodup){p:Str×Int×List Str}(hp:p∈v):aQ p.1 v = p.2.1:=by
 rw [bY]
 induction v with
 | nil=>cases hp
 | cons a v ih=>
  rw [List.map_cons,List.nodup_cons] at h;unfold dR at ih ⊢;rw [List.find?_cons];rcases mC hp with rfl | hp
  ·simp
  ·have hne:a.1≠p.1:=fun e=>h.1 (e▸List.mem_map_of_mem hp);rw [show decide (a.1 = p.1)= false from decide_eq_false hne];exact ih h.2 hp
theorem kY{T:Told}(ok:mW T):de (bM T)= startT T:=by
 have hnm:=cw T;have hnd:((bM T).map (·.1)).Nodup:=by rw [hnm];exact cg T
 have S:=SI.start ok;rw [d7,← hnm];unfold de;rw [List.filter_map]
 congr 1
 refine List.filter_congr fun p hp=>?_;have h1:=t0 hnd hp;have h2:=S.rest p.1 (by rw [← hnm];exact List.mem_map_of_mem hp) (by simp) (by simp)
 rw [k7] at h2;rw [← h1,h2];show _ =(partsOf T p.1).isEmpty;cases partsOf T p.1 with
 | nil=>rfl
 | cons a r=>simp;with_reducible exact fun Z=>yE ‹_›
theorem lh{k:Int}:∀(l:List Str) (v:PV),(∀x∈l,x∈v.map (·.1))→cy v (l.foldl (fun v x=>setNp x k v) v)∧∀z,aQ z (l.foldl (fun v x=>setNp x k v) v)= if z∈l then k else aQ z v
 | [],v,h=>⟨cy.refl v,fun z=>by simp⟩
 | x::l,v,h=>by
  have ih:=lh (k:=k) l (setNp x k v) (fun y hy=>by rw [bF];exact h y (.tail _ hy))
  rw [List.foldl_cons];refine ⟨cy.trans ⟨bF _ _ _,fun z=>lc _ _ _ _⟩ ih.1,fun z=>?_⟩;rw [ih.2 z,io z k (h x (.head _))]
  by_cases h1:z∈l
  ·rw [if_pos h1,if_pos (.tail _ h1)]
  ·refine (if_neg h1).trans ?_
   by_cases h2:z = x
   ·rw [if_pos h2,if_pos (by rw [h2];exact .head _)]
   ·rw [if_neg h2,if_neg (by simp [h1,h2])]
theorem SI.ready{T:Told}{o u l:List Str}{v:PV}(S:SI T o u v)(hl:∀x∈l,x∈ag T)(hd:∀x∈l,x∉o):SI T o (u++l) (l.foldl (fun v x=>setNp x (-1) v) v):=by
 obtain ⟨r,n⟩:=lh (k:= -1) l v (fun x hx=>by rw [S.nm];exact hl x hx)
 refine ⟨r.nm.trans S.nm,fun z=>(r.sc z).trans (S.sc z),fun x hx=>?_,fun x hx=>?_,fun x hx h1 h2=>?_⟩
 ·rw [n,if_neg (fun q=>hd x q hx)];exact S.od x hx
 ·rw [n]
  by_cases h:x∈l
  ·rw [if_pos h]
  ·refine (if_neg h).trans ?_;rcases mA hx with q | q
   ·exact S.ud x q
   ·exact absurd q h
 ·rw [List.mem_append,not_or] at h2;rw [n,if_neg h2.2];exact S.rest x hx h1 h2.1
theorem SI.done{T:Told}(ok:mW T){o u r:List Str}{x:Str}{b:Bool}{v:PV}(S:SI T o u v)(h:OI T o u)(hp:qt b u = some (x,r)):
  SI T (o++ [x]) r (aI (v,[]) x).1∧(aI (v,[]) x).2 = kH T (o++ [x]) x:=by
 have pm:=jn hp;have hxu:x∈u:=pm.mem_iff.mpr (.head _);have nd1:(o++x::r).Nodup:=(List.Perm.nodup_iff (List.Perm.append_left o pm)).mp h.nd;rw [List.nodup_append] at nd1;obtain ⟨ndo,ndx,ndd⟩:=nd1;have hxo:x∉o:=fun hm=>ndd x hm x (.head _) rfl;have hxr:x∉r:=(List.nodup_cons.mp ndx).1;have hxm:x∈v.map (·.1):=by rw [S.nm];exact h.mem x (aR _ hxu)
 have hcnt:∀y∈o++u,(partsOf T y).count x = 0:=fun y hy=>by
  rw [List.count_eq_zero];exact fun q=>hxo (h.done y hy x q)
 have told:∀y∈ag T,∃p∈T,p.1 = y∧partsOf T y = p.2:=fun y hy=>by
  obtain ⟨p,hp,rfl⟩:=mM (ok.all y hy);exact ⟨p,hp,rfl,bG ok.nd hp⟩
 have hin:∀p∈T,p.1∈ag T:=fun p hp=>bq.mpr ⟨p,hp,.inl rfl⟩;have key:=jE (x:=x) (o:=o++ [x]) T (setNp x (-2) v) [] ok.nd (fun p hp=>by rw [bF,S.nm];exact hin p hp) (fun p hp hc=>by
  have hne:p.1∉o++u:=fun q=>by
   have:=hcnt p.1 q;rw [bG ok.nd hp] at this;with_reducible exact (xX ‹_› ‹_›).elim
  rw [List.mem_append,not_or] at hne;have hpx:p.1≠x:=fun e=>hne.2 (e▸hxu);rw [io p.1 (-2) hxm,if_neg hpx,S.rest p.1 (hin p hp) hne.1 hne.2,bG ok.nd hp,fU hxo]
  change vB)
 have e:aI (v,[]) x =(T.flatMap fun p=>List.replicate (p.2.count x) p.1).foldl a9 (setNp x (-2) v,[]):=by
  unfold aI;rw [S.sc,lj]
 rw [e];obtain ⟨r1,n1,n2,e1⟩:=key;have np:∀y∈ag T,aQ y ((T.flatMap fun p=>List.replicate (p.2.count x) p.1).foldl a9 (setNp x (-2) v,[])).1 =(if y = x then -2 else aQ y v) - (partsOf T y).count x:=fun y hy=>by
  obtain ⟨p,hp,rfl,e2⟩:=told y hy;rw [n2 p hp,io p.1 (-2) hxm,e2]
 have hru:∀y∈r,y∈u:=fun y hy=>pm.mem_iff.mpr (.tail _ hy);refine ⟨⟨(r1.nm.trans (bF _ _ _)).trans S.nm,fun z=>((r1.sc z).trans (lc _ _ _ _)).trans (S.sc z),fun y hy=>?_,fun y hy=>?_,fun y hy h1 h2=>?_⟩,by rw [e1,List.nil_append]⟩
 ·rcases mA hy with hy | hy
  ·have hyx:y≠x:=fun e=>hxo (e▸hy);rw [np y (h.mem y (aL _ hy)),if_neg hyx,S.od y hy,hcnt y (aL _ hy)];rfl
  ·simp at hy;subst hy;rw [np _ (h.mem _ (aR _ hxu)),if_pos rfl,hcnt _ (aR _ hxu)];rfl
 ·have hyx:y≠x:=fun e=>hxr (e▸hy);rw [np y (h.mem y (aR _ (hru y hy))),if_neg hyx,S.ud y (hru y hy),hcnt y (aR _ (hru y hy))];rfl
 ·rw [List.mem_append,not_or] at h1;have hyx:y≠x:=fun e=>h1.2 (by simp [e])
  have hyu:y∉u:=fun q=>by
   rcases mC (pm.mem_iff.mp q) with q | q
   ·exact hyx q
   ·exact h2 q
  rw [np y hy,if_neg hyx,S.rest y hy h1.1 hyu,fU hxo]
  change wW
end
section
structure dC(hp₀ hp:Nat→Option AO)(g g':SG)(L:List (Nat×AO)):Prop where
 ch:Ch hp₀ hp g g'
 at_:∀p∈L,hp p.1 = some p.2
 nd:(L.map (·.1)).Nodup
 out:∀p∈L,p.1∉g'.foot∧(p.1∈g.foot∨hp₀ p.1 = Option.none)
theorem dC.start{hp:Nat→Option AO}{g:SG}(S:bX hp g):dC hp hp g g []:=⟨Ch.refl S,fun p h=>absurd h List.not_mem_nil,List.nodup_nil,fun p h=>absurd h List.not_mem_nil⟩
theorem dC.call{a b c:Nat→Option AO}{g g' g'':SG}{L:List (Nat×AO)}(x:dC a b g g' L)(y:Ch b c g' g''):dC a c g g'' L:=by
 refine ⟨x.ch.trans y,fun p hp=>y.oth p.1 p.2 (x.out p hp).1 (x.at_ p hp),x.nd,fun p hp=>⟨fun q=>?_,(x.out p hp).2⟩⟩;rcases y.new p.1 q with q | q
 ·exact (x.out p hp).1 q
 ·rw [x.at_ p hp] at q;cases q
theorem dC.new{a:Nat→Option AO}{st:St}{g g':SG}{L:List (Nat×AO)}(x:dC a st.hp g g' L){k:Nat}(hk:st.hp k = Option.none)(ao:AO):dC a (st.put k ao).hp g g' (L++ [(k,ao)]):=by
 have hkf:k∉g'.foot:=x.ch.srt.notin hk;have hk0:k∈g.foot∨a k = Option.none:=by
  by_cases hf:k∈g.foot
  ·exact .inl hf
  ·right
   cases ha:a k with
   | none=>rfl
   | some ao'=>have:=x.ch.oth k ao' hf ha;rw [hk] at this;cases this
 have hkL:∀p∈L,p.1≠k:=fun p hp e=>by have:=x.at_ p hp;rw [e,hk] at this;cases this
 have hput:∀j ao',st.hp j = some ao'→(st.put k ao).hp j = some ao':=fun j ao' e=>by
  show (if j = k then some ao else st.hp j)= some ao';rw [if_neg (fun q=>by rw [q,hk] at e;cases e)];exact e
 refine ⟨⟨x.ch.srt.kp hput,fun j ao' hj e=>hput j ao' (x.ch.oth j ao' hj e),x.ch.new,x.ch.i⟩,fun p hp=>?_,?_,fun p hp=>?_⟩
 ·rcases mA hp with hp | hp
  ·exact hput _ _ (x.at_ p hp)
  ·simp at hp;subst hp;exact if_pos rfl
 ·rw [List.map_append,List.nodup_append];refine ⟨x.nd,by simp,fun u hu v hv=>?_⟩
  simp at hv;subst hv;obtain ⟨p,hp,rfl⟩:=mM hu;exact hkL p hp
 ·rcases mA hp with hp | hp
  ·exact x.out p hp
  ·simp at hp;subst hp;exact ⟨hkf,hk0⟩
theorem dC.put{a:Nat→Option AO}{st:St}{g g':SG}{L:List (Nat×AO)}(x:dC a st.hp g g' L){i k:Nat}{ao:AO}(hi:L[i]? = some (k,ao))(ao':AO):dC a (st.put k ao').hp g g' (L.set i (k,ao')):=by
 have hm:=mG hi;have hil:i < L.length:=(gS hi).1;have ho:=x.out _ hm;dsimp only at ho;have hput:∀j b,j≠k→st.hp j = some b→(st.put k ao').hp j = some b:=fun j b hj e=>by
  exact (if_neg hj).trans e
 refine ⟨⟨⟨fun p hp=>hput _ _ (fun e=>ho.1 (e▸List.mem_map_of_mem hp)) (x.ch.srt.at_ p hp),x.ch.srt.nd,x.ch.srt.names⟩,fun j b hj e=>?_,x.ch.new,x.ch.i⟩,fun p hp=>?_,?_,fun p hp=>?_⟩
 ·refine hput j b (fun q=>?_) (x.ch.oth j b hj e);subst q;rcases ho.2 with q | q
  ·exact hj q
  ·rw [q] at e;cases e
 ·obtain ⟨m,hm'⟩:=List.getElem?_of_mem hp;rw [List.getElem?_set] at hm'
  by_cases e:i = m
  ·rw [if_pos e,if_pos (by assumption)] at hm'
   cases hm';exact if_pos rfl
  ·rw [if_neg e] at hm';refine hput _ _ (fun q=>e ?_) (x.at_ p (mG hm'));refine ((List.getElem?_inj (by rw [lN];exact hil) x.nd).mp ?_)
   rw [gM,gM,hi,hm'];simp [q]
 ·have e:(L.set i (k,ao')).map (·.1)= L.map (·.1):=by
   refine List.ext_getElem? fun m=>?_;rw [gM,gM,List.getElem?_set]
   by_cases e:i = m
   ·subst e;rw [if_pos rfl,if_pos hil,hi];rfl
   ·rw [if_neg e]
  rw [e];exact x.nd
 ·rcases List.mem_or_eq_of_mem_set hp with hp | rfl
  ·exact x.out p hp
  ·exact ho
theorem dC.get{a b:Nat→Option AO}{g g':SG}{L:List (Nat×AO)}(x:dC a b g g' L){i k:Nat}{ao:AO}(hi:L[i]? = some (k,ao)):b k = some ao:=x.at_ _ (mG hi)
end
section
section
variable {G:Gd}{cx:Cx}{fm:Fm}{X:Value→St→Prop}{W₀ W:Wd}{st:St}{s:Shared}{Q:AV→St→Prop}
end
end
section
theorem gF(x:Str):∀T:Told,(T.flatMap fun p=>List.replicate (p.2.count x) p.1).length≤(az T).length
 | []=>by simp
 | p::T=>by
  have ih:=gF x T;have h1:p.2.count x≤p.2.length:=List.count_le_length;unfold az at ih ⊢;rw [List.flatMap_cons,List.flatMap_cons,List.length_append,List.length_append,List.length_replicate];simp only [List.length_cons]
  change vO
theorem ny(T:Told)(x:Str):(aO x (bM T)).length≤(az T).length:=by
 rw [lj];exact gF x T
theorem t5{T:Told}{x s:Str}(h:s∈aO x (bM T)):s∈ag T:=by
 rw [lj] at h;obtain ⟨p,hp,h⟩:=List.mem_flatMap.mp h;obtain ⟨_,rfl⟩:=List.mem_replicate.mp h;exact bq.mpr ⟨p,hp,.inl rfl⟩
end
section
theorem eZ.cong{v v':PV}(h:∀z,aO z v = aO z v'){x:Str}(d:eZ v x):eZ v' x:=by
 induction d with
 | mk x _ ih=>exact .mk x fun s hs=>ih s (by rw [h];exact hs)
theorem CP.cong{v v':PV}{seen:List Str}{sk:List (Str×Nat)}(h:∀z,aO z v = aO z v')(c:CP v seen sk):CP v' seen sk:=
 ⟨c.nd,c.sub,fun x hx hn=>(c.dead x hx hn).cong h,fun i p q hp hq=>by rw [← h];exact c.chain i p q hp hq,fun p hp j s hj hs=>(c.old p hp j s hj (by rw [h];exact hs)).cong h⟩
theorem Ring.cong{v v':PV}{names:List Str}{sk:List (Str×Nat)}{x:Str}{i:Nat}(h:∀z,aO z v = aO z v')(R:Ring v names sk x i):Ring v' names sk x i:=by
 obtain ⟨⟨seen,c⟩,t,⟨k,r,h1,h2,h3⟩,a,l⟩:=R;exact ⟨⟨seen,c.cong h⟩,fun p hp=>by rw [← h];exact t p hp,⟨k,r,h1,fun j y hj hy=>(h2 j y hj hy).cong h,h3⟩,a,l⟩
noncomputable def dV(T:Told)(rv:AV):Prop:=
 (rv = .none∧∀x∈ag T,eM T x)∨
 ∃al wk j x,dD T al∧iG T al wk∧wk.getLast? = some x∧x∈wk.dropLast∧wk[j]? = some x∧(∀m,m < j→wk[m]?≠some x)∧rv = .lst ((wk.drop j).map .str)
theorem dV.alive{T:Told}{rv:AV}(h:dV T rv):(rv = .none∧∀x∈ag T,eM T x)∨∃l,rv = .lst l∧∃x∈ag T,¬eM T x:=by
 rcases h with h | ⟨al,wk,j,x,hF,hW,_,_,hj,_,e⟩
 ·exact .inl h
 ·have hx:=hW.mem x (mG hj);exact .inr ⟨_,e,x,hF.toAlive.mem hx,hF.dead hx⟩
theorem dV.same{T:Told}{rv:AV}(h:dV T rv){sk:List (Str×Nat)}{x:Str}{i:Nat}(R:Ring (bM T) (ag T) sk x i):rv = .lst (((sk.map (·.1)).drop i++ [x]).map .str):=by
 rcases h with ⟨rfl,hd⟩ | ⟨al,wk,j,z,hF,hW,hz,hzm,hj,hjn,rfl⟩
 ·have hm:=dG R x (aR _ (.head _));exact (iu R x (du.mpr (hd x hm)) (sk.map (·.1)).length (by simp)).elim
 ·rw [pM hF hW hz hzm hj hjn R]
theorem iL(T:Told):(ag T).length≤(az T).length:=by
 have:=eA (l:=az T) (ks:= []);simpa [ag] using this
theorem tC{v:PV}(h:(v.map (·.1)).Nodup){p:Str×Int×List Str}(hp:p∈v):aO p.1 v = p.2.2:=by
 unfold aO
 induction v with
 | nil=>cases hp
 | cons a v ih=>
  rw [List.map_cons,List.nodup_cons] at h;rw [List.find?_cons];rcases mC hp with rfl | hp
  ·simp
  ·have hne:a.1≠p.1:=fun e=>h.1 (e▸List.mem_map_of_mem hp);rw [show decide (a.1 = p.1)= false from decide_eq_false hne];exact ih h.2 hp
theorem Bd.told{T:Told}{N:Nat}(h:(az T).length≤N):Bd N N (bM T):=by
 have hnm:=cw T;refine ⟨?_,fun p hp=>?_⟩
 ·have e:(bM T).length =(ag T).length:=by rw [← hnm,lN]
  have:=iL T
  change vW
 ·rw [← tC (by rw [hnm];exact cg T) hp]
  exact lT (ny T _) h
section
variable {w:World}{h₀:Heap}{os:OsState}{mg mb:Str→Option Value}{cx:Cx}{fm:Fm}{X:Value→St→Prop}{st:St}{Q:AV→St→Prop}
theorem pf{T:Told}{n:Nat}(O:(gd w h₀ os mg mb).Ok)(hc:cx.calm = true)(hn:n+1≤cx.n)(hz:(az T).length≤500)(hzT:T.length≤500)(h:∀rv,dV T rv→Q rv st):
  aH (gd w h₀ os mg mb) cx fm X sC [.lst (T.map aD)] st Q:=
 tV O hc hn hz hzT (fun hd=>h _ (.inl ⟨rfl,hd⟩)) fun al wk j x h1 h2 h3 h4 h5 h6=>h _ (.inr ⟨al,wk,j,x,h1,h2,h3,h4,h5,h6,rfl⟩)
theorem gx{T:Told}{g:SG}(S:bX st.hp g)(hnm:g.pv.map (·.1)= ag T)(hsc:∀z,aO z g.pv = aO z (bM T))(hz:(az T).length≤500):
  g.ns.length≤1000∧(∀m∈g.ns,m.sc.length≤1000)∧∀m∈g.ns,∀s∈m.sc,s∈g.pv.map (·.1):=by
 refine ⟨?_,fun m hm=>?_,fun m hm s hs=>?_⟩
 ·have e:g.ns.length =(ag T).length:=by rw [← hnm,pv_names,lN]
  have:=iL T
  change yu
 ·rw [← b9 S hm,hsc];have:=ny T m.x
  change xD
 ·rw [← b9 S hm,hsc] at hs;rw [hnm];exact t5 hs
theorem nA{T:Told}{g:SG}{n:Nat}{rv:AV}(O:(gd w h₀ os mg mb).Ok)(hc:cx.calm = true)(hn:n+1≤cx.n)(S:bX st.hp g)(hnm:g.pv.map (·.1)= ag T)(hsc:∀z,aO z g.pv = aO z (bM T))(hz:(az T).length≤500)(R:dV T rv)
  (h:∀hp',(∀k ao,st.hp k = some ao→hp' k = some ao)→Q rv ⟨st.loc,hp'⟩):aH (gd w h₀ os mg mb) cx fm X iA [.obj am g.i] st Q:=by
 obtain ⟨b1,b2,b3⟩:=gx S hnm hsc hz;refine lU O hc hn S b1 b2 b3 (fun hd hp' k=>?_) fun sk x i hp' r k=>?_
 ·rcases R.alive with ⟨rfl,_⟩ | ⟨l,_,x,hx,hnx⟩
  ·exact h hp' k
  ·exact (hnx (du.mp ((hd x (by rw [hnm];exact hx)).cong hsc))).elim
 ·rw [hnm] at r;have e:=R.same (r.cong hsc);rw [← e];exact h hp' k
noncomputable def fz:AV→Bool
 | .none=>true
 | _=>false
end
end
section
section
variable {G:Gd}{cx:Cx}{fm:Fm}{X:Value→St→Prop}{W₀ W:Wd}{st:St}{s:Shared}{Q:AV→St→Prop}
theorem Bin.modIntE{a b c:Int}(hb:b≠0)(e:a.fmod b = c)(h:Q (.int c) st):ji G cx fm X .Mod (.int a) (.int b) st Q:=Bin.modInt hb (by rw [e];exact h)
theorem Sub.sliceE{value slice:PySem.Expr}{a:AV}{l l':List AV}{lo hi t:Option Int}{ops:Value→Value→List Value}(hl:aM st a = some l)(ht:t≠some 0)(hz:l.length≤sizeLine)(e:pick l lo hi t = l')(h:Q (.lst l') st)
  (hs:∀o i,subscripted slice false o i = PySem.operate (ops o i) (getItem o i)):cZ G cx fm X value slice a (.slc lo hi t) st Q:=Sub.sliceF hl ht hz (by rw [e];exact h) hs
theorem Comp.mapE{scope:Scope}{elt target iter:PySem.Expr}{pos:Pos}{a:AV}{xs ys:List AV}{cond:St→Prop}{f:AV→AV}{Q:List AV→(Nat→Option AO)→Prop}(hit:b5 G a xs cond)(hcond:∀loc,cond ⟨loc,st.hp⟩)(hz:xs.length≤sizeLine)(e:xs.map f = ys)
  (turn:∀(cenv:Env) (k:Nat) x loc,cenv.scope = scope→xs[k]? = some x→cY G cx (aT fm st scope (bt scope fm cenv)) cO target x ⟨loc,st.hp⟩ fun st₂=>Ev G cx (aT fm st scope (bt scope fm cenv)) cO elt st₂ fun v st₃=>v = f x∧st₃.hp = st.hp)
  (h:Q ys st.hp):c6 G cx fm (bx G) (.ListComp elt [⟨target,iter,[],0⟩] scope pos) scope target [] (kt elt target iter [] scope pos) [] a st Q:=Comp.map hit hcond hz turn (by rw [e];exact h)
end
end
section
theorem allOf{α:Type}:∀(l:List α),(List.range l.length).filterMap (l[·]?)= l
 | []=>rfl
 | x::l=>by
  rw [List.length_cons,List.range_succ_eq_map,List.filterMap_cons,List.filterMap_map];show x::_ = _
  congr 1
  exact allOf l
noncomputable def ib{α:Type}(b:Bool)(l:List α):List α:=if b then l.reverse else l
noncomputable def aY(b:Bool):Int:=if b then -1 else 1
theorem qM{α:Type}(b:Bool)(l:List α):pick l Option.none Option.none (some (aY b))= ib b l:=by
 cases b with
 | true=>
  show pick l Option.none Option.none (some (-1))= l.reverse;unfold pick;rw [krv_bounds];show ((sliceRange ((l.length:Int) - 1) (-1) (-1)).filterMap (l[·]?))= _;rw [krv_sliceRange,krv_range,List.filterMap_reverse,allOf]
 | false=>
  show pick l Option.none Option.none (some 1)= l;have:pick l Option.none Option.none (some 1)= pick l Option.none Option.none Option.none:=rfl;rw [this,bD];show (l.drop 0).take (l.length - 0)= l;rw [List.drop_zero,Nat.sub_zero,List.take_length]
theorem iX{α β:Type}(f:α→β)(b:Bool)(l:List α):ib b (l.map f)=(ib b l).map f:=by
 cases b with
 | true=>exact List.map_reverse.symm
 | false=>rfl
section
variable {G:Gd}{cx:Cx}{fm:Fm}{X:Value→St→Prop}{W₀ W:Wd}{st:St}{s:Shared}{A:Around}{E:Value→Shared→Prop}{Q:AV→St→Prop}
theorem qD(b:Bool):(some (aY b):Option Int)≠some 0:=by cases b <;> decide
theorem Sub.sliceDir{value slice:PySem.Expr}{a:AV}{l:List AV}{b:Bool}{ops:Value→Value→List Value}(hl:aM st a = some l)(hz:l.length≤sizeLine)(h:Q (.lst (ib b l)) st)
  (hs:∀o i,subscripted slice false o i = PySem.operate (ops o i) (getItem o i)):cZ G cx fm X value slice a (.slc Option.none Option.none (some (aY b))) st Q:=
 Sub.sliceF hl (qD b) hz (by rw [qM];exact h) hs
set_option tactic.hygienic true in
theorem nP(b:Bool)(n:Nat):Builtin.Slice.slicePlaces (if aY b < 0 then (n:Int) - 1 else 0) (if aY b < 0 then -1 else (n:Int)) (aY b)= n:=by
 unfold Builtin.Slice.slicePlaces;cases b with
 | true=>
  show (if (-1:Int) > 0 then _ else if (n:Int) - 1 > -1 then ((n:Int) - 1 - -1 - 1)/(- -1)+1 else 0).toNat = n;rw [if_neg (by decide)]
  rw [show (- -1:Int)= 1 by decide,Int.ediv_one,Int.sub_add_cancel,Int.sub_neg,Int.sub_add_cancel]
  split
  ·exact Int.toNat_natCast n
  ·rename_i h;exact (Nat.le_zero.mp (Int.ofNat_le.mp (Int.le_of_sub_le_sub_right (c:=1) (Int.not_lt.mp h)))).symm
 | false=>
  show (if (1:Int) > 0 then (if (0:Int) < n then ((n:Int) - 0 - 1)/ 1+1 else 0) else _).toNat = n;rw [if_pos (by decide),Int.ediv_one,Int.sub_add_cancel,Int.sub_zero]
  split
  ·exact Int.toNat_natCast n
  ·rename_i h;exact (Nat.le_zero.mp (Int.ofNat_le.mp (Int.not_lt.mp h))).symm
theorem kX{sl:Addr}{b:Bool}{n:Nat}{vc:Value}{Q:Int×Int×Nat→Shared→Prop}(hs:s.heap.IsSliceOf sl .none .none vc)(pc:IsPart vc (some (aY b)))(h:Q ((if aY b < 0 then (n:Int) - 1 else 0),aY b,n) s):wpAny G.M A (Builtin.Slice.sliceApplied (.ref sl) (Pure.pure (n:Int))) Q E s:=by
 obtain ⟨os,hos,hcs,hds⟩:=id hs;obtain ⟨u,rfl⟩:∃u,vc = .int (aY b) u:=by cases pc;exact ⟨_,rfl⟩
 unfold Builtin.Slice.sliceApplied Builtin.Slice.sliceFields;refine wpAny_bind (wpAny_bind (wpAny_field hos hds (x:= .none) rfl (wpAny_bind (wpAny_field hos hds (x:= .none) rfl (wpAny_bind (wpAny_field hos hds (x:= .int (aY b) u) rfl (wpAny_pure ?_)))))));refine wpAny_bind (slicePart_int ?_);show wpAny _ _ (if (aY b == 0)= true then _ else _) _ _ s;refine wE (by cases b <;> decide) ?_
 refine wpAny_bind (slicePart_none (wpAny_bind (slicePart_none (wpAny_bind (wpAny_pure ?_)))));have hp:=nP b n;cases b with
 | true=>
  show wpAny _ _ (Pure.pure ((n:Int) - 1,(-1:Int),Builtin.Slice.slicePlaces ((n:Int) - 1) (-1) (-1))) _ _ s;rw [show Builtin.Slice.slicePlaces ((n:Int) - 1) (-1) (-1)= n from hp];exact wpAny_pure h
 | false=>
  show wpAny _ _ (Pure.pure ((0:Int),(1:Int),Builtin.Slice.slicePlaces 0 (n:Int) 1)) _ _ s;rw [show Builtin.Slice.slicePlaces 0 (n:Int) 1 = n from hp];exact wpAny_pure h
theorem Rep.slcN(R:Rep G W fm st s){b:Bool}{v:Value}(h:RV G W (.slc Option.none Option.none (some (aY b))) v):∃a vc,v = .ref a∧s.heap.IsSliceOf a .none .none vc∧IsPart vc (some (aY b)):=by
 obtain ⟨a,vl,vu,vt,e,hs,p1,p2,p3⟩:=R.slc h;cases p1;cases p2;exact ⟨a,vt,e,hs,p3⟩
theorem mi(xs:List Value):((List.range xs.length).filterMap fun (k:Nat)=>xs.toArray[((xs.length:Int) - 1+(k:Int)* -1).toNat]?)= xs.reverse:=by
 have e:(List.range xs.length).filterMap (fun (k:Nat)=>xs.toArray[((xs.length:Int) - 1+(k:Int)* -1).toNat]?)=((List.range xs.length).map fun k=>xs.length - 1 - k).filterMap (xs[·]?):=by
  rw [List.filterMap_map]
  congr 1
  funext k
  show xs.toArray[((xs.length:Int) - 1+(k:Int)* -1).toNat]? = xs[xs.length - 1 - k]?;rw [List.getElem?_toArray]
  congr 1;change BH
 rw [e,krv_range,List.filterMap_reverse,allOf]
theorem iB{t sl:Addr}{xs:List Value}{b:Bool}{vc:Value}{n:Nat}{Q:Value→Shared→Prop}(ht:s.heap.get? t = some {cls:= .type "tuple",dict:=Option.none,data:= .seq xs.toArray n,slots:=#[]})(hs:s.heap.IsSliceOf sl .none .none vc)(pc:IsPart vc (some (aY b)))(hz:xs.length≤sizeLine)
  (h0:b = false→Q (.ref t) s) (h1:b = true→Q (.ref s.heap.objs.size) {s with heap:=s.heap.push {cls:= .type "tuple",data:= .seq xs.reverse.toArray}}):wpAny G.M A (getItem (.ref t) (.ref sl)) Q E s:=by
 have hT:IsTup s.heap t xs.toArray:=⟨_,ht,rfl,n,rfl⟩;obtain ⟨os,hos,hcs,hds⟩:=id hs;have hTs:s.TypeIs (.ref sl) "slice" :=⟨os,hos,hcs⟩;unfold getItem
 try with_reducible refine wpAny_holding ?_
 first | refine wpAny_bind (wpAny_pure ?_) | skip
 refine wpAny_bind (wpAny_sequenceKey hT.typeIs (by decide) ?_)
 refine wpAny_bind (wpAny_callSpecial?_slot (name:=Str.ofString "__getitem__") hT.typeIs slot_tuple_getitem
  (wpAny_call_entry slot_tuple_getitem hT.typeIs entry_tuple_getitem ?_ (args_tuple_getitem _ _)))
 refine (wpAny_bind (tupleItemsOf_ hT ?_):wpAny _ _ (Builtin.Tuple.tupleItemsOf (.ref t) >>= _) _ _ s);refine wpAny_bind (wpAny_typeOf hTs ?_);rw [if_pos (by decide),List.size_toArray]
 refine wpAny_bind (kX hs pc ?_);dsimp only;cases b with
 | false=>
  refine wT (by show ((0:Int)== 0 &&(1:Int)== 1 && xs.length == xs.length)= true;simp) ?_
  unfold Builtin.Tuple.tupleIsExact;refine wpAny_bind (wpAny_bind (wpAny_typeOf hT.typeIs (wpAny_pure ?_)));refine wT (by decide) ?_
  exact wpAny_bind (wpAny_rule (wpAny_pure ⟨_,rfl,wpAny_pure (h0 rfl)⟩))
 | true=>
  refine wE (by show ¬(((xs.length:Int) - 1 == 0 &&(-1:Int)== 1 && xs.length == xs.length)= true);simp) ?_
  show wpAny _ _ (Builtin.Tuple.tupleExact ((List.range xs.length).filterMap fun (k:Nat)=>xs.toArray[((xs.length:Int) - 1+(k:Int)* -1).toNat]?).toArray >>= _) _ _ s;rw [mi];have hsz:sizeOk (.seq xs.reverse.toArray):=by
   show xs.reverse.toArray.size≤sizeLine;rw [List.size_toArray,List.length_reverse];exact hz
  exact wpAny_bind (m:=Builtin.Tuple.tupleExact _) (wpAny_newObj_type (wpAny_pure ⟨_,rfl,wpAny_pure (h1 rfl)⟩) hsz)
theorem au.reverse:∀{l:List AV} {vs:List Value},au G W l vs→au G W l.reverse vs.reverse:=by
 intro zl
 induction zl with
 | nil=>
  intro _ e;obtain rfl:=e;exact au.nil
 | cons a l ih=>
  intro _ e;obtain ⟨v,r,rfl,rv,e⟩:=e;rw [List.reverse_cons,List.reverse_cons];exact (ih e).append (au.cons rv au.nil)
theorem Sub.tupDir{value slice:PySem.Expr}{l:List AV}{b:Bool}{ops:Value→Value→List Value}(hz:l.length≤sizeLine)(h:Q (.tup (ib b l)) st)
  (hs:∀o i,subscripted slice false o i = PySem.operate (ops o i) (getItem o i)):cZ G cx fm X value slice (.tup l) (.slc Option.none Option.none (some (aY b))) st Q:=by
 intro W₀ v u hv hu W s A hA hW hR hT;obtain ⟨p,vs,n,rfl,hp,rs⟩:=hR.tup (hv.mono hW);obtain ⟨c,vc,rfl,hsl,pc⟩:=hR.slcN (hu.mono hW);refine tail_any ⟨_,hp,rfl⟩ slot_tuple_getitem.lookup (iB hp hsl pc (by rw [← rs.length];exact hz) (fun e=>?_) (fun e=>?_)) (hs _ _)
 ·subst e;exact ⟨W,st,.tup l,.refl _,hR,hv.mono hW,h⟩
 ·subst e;obtain ⟨le,hR'⟩:=hR.pushF {cls:= .type "tuple",data:= .seq vs.reverse.toArray} s.toks;exact ⟨_,st,.tup l.reverse,le,hR',dh.mk _ _ vs.reverse rfl (if_pos rfl) ⟨rfl,rfl,rfl,0,rfl⟩ ((rs.mono le).reverse),h⟩
theorem Cal.max{a:AV}{ns:List Nat}(hc:cx.calm = true)(ha:aM st a = some (ns.map fun n=> .int (n:Int)))(hne:ns≠ [])(h:∀m,m∈ns→(∀x∈ns,x≤m)→Q (.int (m:Int)) st):bB G cx fm X (.builtin "max") [a] st Q:=by
 intro W₀ vs rs W s A hA hW hR hT;obtain ⟨v,_,rfl,rv,rfl⟩:=rs;obtain ⟨p,vs,n,rfl,hL,rs⟩:=hR.lst (rv.mono hW) ha;have e:ns.map (fun n:Nat=>AV.int (n:Int))=(ns.map fun n:Nat=>(n:Int)).map AV.int:=by rw [List.map_map];rfl
 rw [e] at rs;have hi:=rs.ints;obtain ⟨xs,hx⟩:=hi.allInts.items;have hns:ns.map (fun n:Nat=>(n:Int))= xs.toList.map (·.1):=by rw [← hi.numsOf,← nums_intItems,← hx]
 have hl':s.heap.IsList p (intItems xs):=hx▸hL.isList;have hlen:xs.size = ns.length:=by have:=congrArg List.length hns;rw [lN,lN,Array.length_toList] at this;exact this.symm
 have hsz:0 < xs.size:=by rw [hlen];exact List.length_pos_iff.mpr hne
 refine max_intList (hA.calm hc) hl' hsz fun v h' tk hv hk=>?_;obtain ⟨t,rfl⟩:=intItems_at hv;obtain ⟨h1,h2⟩:=argBest_gt (numAt xs) (xs.size - 1);have hm:numAt xs (argBest (fun i j=>decide (numAt xs i > numAt xs j)) (xs.size - 1))∈ns.map (fun n:Nat=>(n:Int)):=by
  rw [hns,numAt_eq];exact getD_mem (by rw [lN,Array.length_toList];change BU)
 obtain ⟨m,hmn,hme⟩:=mM hm;rw [← hme];refine ⟨W,st,.int m,.refl _,hR.keeps hk,⟨t,rfl⟩,h m hmn fun x hx'=>?_⟩;have hx2:(x:Int)∈xs.toList.map (·.1):=by rw [← hns];exact List.mem_map_of_mem hx'
 obtain ⟨j,hj,e⟩:=mem_getD hx2;rw [lN,Array.length_toList] at hj;have:=h2 j (by change Bo)
 rw [← hme,numAt_eq,e] at this;exact Int.ofNat_le.mp this
end
end
section
noncomputable def gj(b:Bool)(u:List Str):List Str:=if b then u.reverse else u
theorem dk(b:Bool)(u:List Str):(gj b u).Perm u:=by
 cases b with
 | true=>exact List.reverse_perm u
 | false=>exact .refl u
noncomputable def fw(T:Told)(o:List Str):List Str→List Str
 | []=> []
 | x::r=>kH T (o++ [x]) x++fw T (o++ [x]) r
noncomputable def bO(b:Bool)(T:Told):Nat→List Str→List Str→List (List Str)
 | 0,_,_=> []
 | n+1,o,u=>match u with
  | []=> []
  | y::w=>(y::w)::bO b T n (o++gj b (y::w)) (fw T o (gj b (y::w)))
theorem OI.perm{T:Told}{o w w':List Str}(h:OI T o w)(p:w'.Perm w):OI T o w':=by
 have q:(o++w').Perm (o++w):=p.append_left o;exact ⟨q.nodup_iff.mpr h.nd,fun x hx=>h.mem x (q.mem_iff.mp hx),fun x hx=>h.done x (q.mem_iff.mp hx),h.ord⟩
theorem OI.sub{T:Told}{o w v:List Str}(h:OI T o (w++v)):OI T o w:=by
 have e:o++(w++v)=(o++w)++v:=(List.append_assoc _ _ _).symm;exact ⟨by have:=h.nd;rw [e] at this;exact (List.nodup_append.mp this).1,fun x hx=>h.mem x (by rw [e];exact aL _ hx),fun x hx=>h.done x (by rw [e];exact aL _ hx),h.ord⟩
theorem OI.doneL{T:Told}(ok:mW T):∀(l:List Str) {o v:List Str},OI T o (l++v)→OI T (o++l) (v++fw T o l):=by
 intro zl
 induction zl with
 | nil=>
  intro o v h;rw [List.append_nil];show OI T o (v++ []);rw [List.append_nil];exact h
 | cons x r ih=>
  intro o v h;have h1:=h.step ok (b:=false) (x:=x) (r:=r++v) rfl;rw [List.append_assoc] at h1;have h2:=ih h1;rw [List.append_assoc,List.append_assoc] at h2;exact h2
theorem rh(s:Str)(v:PV)(l:List Str):a9 (v,l) s =((a9 (v,[]) s).1,l++(a9 (v,[]) s).2):=by
 show (aP s (-1) v,if aQ s (aP s (-1) v)= 0 then l++ [s] else l)=(aP s (-1) v,l++if aQ s (aP s (-1) v)= 0 then []++ [s] else [])
 congr 1
 split <;> simp
theorem pD:∀(ss:List Str) (v:PV) (l:List Str),ss.foldl a9 (v,l)=((ss.foldl a9 (v,[])).1,l++(ss.foldl a9 (v,[])).2):=by
 intro zl
 induction zl with
 | nil=>
  intro v l;show (v,l)=(v,l++ []);rw [List.append_nil]
 | cons s ss ih=>
  intro v l;rw [List.foldl_cons,List.foldl_cons,rh,ih _ (l++_),ih (a9 (v,[]) s).1 (a9 (v,[]) s).2,List.append_assoc]
theorem qR(x:Str)(v:PV)(l:List Str):aI (v,l) x =((aI (v,[]) x).1,l++(aI (v,[]) x).2):=pD _ _ _
inductive Bv(T:Told)(o l:List Str)(v:PV)(p:List Str):Prop
 | mk (h1:SI T (o++l) [] (l.foldl aI (v,p)).1) (h2:(l.foldl aI (v,p)).2 = p++fw T o l) (h3:∀(k:Nat) x,l[k]? = some x→x∈v.map (·.1)∧aQ x ((l.take k).foldl aI (v,p)).1 = -1)
theorem SI.doneL{T:Told}(ok:mW T):∀(l:List Str) {o c p:List Str} {v:PV},SI T o l v→OI T o (l++c)→Bv T o l v p:=by
 intro zl
 induction zl with
 | nil=>
  intro o c p v S h;exact ⟨by rw [List.append_nil];exact S,(List.append_nil p).symm,fun k x e=>by cases e⟩
 | cons x r ih=>
  intro o c p v S h;have hs:=h.sub;obtain ⟨S1,e1⟩:=S.done ok (b:=false) hs rfl;have h1:=h.step ok (b:=false) (x:=x) (r:=r++c) rfl;rw [List.append_assoc] at h1;obtain ⟨k1,k2,k3⟩:=ih (p:=p++kH T (o++ [x]) x) S1 h1;have ea:aI (v,p) x =((aI (v,[]) x).1,p++kH T (o++ [x]) x):=by rw [qR,e1]
  have em:x∈v.map (·.1):=by rw [S.nm];exact hs.mem x (aR _ (.head _))
  refine ⟨?_,?_,fun k y e=>?_⟩
  ·rw [List.foldl_cons,ea];rw [List.append_assoc] at k1;exact k1
  ·rw [List.foldl_cons,ea,k2,List.append_assoc];rfl
  ·cases k with
   | zero=>cases e;exact ⟨em,S.ud _ (.head _)⟩
   | succ k=>
    have:=k3 k y e;rw [List.take_succ_cons,List.foldl_cons,ea];rw [S1.nm] at this;rw [S.nm];exact this
noncomputable def OC(T:Told)(o u:List Str):Prop:=∀p∈T,(∀q∈p.2,q∈o)→p.1∈o++u
theorem OC.start{T:Told}(ok:mW T):OC T [] (startT T):=fun p hp h=>by
 rw [d7];refine List.mem_filter.mpr ⟨bq.mpr ⟨p,hp,.inl rfl⟩,?_⟩;rw [bG ok.nd hp];cases e:p.2 with
 | nil=>rfl
 | cons a r=>exact absurd (h a (by rw [e];exact .head _)) List.not_mem_nil
theorem OC.perm{T:Told}{o w w':List Str}(h:OC T o w)(p:w'.Perm w):OC T o w':=fun q hq hh=>(p.append_left o).mem_iff.mpr (h q hq hh)
theorem OC.doneL{T:Told}:∀(l:List Str) {o v:List Str},OC T o (l++v)→OC T (o++l) (v++fw T o l):=by
 intro zl
 induction zl with
 | nil=>
  intro o v h;rw [List.append_nil];show OC T o (v++ []);rw [List.append_nil];exact h
 | cons x r ih=>
  intro o v h;have h1:OC T (o++ [x]) (r++(v++kH T (o++ [x]) x)):=fun p hp hh=>by
   by_cases hx:x∈p.2
   ·have:p.1∈kH T (o++ [x]) x:=gV.mpr ⟨p,hp,rfl,hx,hh⟩;simp [this]
   ·have:=h p hp fun q hq=>by
     rcases mA (hh q hq) with e | e
     ·exact e
     ·rw [List.mem_singleton] at e;exact absurd (e▸hq) hx
    simp at this ⊢;rcases this with e | e | e | e
    ·exact .inl e
    ·exact .inr (.inl e)
    ·exact .inr (.inr (.inl e))
    ·exact .inr (.inr (.inr (.inl e)))
  have h2:=ih h1;rw [List.append_assoc,List.append_assoc] at h2;exact h2
end
section
noncomputable def idxs(last ps:List Str):List Nat:=(ps.filter fun q=>decide (q∈last)).map fun q=>last.idxOf q
noncomputable def rz(l:List Nat):Nat:=l.max?.getD 0
noncomputable def jl(v:List Str)(p:Str×List Str):Bool:=! decide (p.1∈v)&& p.2.all fun q=>decide (q∈v)
noncomputable def dW(T:Told)(v last:List Str):List (Nat×Nat):=(T.zipIdx.filter fun a=>jl v a.1).map fun a=>(rz (idxs last a.1.2),a.2)
noncomputable def dB(T:Told)(a:Nat×Nat):Str:=((T[a.2]?).map (·.1)).getD ⟨#[]⟩
noncomputable def sT(T:Told)(o:List Str)(x:Str)(i:Nat):List (Nat×Nat):=(T.zipIdx.filter fun a=>decide (x∈a.1.2)&& a.1.2.all fun q=>decide (q∈o)).map fun a=>(i,a.2)
noncomputable def eK(T:Told)(o:List Str)(i:Nat):List Str→List (Nat×Nat)
 | []=> []
 | x::r=>sT T (o++ [x]) x i++eK T (o++ [x]) (i+1) r
noncomputable def il(a b:Nat×Nat):Prop:=a.1 < b.1∨(a.1 = b.1∧a.2 < b.2)
theorem pr(T:Told)(P:Str×List Str→Bool)(i:Nat):((T.zipIdx.filter fun a=>P a.1).map fun a=>(i,a.2)).map (dB T)=(T.filter P).map (·.1):=by
 rw [List.map_map];have h:∀(L M:Told),T = M++L→((L.zipIdx M.length).filter fun a=>P a.1).map (dB T ∘ fun a=>(i,a.2))=(L.filter P).map (·.1):=by
  intro L
  induction L with
  | nil=>intro M _;rfl
  | cons p L ih=>
   intro M e;have ih:=ih (M++ [p]) (by rw [e];simp)
   rw [List.length_append,List.length_singleton] at ih;rw [List.zipIdx_cons,List.filter_cons,List.filter_cons]
   split
   ·rw [List.map_cons,List.map_cons,ih]
    congr 1
    show ((T[M.length]?).map (·.1)).getD _ = _;rw [e,List.getElem?_append_right (Nat.le_refl _),Nat.sub_self];rfl
   ·exact ih
 exact h T [] rfl
theorem lg(T:Told):∀(l o:List Str) (i:Nat),(eK T o i l).map (dB T)= fw T o l:=by
 intro zl
 induction zl with
 | nil=>
  intro _ _;exact rfl
 | cons x r ih=>
  intro o i;show (sT T (o++ [x]) x i++eK T (o++ [x]) (i+1) r).map (dB T)= kH T (o++ [x]) x++fw T (o++ [x]) r;rw [List.map_append,ih]
  congr 1
  exact pr T (fun p=>decide (x∈p.2)&& p.2.all fun q=>decide (q∈o++ [x])) i
theorem lJ{T:Told}{o:List Str}{x:Str}{i:Nat}{a:Nat×Nat}:a∈sT T o x i ↔a.1 = i∧∃p,T[a.2]? = some p∧x∈p.2∧∀q∈p.2,q∈o:=by
 unfold sT;rw [List.mem_map];constructor
 ·rintro ⟨⟨p,k⟩,h,rfl⟩;obtain ⟨h1,h2⟩:=List.mem_filter.mp h;simp only [Bool.and_eq_true,decide_eq_true_eq,List.all_eq_true] at h2;exact ⟨rfl,p,List.mem_zipIdx_iff_getElem?.mp h1,h2⟩
 ·rintro ⟨rfl,p,h1,h2⟩;refine ⟨(p,a.2),List.mem_filter.mpr ⟨List.mem_zipIdx_iff_getElem?.mpr h1,?_⟩,rfl⟩;simp only [Bool.and_eq_true,decide_eq_true_eq,List.all_eq_true];exact h2
theorem rI{T:Told}{a:Nat×Nat}:∀(l o:List Str) (i:Nat),a∈eK T o i l ↔∃j x p,a.1 = i+j∧l[j]? = some x∧T[a.2]? = some p∧x∈p.2∧∀q∈p.2,q∈o++l.take (j+1):=by
 intro zl
 induction zl with
 | nil=>
  intro o i;exact ⟨fun h=>(List.not_mem_nil h).elim,by rintro ⟨j,x,p,h1,h2,h3⟩;cases h2⟩
 | cons x r ih=>
  intro o i;show a∈sT T (o++ [x]) x i++eK T (o++ [x]) (i+1) r ↔_;rw [List.mem_append,lJ,ih];constructor
  ·rintro (⟨h1,p,h2,h3,h4⟩ | ⟨j,y,p,h1,h2,h3,h4,h5⟩)
   ·exact ⟨0,x,p,h1,rfl,h2,h3,by simpa using h4⟩
   ·refine ⟨j+1,y,p,by rw [h1];change yV,h2,h3,h4,fun q hq=>?_⟩
    have:=h5 q hq;rw [List.append_assoc] at this;exact this
  ·rintro ⟨j,y,p,h1,h2,h3,h4,h5⟩;cases j with
   | zero=>cases h2;exact .inl ⟨h1,p,h3,h4,by simpa using h5⟩
   | succ j=>
    refine .inr ⟨j,y,p,by rw [h1];change Ap,h2,h3,h4,fun q hq=>?_⟩
    have:=h5 q hq;rw [List.append_assoc];exact this
theorem tA(T:Told)(P:(Str×List Str)×Nat→Bool)(i:Nat):((T.zipIdx.filter P).map fun a=>(i,a.2)).Pairwise il:=by
 rw [List.pairwise_map];have h:T.zipIdx.Pairwise fun a b=>a.2 < b.2:=by
  have:=List.pairwise_lt_range' (s:=0) (n:=T.length) (step:=1);rw [← List.zipIdx_map_snd 0 T,List.pairwise_map] at this;exact this
 exact (h.sublist List.filter_sublist).imp fun q=> .inr ⟨rfl,q⟩
theorem gp(T:Told):∀(l o:List Str) (i:Nat),(eK T o i l).Pairwise il:=by
 intro zl
 induction zl with
 | nil=>
  intro _ _;exact .nil
 | cons x r ih=>
  intro o i;refine List.pairwise_append.mpr ⟨tA T _ i,ih _ _,fun a ha b hb=> .inl ?_⟩;obtain ⟨j,_,_,h,_⟩:=(rI r _ _).mp hb;rw [(lJ.mp ha).1,h];change t3
theorem jt{l:List (Nat×Nat)}(h:l.Pairwise il):l.Nodup:=h.imp fun {a b} q e=>by
 subst e;rcases q with q | q
 ·exact Nat.lt_irrefl _ q
 ·exact Nat.lt_irrefl _ q.2
theorem eY(T:Told)(v last:List Str):(dW T v last).Nodup:=by
 unfold dW;have h:T.zipIdx.Pairwise fun a b=>a.2≠b.2:=by
  have:=List.pairwise_lt_range' (s:=0) (n:=T.length) (step:=1);rw [← List.zipIdx_map_snd 0 T,List.pairwise_map] at this;exact this.imp fun q=>Nat.ne_of_lt q
 show List.Pairwise _ _;rw [List.pairwise_map];exact (h.sublist List.filter_sublist).imp fun {a b} q e=>q (Prod.mk.inj (e:((rz (idxs last a.1.2),a.2):Nat×Nat)=(rz (idxs last b.1.2),b.2))).2
theorem ig{T:Told}{v last:List Str}{a:Nat×Nat}:a∈dW T v last ↔∃p,T[a.2]? = some p∧p.1∉v∧(∀q∈p.2,q∈v)∧a.1 = rz (idxs last p.2):=by
 unfold dW jl;rw [List.mem_map];constructor
 ·rintro ⟨⟨p,k⟩,h,rfl⟩;obtain ⟨h1,h2⟩:=List.mem_filter.mp h;simp only [Bool.and_eq_true,Bool.not_eq_true',decide_eq_false_iff_not,decide_eq_true_eq,List.all_eq_true] at h2;exact ⟨p,List.mem_zipIdx_iff_getElem?.mp h1,h2.1,h2.2,rfl⟩
 ·rintro ⟨p,h1,h2,h3,h4⟩;refine ⟨(p,a.2),List.mem_filter.mpr ⟨List.mem_zipIdx_iff_getElem?.mpr h1,?_⟩,by rw [← h4]⟩
  simp only [Bool.and_eq_true,Bool.not_eq_true',decide_eq_false_iff_not,decide_eq_true_eq,List.all_eq_true];exact ⟨h2,h3⟩
theorem qW{l:List Nat}{m:Nat}(h:m∈l)(hb:∀x∈l,x≤m):rz l = m:=by
 unfold rz;rw [List.max?_eq_some_iff.mpr ⟨h,hb⟩];rfl
theorem tR{l:List Nat}(h:l≠ []):rz l∈l∧∀x∈l,x≤rz l:=by
 cases e:l.max? with
 | none=>rw [List.max?_eq_none_iff] at e;exact absurd e h
 | some m=>have:=List.max?_eq_some_iff.mp e;unfold rz;rw [e];exact this
theorem ds{last ps:List Str}{i:Nat}:i∈idxs last ps ↔∃q∈ps,q∈last∧last.idxOf q = i:=by
 unfold idxs;simp only [List.mem_map,List.mem_filter,decide_eq_true_eq,and_assoc]
theorem qT{last:List Str}{q:Str}{n:Nat}(h:q∈last.take n):last.idxOf q < n:=by
 rw [← List.take_append_drop n last,List.idxOf_append,if_pos h];have:=List.idxOf_lt_length_iff.mpr h;rw [List.length_take] at this;change xy
theorem sj{last:List Str}{q:Str}{n:Nat}(h:q∈last)(hn:last.idxOf q < n):q∈last.take n:=by
 have hl:=List.idxOf_lt_length_iff.mpr h;rw [List.mem_take_iff_getElem];exact ⟨last.idxOf q,by change Bp,List.getElem_idxOf hl⟩
theorem kZ{T:Told}(ok:mW T){o last:List Str}(h:OI T o last)(c:OC T o last){p:Str×List Str}(hp:p∈T)(h1:p.1∉o++last)(h2:∀q∈p.2,q∈o++last):∃q∈p.2,q∈last:=by
 by_cases he:∃q∈p.2,q∈last
 ·exact he
 ·exact absurd (c p hp fun q hq=>by
   rcases mA (h2 q hq) with e | e
   ·exact e
   ·exact absurd ⟨q,hq,e⟩ he) h1
theorem ou{T:Told}(ok:mW T){o last:List Str}(h:OI T o last)(c:OC T o last)(a:Nat×Nat):a∈dW T (o++last) last ↔a∈eK T o 0 last:=by
 have hnd:=List.nodup_append.mp h.nd;rw [ig,rI];constructor
 ·rintro ⟨p,h1,h2,h3,h4⟩;obtain ⟨q,hq,hql⟩:=kZ ok h c (mG h1) h2 h3;obtain ⟨m1,m2⟩:=tR (l:=idxs last p.2) (List.ne_nil_of_mem (ds.mpr ⟨q,hq,hql,rfl⟩));rw [← h4] at m1 m2;obtain ⟨x,hx,hxl,hxi⟩:=ds.mp m1;have hl:=List.idxOf_lt_length_iff.mpr hxl;refine ⟨a.1,x,p,by change yN,?_,h1,hx,fun z hz=>?_⟩
  ·rw [← hxi,gE hl,List.getElem_idxOf hl]
  ·rcases mA (h3 z hz) with e | e
   ·exact aL _ e
   ·have:=m2 _ (ds.mpr ⟨z,hz,e,rfl⟩);exact aR _ (sj e (by change yT))
 ·rintro ⟨j,x,p,h1,h2,h3,h4,h5⟩;rw [Nat.zero_add] at h1;have hpT:=mG h3;have hx:x∈last:=mG h2;have hin:∀q∈p.2,q∈o++last:=fun q hq=>by
   rcases mA (h5 q hq) with e | e
   ·exact aL _ e
   ·exact aR _ (List.mem_of_mem_take e)
  refine ⟨p,h3,fun hm=>?_,hin,?_⟩
  ·have:=h.done _ hm x (by rw [bG ok.nd hpT];exact h4)
   exact hnd.2.2 x this x hx rfl
  ·obtain ⟨hj,e⟩:=gS h2;have hi:last.idxOf x = j:=by rw [← e];exact hnd.2.1.idxOf_getElem j hj
   refine h1.trans (qW (ds.mpr ⟨x,h4,hx,hi⟩) fun i hi'=>?_).symm;obtain ⟨q,hq,hql,rfl⟩:=ds.mp hi';rcases mA (h5 q hq) with e | e
   ·exact absurd rfl (hnd.2.2 q e q hql)
   ·have:=qT e;change AS
theorem qa{T:Told}(ok:mW T){o last:List Str}(h:OI T o last)(c:OC T o last){S:List (Nat×Nat)}(p:S.Perm (dW T (o++last) last))(s:S.Pairwise il):S.map (dB T)= fw T o last:=by
 have q:S.Perm (eK T o 0 last):=p.trans ((List.perm_ext_iff_of_nodup (eY _ _ _) (jt (gp T last o 0))).mpr (ou ok h c));rw [q.eq_of_pairwise (le:=il) (fun a b Z Y h1 h2=>by unfold il at h1 h2;with_reducible exact (zh ‹_› ‹_›).elim) s (gp T last o 0)]
 exact lg T last o 0
end
section
noncomputable def dL(n:Nat)(c:Nat→Nat→Bool):KasT (Array Nat)→Option (Array Nat)
 | .ret a=>some a
 | .ask i j k=>if Nat.blt i n && Nat.blt j n then dL n c (k (c i j)) else none
theorem js{n:Nat}{c:Nat→Nat→Bool}{cmp:Nat→Nat→(Bool→Shared→Prop)→Shared→Prop}{s:Shared}(hc:∀i j,i < n→j < n→∀C:Bool→Shared→Prop,C (c i j) s→cmp i j C s):∀(t:KasT (Array Nat)) {p:Array Nat} {Q:Array Nat→Shared→Prop},dL n c t = some p→Q p s→t.kasWp cmp Q s
 | .ret a,p,Q,h,q=>by cases h;exact q
 | .ask i j k,p,Q,h,q=>by
  have e:dL n c (.ask i j k)= if Nat.blt i n && Nat.blt j n then dL n c (k (c i j)) else none:=rfl;rw [e] at h
  by_cases hb:(Nat.blt i n && Nat.blt j n)= true
  ·rw [if_pos hb] at h;obtain ⟨h1,h2⟩:=Bool.and_eq_true_iff.mp hb;exact hc i j (Nat.le_of_ble_eq_true h1) (Nat.le_of_ble_eq_true h2) _ (js hc _ h q)
  ·rw [if_neg hb] at h;cases h
noncomputable def uH(n:Nat):Nat→List (List Nat)
 | 0=> [[]]
 | k+1=>(uH n k).flatMap fun l=>(List.range n).map fun x=>x::l
theorem lO{n:Nat}:∀(k:Nat) (l:List Nat),l.length = k→(∀x∈l,x < n)→l∈uH n k
 | 0,[],_,_=> .head _
 | k+1,x::l,h,hb=>List.mem_flatMap.mpr ⟨l,lO k l (Nat.succ.inj h) (fun y hy=>hb y (.tail _ hy)),List.mem_map.mpr ⟨x,List.mem_range.mpr (hb x (.head _)),rfl⟩⟩
noncomputable def o8:List Nat→Bool
 | []=>true
 | x::l=>!(l.any fun y=>Nat.beq x y)&& o8 l
theorem sH:∀{l:List Nat},l.Nodup→o8 l = true:=by
 intro zl
 induction zl with
 | nil=>
  intro _;exact rfl
 | cons x l ih=>
  intro h;have h:=List.nodup_cons.mp h;show (!(l.any fun y=>Nat.beq x y)&& o8 l)= true;rw [ih h.2,Bool.and_true,Bool.not_eq_true',List.any_eq_false];exact fun y hy e=>h.1 (Nat.eq_of_beq_eq_true e▸hy)
noncomputable def kS(n:Nat)(r:List Nat):Bool:=match dL n (fun i j=>Nat.blt (r.getD i 0) (r.getD j 0)) (kas_sort n) with
 | some p=>Nat.beq p.size n && p.toList.isPerm (List.range n)&&(p.toList.map fun i=>r.getD i 0)== List.range n
 | none=>false
noncomputable def fN(n:Nat):Bool:=(uH n n).all fun r=>! o8 r || kS n r
theorem yp:fN 2 = true:=by decide+kernel
theorem vZ:fN 3 = true:=by decide+kernel
theorem vT:fN 4 = true:=by decide+kernel
theorem xi:fN 5 = true:=by decide+kernel
theorem rX:∀n,2≤n→n≤5→fN n = true
 | 0,h,_=>absurd h (by decide)
 | 1,h,_=>absurd h (by decide)
 | 2,_,_=>yp
 | 3,_,_=>vZ
 | 4,_,_=>vT
 | 5,_,_=>xi
 | _+6,_,h=>absurd h (by with_reducible exact (zW ‹_›).elim)
noncomputable def ltB(a b:Nat×Nat):Bool:=if a.1 = b.1 then decide (a.2 < b.2) else decide (a.1 < b.1)
set_option tactic.hygienic true in
theorem ltB_iff{a b:Nat×Nat}:ltB a b = true ↔il a b:=by
 unfold ltB il
 split
 ·rename_i h;simp [h]
 ·rename_i h;simp [h]
noncomputable def fk(K:List (Nat×Nat))(a:Nat×Nat):Nat:=K.countP fun b=>ltB b a
theorem jG{a b c:Nat×Nat}(h:il a b)(g:il b c):il a c:=by unfold il at *;change Au
theorem iy(a:Nat×Nat):¬il a a:=by unfold il;with_reducible exact fun Z=>AU ‹_›
theorem jS{a b:Nat×Nat}(h:a≠b):il a b∨il b a:=by
 by_cases h1:a.1 = b.1
 ·have:a.2≠b.2:=fun q=>h (Prod.ext h1 q);unfold il;change Aa
 ·unfold il;change zU
theorem gY{K:List (Nat×Nat)}{a b:Nat×Nat}(ha:a∈K):il a b→fk K a < fk K b:=fun h=>by
 unfold fk
 induction K with
 | nil=>cases ha
 | cons k K ih=>
  rw [List.countP_cons,List.countP_cons];have mono:∀L:List (Nat×Nat),L.countP (fun x=>ltB x a)≤L.countP (fun x=>ltB x b):=fun L=>List.countP_mono_left fun x Z e=>ltB_iff.mpr (jG (ltB_iff.mp e) h);rcases mC ha with rfl | ha
  ·rw [if_neg (fun e=>iy _ (ltB_iff.mp e)),if_pos (ltB_iff.mpr h)];exact Nat.lt_succ_of_le (mono K)
  ·have:=ih ha
   by_cases e:ltB k a = true
   ·rw [if_pos e,if_pos (ltB_iff.mpr (jG (ltB_iff.mp e) h))];exact Nat.succ_lt_succ this
   ·rw [if_neg e];exact Nat.lt_of_lt_of_le this (Nat.le_add_right _ _)
theorem mw{K:List (Nat×Nat)}{a:Nat×Nat}(ha:a∈K):fk K a < K.length:=by
 unfold fk;refine Nat.lt_of_le_of_ne List.countP_le_length fun e=>?_;exact iy a (ltB_iff.mp (List.countP_eq_length.mp e a ha))
theorem getD_in{α:Type}{l:List α}{i:Nat}(d:α)(h:i < l.length):l.getD i d = l[i]:=by rw [List.getD_eq_getElem?_getD,gE h];rfl
noncomputable def ef(K:List (Nat×Nat)):List Nat:=K.map (fk K)
inductive u2(n:Nat)(K:List (Nat×Nat))(p:Array Nat):Prop
 | mk (h1:p.toList.Perm (List.range n)) (h2:(p.toList.map fun i=>K.getD i (0,0)).Pairwise il)
theorem rP{K:List (Nat×Nat)}(nd:K.Nodup)(h2:2≤K.length)(h5:K.length≤5):∃p,dL K.length (fun i j=>ltB (K.getD i (0,0)) (K.getD j (0,0))) (kas_sort K.length)= some p∧u2 K.length K p:=by
 have hr:(ef K).length = K.length:=List.length_map _;have hg:∀i,i < K.length→K.getD i (0,0)∈K∧(ef K).getD i 0 = fk K (K.getD i (0,0)):=fun i hi=>by
  unfold ef;rw [getD_in _ hi,getD_in _ (by rw [lN];exact hi),List.getElem_map]
  exact ⟨List.getElem_mem hi,rfl⟩
 have iff:∀i j,i < K.length→j < K.length→(Nat.blt ((ef K).getD i 0) ((ef K).getD j 0)= ltB (K.getD i (0,0)) (K.getD j (0,0))):=fun i j hi hj=>by
  obtain ⟨m1,e1⟩:=hg i hi;obtain ⟨m2,e2⟩:=hg j hj;rw [e1,e2,Bool.eq_iff_iff,ltB_iff];constructor
  ·intro h;have h:=Nat.le_of_ble_eq_true h
   by_cases q:K.getD i (0,0)= K.getD j (0,0)
   ·rw [q] at h;exact absurd h (Nat.lt_irrefl _)
   ·rcases jS q with q | q
    ·exact q
    ·exact absurd (gY m2 q) (Nat.not_lt.mpr (Nat.le_of_lt h))
  ·exact fun h=>Nat.ble_eq_true_of_le (gY m1 h)
 have inj:(ef K).Nodup:=by
  unfold ef;refine List.pairwise_map.mpr (List.Pairwise.imp_of_mem (fun {a b} ha hb q e=>?_) nd);rcases jS q with q | q
  ·exact absurd e (Nat.ne_of_lt (gY ha q))
  ·exact absurd e.symm (Nat.ne_of_lt (gY hb q))
 have good:=List.all_eq_true.mp (rX K.length h2 h5) (ef K) (lO _ _ hr fun x hx=>by
  obtain ⟨a,ha,rfl⟩:=mM hx;exact mw ha)
 rw [sH inj,Bool.not_true,Bool.false_or] at good;unfold kS at good;have same:∀t:KasT (Array Nat),dL K.length (fun i j=>Nat.blt ((ef K).getD i 0) ((ef K).getD j 0)) t = dL K.length (fun i j=>ltB (K.getD i (0,0)) (K.getD j (0,0))) t:=fun t=>by
  induction t with
  | ret a=>rfl
  | ask i j k ih=>
   show (if Nat.blt i K.length && Nat.blt j K.length then _ else _)= if Nat.blt i K.length && Nat.blt j K.length then _ else _
   by_cases hb:(Nat.blt i K.length && Nat.blt j K.length)= true
   ·obtain ⟨g1,g2⟩:=Bool.and_eq_true_iff.mp hb;rw [if_pos hb,if_pos hb];dsimp only;rw [iff i j (Nat.le_of_ble_eq_true g1) (Nat.le_of_ble_eq_true g2)];exact ih _
   ·rw [if_neg hb,if_neg hb]
 rw [same] at good;cases e:dL K.length (fun i j=>ltB (K.getD i (0,0)) (K.getD j (0,0))) (kas_sort K.length) with
 | none=>rw [e] at good;cases good
 | some p=>
  rw [e] at good;obtain ⟨g1,g3⟩:=Bool.and_eq_true_iff.mp good;obtain ⟨_,g2⟩:=Bool.and_eq_true_iff.mp g1;have hp:=List.isPerm_iff.mp g2;refine ⟨p,rfl,hp,?_⟩;have hs:(p.toList.map fun i=>(ef K).getD i 0).Pairwise (· < ·):=by rw [beq_iff_eq.mp g3];exact List.pairwise_lt_range
  rw [List.pairwise_map] at hs ⊢;refine List.Pairwise.imp_of_mem (fun {a b} ha hb q=>?_) hs;have ha:=List.mem_range.mp (hp.mem_iff.mp ha);have hb:=List.mem_range.mp (hp.mem_iff.mp hb);exact ltB_iff.mp ((iff a b ha hb).symm.trans (Nat.ble_eq_true_of_le q))
theorem pS{K:List (Nat×Nat)}{p:Array Nat}(h:u2 K.length K p):(p.toList.map fun i=>K.getD i (0,0)).Perm K:=by
 have:=h.1.map fun i=>K.getD i (0,0);have e:(List.range K.length).map (fun i=>K.getD i (0,0))= K:=by
  refine List.ext_getElem (by simp) fun i h1 h2=>?_
  rw [List.getElem_map,List.getElem_range,getD_in _ h2]
 rwa [e] at this
end
section
section
variable {G:Gd}{cx:Cx}{fm:Fm}{X:Value→St→Prop}{W₀ W:Wd}{st:St}{s:Shared}{A:Around}{E:Value→Shared→Prop}{Q:AV→St→Prop}
noncomputable def dp(a:Nat×Nat):AV:= .tup [.int (a.1:Int),.int (a.2:Int)]
inductive n8(h:Heap)(a:Nat×Nat)(v:Value):Prop
 | mk (k:Addr) (t u:Tok) (n:Nat) (e:v = .ref k) (g:h.get? k = some {cls:= .type "tuple",dict:=Option.none,data:= .seq #[.int (a.1:Int) t,.int (a.2:Int) u] n,slots:=#[]})
inductive dX(h:Heap):List (Nat×Nat)→List Value→Prop
 | nil:dX h [] []
 | cons {a:Nat×Nat} {v:Value} {K:List (Nat×Nat)} {vs:List Value} (g:n8 h a v) (r:dX h K vs):dX h (a::K) (v::vs)
theorem dX.len{h:Heap}{K:List (Nat×Nat)}{vs:List Value}(x:dX h K vs):K.length = vs.length:=by
 induction x with
 | nil=>rfl
 | cons _ _ ih=>exact congrArg (·+1) ih
theorem dX.keep{h h':Heap}{a:Addr}{o:Obj}(ho:h.get? a = some o)(hc:o.cls = .type "list")(hk:∀b y,b≠a→h.get? b = some y→h'.get? b = some y){K:List (Nat×Nat)}{vs:List Value}(x:dX h K vs):dX h' K vs:=by
 induction x with
 | nil=>exact .nil
 | cons g _ ih=>
  obtain ⟨k,t,u,n,e,g⟩:=g;refine .cons ⟨k,t,u,n,e,hk _ _ (fun q=>?_) g⟩ ih;rw [q,ho] at g;cases g;exact absurd (Value.type.inj hc) (by decide)
theorem dX.get{h:Heap}{K:List (Nat×Nat)}{vs:List Value}(x:dX h K vs):∀{i:Nat},i < K.length→n8 h (K.getD i (0,0)) (vs.getD i .none):=by
 induction x with
 | nil=>exact fun h=>absurd h (Nat.not_lt_zero _)
 | cons g _ ih=>
  intro i hi;cases i with
  | zero=>exact g
  | succ i=>exact ih (Nat.lt_of_succ_lt_succ hi)
theorem dX.of(R:Rep G W fm st s):∀{K:List (Nat×Nat)} {vs:List Value},au G W (K.map dp) vs→dX s.heap K vs:=by
 intro zl
 induction zl with
 | nil=>
  intro _ e;obtain rfl:=e;exact .nil
 | cons a K ih=>
  intro _ e;obtain ⟨v,r,rfl,rv,e⟩:=e;obtain ⟨p,ws,n,rfl,g,rs⟩:=R.tup rv;obtain ⟨x,r1,rfl,⟨t,rfl⟩,y,r2,rfl,⟨u,rfl⟩,rfl⟩:=rs;exact .cons ⟨p,t,u,n,rfl,g⟩ (ih e)
theorem dX.tups{h:Heap}{K:List (Nat×Nat)}{vs:List Value}(x:dX h K vs):∃fs,KatTups h vs fs∧fs.length = K.length∧∀v∈fs,∃i t,v = .int i t:=by
 induction x with
 | nil=>exact ⟨[],KatTups.nil,rfl,fun Z h=>absurd h List.not_mem_nil⟩
 | cons g _ ih=>
  obtain ⟨fs,h1,h2,h3⟩:=ih;obtain ⟨k,t,u,n,rfl,g⟩:=g;refine ⟨_,KatTups.cons g rfl rfl rfl h1,congrArg (·+1) h2,fun v hv=>?_⟩;rcases mC hv with rfl | hv
  ·exact ⟨_,_,rfl⟩
  ·exact h3 v hv
theorem ym{a b:Nat×Nat}{v u:Value}{C:Bool→Shared→Prop}(hv:n8 s.heap a v)(hu:n8 s.heap b u)(h:C (ltB a b) s):wpAny G.M A (keyLt' (tuples' true) v u) C E s:=by
 obtain ⟨k,t,t',n,rfl,g⟩:=hv;obtain ⟨k',r,r',n',rfl,g'⟩:=hu;refine kat_lt (b:=true) g rfl g' rfl (kat_cons (wpAny_eqBool_int (kat_go (fun e=>kat_yes (kat_cons (wpAny_eqBool_int (kat_go (fun e'=>kat_yes (kat_nil ?_)) (fun e'=>kat_no (kat_one _ _ (wpAny_lt_int ?_))))))) (fun e=>kat_no (oneLt_int ?_)))))
 ·have h1:a.1 = b.1:=by have:=beq_iff_eq.mp e;exact Int.ofNat.inj this
  have h2:a.2 = b.2:=by have:=beq_iff_eq.mp e';exact Int.ofNat.inj this
  unfold ltB at h;rw [if_pos h1,h2,decide_eq_false (Nat.lt_irrefl _)] at h;exact h
 ·have h1:a.1 = b.1:=by have:=beq_iff_eq.mp e;exact Int.ofNat.inj this
  unfold ltB at h;rw [if_pos h1] at h;show C (decide ((a.2:Int) < (b.2:Int))) s;rw [show decide ((a.2:Int) < (b.2:Int))= decide (a.2 < b.2) from by rw [decide_eq_decide];exact Int.ofNat_lt]
  exact h
 ·have h1:a.1≠b.1:=fun q=>by rw [q,beq_self_eq_true] at e;cases e
  unfold ltB at h;rw [if_neg h1] at h;rw [show decide ((a.1:Int) < (b.1:Int))= decide (a.1 < b.1) from by rw [decide_eq_decide];exact Int.ofNat_lt]
  exact h
inductive wD(G:Gd)(A:Around)(K:List (Nat×Nat))(vs:List Value)(s:Shared)(r:Unit×SortSt)(s':Shared):Prop
 | mk (hs:s' = s) (p:Array Nat) (hp:p.size = vs.length) (har:arrOf r.2 = p.map (kas_item (vs.toArray.zip vs.toArray))) (hf:failedOf r.2 = none) (g:u2 K.length K p)
theorem tv{K:List (Nat×Nat)}{vs:List Value}(hp:dX s.heap K vs)(nd:K.Nodup)(h2:2≤K.length)(h5:K.length≤5):
  wpAny G.M A ((sortRuns').run (SortSt.mk' (tuples' true) (vs.toArray.zip vs.toArray) #[] 7 none)) (wD G A K vs s) E s:=by
 have hl:=hp.len;obtain ⟨p,e,g⟩:=rP nd h2 h5;refine wpAny_mono (kat_run (κ:=tuples' true) (ks:=vs) (vs:=vs) (Q:=fun st' s'=>wD G A K vs s ((),st') s') (G:=fun p' s'=>p' = p∧s' = s) rfl (by rw [← hl];exact h2) (by rw [← hl];exact Nat.lt_of_le_of_lt h5 (by decide)) (fun p' st' s' a1 a2 a3 a4=>⟨a4.2,p',a1,a2,a3,by rw [a4.1];exact g⟩) ?_) (fun Z Y z=>z) fun Z Y z=>z
 rw [← hl];refine js (c:=fun i j=>ltB (K.getD i (0,0)) (K.getD j (0,0))) (fun i j hi hj C hC=>?_) _ e ⟨rfl,rfl⟩;exact ym (hp.get hi) (hp.get hj) hC
theorem km{a:Addr}{K:List (Nat×Nat)}{vs:List Value}{n:Nat}{P:PySem.Fin→Shared→Prop}(ho:s.heap.get? a = some (seqObj "list" vs.toArray n))(hp:dX s.heap K vs)(nd:K.Nodup)(h5:K.length≤5)
  (h:∀(p:List Nat) h' c,(∀i∈p,i < K.length)→(p.map fun i=>K.getD i (0,0)).Perm K→(p.map fun i=>K.getD i (0,0)).Pairwise il→(∀b o,b≠a→s.heap.get? b = some o→h'.get? b = some o)→h'.get? a = some (seqObj "list" (List.toArray (p.map fun i=>vs.getD i Value.none)) c)→P (.done (.ret .none)) {s with heap:=h'}):
  wpAny G.M A (Builtin.«list.sort» ⟨[.ref a],[]⟩) P E s:=by
 have hl:=hp.len;have ha:a < s.heap.objs.size:=Heap.lt_size ho;have s1:=Heap.SameBut.update s.heap a (Obj.mapSeq fun Z=>(#[]:Array Value));obtain ⟨e1,ho1⟩:∃e1,(s.heap.update a (Obj.mapSeq fun Z=>(#[]:Array Value))).get? a = some (seqObj "list" #[] e1):=⟨_,get?_update_seq ho fun Z=> #[]⟩;have k3:∀b o,b≠a→s.heap.get? b = some o→(((s.heap.update a (Obj.mapSeq fun Z=>(#[]:Array Value))).push (seqObj "tuple" vs.toArray 0)).push (seqObj "list" #[] 0)).get? b = some o:=fun b o hb e=>Heap.get?_push_of_some _ (Heap.get?_push_of_some _ ((s1.2 b hb).trans e));have a3:(((s.heap.update a (Obj.mapSeq fun Z=>(#[]:Array Value))).push (seqObj "tuple" vs.toArray 0)).push (seqObj "list" #[] 0)).get? a = some (seqObj "list" #[] e1):=Heap.get?_push_of_some _ (Heap.get?_push_of_some _ ho1);have hp3:=hp.keep ho rfl k3;have hz:vs.length≤sizeLine:=by rw [← hl,sizeLine_eq];exact lT h5 (by decide)
 rw [list_sort_plain];refine wpAny_bind (listItems_at ho rfl ?_);refine wpAny_bind (listUpdate_at ho rfl ?_ hz (Nat.zero_le _));refine wpAny_bind (seqEpoch_at ho1 rfl ?_);refine wpAny_bind (wpAny_newTuple ?_ hz);refine wpAny_bind (wpAny_newList ?_ (Nat.zero_le _));refine wpAny_holding ?_;show wpAny G.M A _ P E {s with heap:=((s.heap.update a (Obj.mapSeq fun Z=>(#[]:Array Value))).push (seqObj "tuple" vs.toArray 0)).push (seqObj "list" #[] 0)};dsimp only;generalize hH:((s.heap.update a (Obj.mapSeq fun Z=>(#[]:Array Value))).push (seqObj "tuple" vs.toArray 0)).push (seqObj "list" #[] 0)= H at k3 a3 hp3;have fin:∀(p:List Nat) (xs:Array Value),xs = List.toArray (p.map fun i=>vs.getD i Value.none)→p.length = K.length→(∀i∈p,i < K.length)→(p.map fun i=>K.getD i (0,0)).Perm K→(p.map fun i=>K.getD i (0,0)).Pairwise il→
   ∀c2,(H.update a (Obj.mapSeq fun Z=>xs)).get? a = some (seqObj "list" xs c2)→P (.done (.ret .none)) {s with heap:=H.update a (Obj.mapSeq fun Z=>xs)}:=fun p xs ex Z hb pm ps c2 hc2=>by
  subst ex;exact h p _ c2 hb pm ps (fun b o hba e=>((Heap.SameBut.update H a _).2 b hba).trans (k3 b o hba e)) hc2
 by_cases h2:vs.toArray.size < 2
 ·rw [if_pos h2,if_pos h2];refine wpAny_bind (wpAny_pure ?_);rw [StateT.run_pure];refine wpAny_bind (wpAny_pure ?_);dsimp only;refine wpAny_bind (seqEpoch_at a3 rfl ?_);have hxs:(arrOf (SortSt.mk' general' (vs.toArray.zip vs.toArray) #[] 7 none)).map (·.2)= List.toArray ((List.range K.length).map fun i=>vs.getD i Value.none):=by
   show ((vs.toArray.zip vs.toArray).map (·.2))= _;apply Array.toList_inj.mp;rw [Array.toList_map,Array.toList_zip];refine List.ext_getElem (by simp [hl]) fun i h1 h2=>?_
   simp at h1;simp [h1]
  have hsz:(List.toArray ((List.range K.length).map fun i=>vs.getD i Value.none)).size≤sizeLine:=by rw [List.size_toArray,lN,List.length_range,hl];exact hz
  obtain ⟨c2,hc2⟩:∃c2,(H.update a (Obj.mapSeq fun Z=>List.toArray ((List.range K.length).map fun i=>vs.getD i Value.none))).get? a = some (seqObj "list" (List.toArray ((List.range K.length).map fun i=>vs.getD i Value.none)) c2):=⟨_,get?_update_seq a3 fun Z=>List.toArray ((List.range K.length).map fun i=>vs.getD i Value.none)⟩;have eK:(List.range K.length).map (fun i=>K.getD i (0,0))= K:=by
   refine List.ext_getElem (by simp) fun i h1 h2=>?_
   rw [List.getElem_map,List.getElem_range,getD_in _ h2]
  rw [hxs];refine wpAny_bind (listUpdate_at a3 rfl ?_ (Nat.zero_le _) (Nat.le_succ_of_le hsz));simp only [bne_self_eq_false,Bool.false_eq_true,if_false];refine wpAny_pure (fin (List.range K.length) _ rfl List.length_range (fun i hi=>List.mem_range.mp hi) (by rw [eK]) ?_ c2 hc2)
  rw [eK];rw [List.size_toArray,← hl] at h2
  match K,h2 with
  | [],_=>exact .nil
  | [k],_=>exact List.pairwise_singleton _ _
  | _::_::_,h2=>simp at h2;with_reducible exact (A2 ‹_›).elim
 ·rw [if_neg h2,if_neg h2];have h2':2≤K.length:=by rw [hl];rw [List.size_toArray] at h2;change Nat.le_of_not_lt
  obtain ⟨fs,ht,hfl,hfi⟩:=hp3.tups;refine wpAny_bind (kat_kind (T:= .type "int") ht (by change zQ) (fun v hv=>?_) rfl ?_)
  ·obtain ⟨i,t,rfl⟩:=hfi v hv;exact .now
  refine wpAny_bind (wpAny_mono (tv hp3 nd h2' h5) ?_ fun Z Y e=>e);rintro ⟨⟨⟩,st'⟩ s' ⟨rfl,p,hps,har,hf,g⟩;dsimp only;have hout:=kat_snds rfl har;have hsz:(List.toArray (p.toList.map fun i=>vs.getD i Value.none)).size≤sizeLine:=by rw [List.size_toArray,lN,Array.length_toList,hps];exact hz
  rw [hout];obtain ⟨c2,hc2⟩:∃c2,(H.update a (Obj.mapSeq fun Z=>List.toArray (p.toList.map fun i=>vs.getD i Value.none))).get? a = some (seqObj "list" (List.toArray (p.toList.map fun i=>vs.getD i Value.none)) c2):=⟨_,get?_update_seq a3 fun Z=>List.toArray (p.toList.map fun i=>vs.getD i Value.none)⟩;refine wpAny_bind (seqEpoch_at a3 rfl ?_);refine wpAny_bind (listUpdate_at a3 rfl ?_ (Nat.zero_le _) (Nat.le_succ_of_le hsz));rw [hf];simp only [bne_self_eq_false,Bool.false_eq_true,if_false];exact wpAny_pure (fin p.toList _ rfl (by rw [Array.length_toList,hps,hl]) (fun i hi=>List.mem_range.mp (g.1.mem_iff.mp hi)) (pS g) g.2 c2 hc2)
theorem au.pick{K:List (Nat×Nat)}{vs:List Value}(rs:au G W (K.map dp) vs):∀(p:List Nat),(∀i∈p,i < K.length)→au G W ((p.map fun i=>K.getD i (0,0)).map dp) (p.map fun i=>vs.getD i Value.none):=by
 intro zl
 induction zl with
 | nil=>
  intro _;exact au.nil
 | cons i p ih=>
  intro hb;have hi:=hb i (.head _);obtain ⟨v,hv,rv⟩:=rs.get (i:=i) (x:=dp (K.getD i (0,0))) (by rw [gM,gE hi,getD_in _ hi];rfl)
  refine au.cons ?_ (ih fun j hj=>hb j (.tail _ hj));show RV G W (dp (K.getD i (0,0))) (vs[i]?.getD Value.none);rw [hv];exact rv
theorem Cal.sortedPairs{a:AV}{K:List (Nat×Nat)}(ha:aM st a = some (K.map dp))(nd:K.Nodup)(h5:K.length≤5)(h:∀S:List (Nat×Nat),S.Perm K→S.Pairwise il→Q (.lst (S.map dp)) st):bB G cx fm X (.builtin "sorted") [a] st Q:=by
 intro W₀ vs rs W s A hA hW hR hT;obtain ⟨v,_,rfl,rv,rfl⟩:=rs;obtain ⟨l,vs,n,rfl,hL,rs⟩:=hR.lst (rv.mono hW) ha;have hp:=dX.of hR rs;have hl:=hp.len;have hz:vs.length≤sizeLine:=by rw [← hl,sizeLine_eq];exact lT h5 (by decide)
 refine Calls.call_function_entry kind_sorted plain_sorted entry_sorted (args_sorted1 _) ?_;unfold Builtin.«sorted»;refine wpAny_bind (m:=checkCount "sorted" 1 1 _) (wpAny_pure ?_);refine wpAny_bind (collect_list hL.isList ?_ (by simpa using hz))
 refine wpAny_bind (wpAny_newList ?_ (by simpa using hz))
 have hsz:((s.heap.push (seqObj "list" #[] 0)).update s.heap.objs.size (Obj.mapSeq (·++vs.toArray))).objs.size = s.heap.objs.size+1:=by
  rw [Heap.size_update,size_push']
 have hoL:(((s.heap.push (seqObj "list" #[] 0)).update s.heap.objs.size (Obj.mapSeq (·++vs.toArray))).push (seqObj "list" vs.toArray 0)).get? (s.heap.objs.size+1)= some (seqObj "list" vs.toArray 0):=by
  rw [← hsz];exact Heap.get?_push_size _ rfl
 have keep:∀b o,s.heap.get? b = some o→(((s.heap.push (seqObj "list" #[] 0)).update s.heap.objs.size (Obj.mapSeq (·++vs.toArray))).push (seqObj "list" vs.toArray 0)).get? b = some o:=fun b o q=>by
  have hlt:b < s.heap.objs.size:=Heap.lt_size q;rw [Heap.get?_push_ne _ _ _ (by rw [hsz];exact Nat.ne_of_lt (Nat.lt_succ_of_lt hlt)),Heap.get?_update_ne _ _ _ _ (Nat.ne_of_lt hlt),Heap.get?_push_ne _ _ _ (Nat.ne_of_lt hlt)]
  exact q
 show wpAny _ _ _ _ _ {s with heap:=((s.heap.push (seqObj "list" #[] 0)).update s.heap.objs.size (Obj.mapSeq (·++vs.toArray))).push (seqObj "list" vs.toArray 0)};rw [hsz];have R₂:Rep G W fm st {s with heap:=((s.heap.push (seqObj "list" #[] 0)).update s.heap.objs.size (Obj.mapSeq (·++vs.toArray))).push (seqObj "list" vs.toArray 0),toks:=s.toks}:=hR.keeps keep;refine wpAny_bind (wpAny_holding (wpAny_call_entry slot_list_sort ⟨_,hoL,rfl⟩ entry_list_sort (km hoL (dX.of R₂ rs) nd h5 fun p h' c hb pm ps hk hc=>⟨_,rfl,wpAny_pure ⟨_,rfl,?_⟩⟩) (args_list_sort _)));have n1:s.heap.get? (s.heap.objs.size+1)= Option.none:=Heap.get?_none_of_le (Nat.le_succ _);obtain ⟨le,R₃⟩:=hR.freezeNew (h':=h') (t:=s.toks) (a:=s.heap.objs.size+1) (fun b o e=>hk b o (Nat.ne_of_lt (Nat.lt_succ_of_lt (Heap.lt_size e))) (keep b o e)) n1 hc;exact ⟨_,st,.lst ((p.map fun i=>K.getD i (0,0)).map dp),le,R₃,dh.mk _ _ _ rfl (if_pos rfl) ⟨rfl,rfl,rfl,c,rfl⟩ ((rs.pick p hb).mono le),h _ pm ps⟩
end
end
section
section
variable {G:Gd}{cx:Cx}{fm:Fm}{X:Value→St→Prop}{W₀ W:Wd}{st:St}{s:Shared}{Q:AV→St→Prop}
theorem Rep.but2(R:Rep G W fm st s){h':Heap}{t:Nat}{x y:Addr}(hx:aF W fm x)(hy:aF W fm y)(hk:∀a o,a≠x→a≠y→s.heap.get? a = some o→h'.get? a = some o):Rep G W fm st {s with heap:=h',toks:=t}:=
 ⟨fun a o e=>hk _ _ (fun q=>by subst q;rw [hx.F] at e;cases e) (fun q=>by subst q;rw [hy.F] at e;cases e) (R.frozen a o e),
  fun a o e=>by obtain ⟨o',h,r⟩:=R.held a o e;exact ⟨o',hk _ _ (fun q=>by subst q;rw [hx.H] at e;cases e) (fun q=>by subst q;rw [hy.H] at e;cases e) h,r⟩,R.base,
  fun k ao e=>by obtain ⟨a,o,p,q,r,z⟩:=R.live k ao e;exact ⟨a,o,p,q,hk _ _ (fun v=>hx.k k (v▸p)) (fun v=>hy.k k (v▸p)) r,z⟩,R.inj,
  fun k a e=>by obtain ⟨o,q⟩:=R.lt k a e;exact ⟨o,hk _ _ (fun v=>hx.k k (v▸e)) (fun v=>hy.k k (v▸e)) q⟩,R.fin,R.gens,R.os,R.outs,R.ok,R.FH,R.alH⟩
noncomputable abbrev yJ(it:Addr)(i:Int)(old:Value):Obj:={cls:= .type "enumerate",dict:=Option.none,data:= .fields #[.none,.bool false,.ref it,rawInt i,.none,old],slots:=#[]}
inductive u7(W:Wd)(fm:Fm)(h:Heap)(e it l:Addr)(k:Nat):Prop
 | mk (ne:e≠it) (f1:aF W fm e) (f2:aF W fm it) (old:Value) (g1:IsEnum h e it (k:Int) old) (g2:h.IsListIter it l k)
theorem u7.run{e it l:Addr}{k:Nat}{A:Around}{α:Type}{t:Sem α}{Q:α→Shared→Prop}{E:Value→Shared→Prop}(R:Rep G W fm st s)(T:u7 W fm s.heap e it l k)
  (h:∀W',W.Le W'→Rep G W' fm st s→(∀W'' st'' s'',W'.Le W''→Rep G W'' fm st'' s''→∃W₃,W.Le W₃∧W''.Lf W₃∧Rep G W₃ fm st'' s''∧u7 W₃ fm s''.heap e it l k)→wpAny G.M A t Q E s):wpAny G.M A t Q E s:=by
 obtain ⟨ne,f1,f2,old,g1,g2⟩:=T;obtain ⟨o2,ho2,hc2,hd2⟩:=g2;have RH:=R.hold g1 f1.F f1.H f1.k;have leH:=Wd.le_hold (W:=W) (yJ it k old) f1.H;have f2':aF (W.hold e (yJ it k old)) fm it:=⟨f2.F,(if_neg (Ne.symm ne)).trans f2.H,fun k=>by rw [bT];exact f2.k k⟩
 have RK:=RH.hold ho2 f2'.F f2'.H f2'.k;have leK:=Wd.le_hold (W:=W.hold e (yJ it k old)) o2 f2'.H;refine h _ (leH.trans leK) RK fun W₅ st₅ s₅ le₅ R₅=>?_;have h1:W₅.H e = some (yJ it k old):=le₅.H _ _ ((if_neg ne).trans (if_pos rfl));have s1:W₅.S e = false:=(le₅.S _ _ ((if_neg ne).trans (if_pos rfl))).trans ((if_neg ne).trans (if_pos rfl));have h2:W₅.H it = some o2:=le₅.H _ _ (if_pos rfl);have s2:W₅.S it = false:=(le₅.S _ _ (if_pos rfl)).trans (if_pos rfl);have lk:∀{a:Addr},(∀k,addrOf W fm k≠some a)→∀k,(∀i,k≠Key.obj i)→∀W':Wd,addrOf W' fm k≠some a:=fun fa k hk W'=>by rw [dO (W':=W) hk];exact fa k
 have outs:∀{a:Addr},W.H a = Option.none→∀x av c,fm.out x = some av→fm.env.cells.lookup x = some c→c≠a:=fun {a} hh x av c e1 e2 e3=>by
  obtain ⟨c',o',v',p,q,_⟩:=R.outs.out x av e1;rw [e2] at p;cases p;rw [e3,hh] at q;cases q
 have R₆:=R₅.drop (a:=e) (outs f1.H) s1;have h2':(W₅.drop e).H it = some o2:=(if_neg (Ne.symm ne)).trans h2;have F1:aF (W₅.drop e) fm e:=aF.drop R₅ h1 fun k hk=>lk f1.k k hk _;have F2:aF ((W₅.drop e).drop it) fm it:=aF.drop R₆ h2' fun k hk=>lk f2.k k hk _;have F1':aF ((W₅.drop e).drop it) fm e:=⟨F1.F,(if_neg ne).trans F1.H,fun k=>by rw [bn];exact F1.k k⟩
 have none_of:∀{a:Addr},W.H a = Option.none→W.H a = Option.none:=id;exact ⟨_,Wd.le_drop f2.H (Wd.le_drop f1.H ((leH.trans leK).trans le₅)),⟨fun Z Y e=>e,fun Z Y e=>e⟩,R₆.drop (a:=it) (outs f2.H) s2,ne,F1',F2,old,R₅.heldX h1 s1,⟨o2,R₅.heldX h2 s2,hc2,hd2⟩⟩
inductive BO(l:List AV)(Q:AV→St→Prop)(as:List AV)(st:St):Prop
 | mk (a:AV) (e:as = [a]) (hl:aM st a = some l) (q:Q a st)
inductive Bi(G:Gd)(cx:Cx)(fm:Fm)(X:Value→St→Prop)(pos:Pos)(arg:PySem.Expr)(l:List AV)(Q:AV→St→Prop)(f:AV)(st:St):Prop
 | mk (e:f = .raw (.type "enumerate")) (h:aU G cx fm X pos [arg] st (BO l Q))
inductive BB(G:Gd)(W:Wd)(fm:Fm)(Q:AV→St→Prop)(v:Value)(s':Shared):Prop
 | mk (W':Wd) (st':St) (a:AV) (e it l:Addr) (le:W.Le W') (R:Rep G W' fm st' s') (T:u7 W' fm s'.heap e it l 0) (hv:v = .ref e) (ra:RV G W' a (.ref l)) (q:Q a st')
theorem tX{func arg:PySem.Expr}{pos:Pos}{l:List AV}{A:Around}(hA:cx.In fm A)(hR:Rep G W fm st s)(hT:0 < s.toks)(h:Ev G cx fm X func st (Bi G cx fm X pos arg l Q))
  (hc:eval (.Call func [arg] [] pos) fm.env =(do callWith pos (← eval func fm.env) [] (backTo pos (starEach [arg] fm.env)) (backToKw pos (keywordEach [] fm.env)))):wpAny G.M A (eval (.Call func [arg] [] pos) fm.env) (BB G W fm Q) (QE G W fm X) s:=by
 rw [hc];refine wpAny_bind (gN hT (h W s A hA (bot_le _) hR hT) fun f s₁ hT₁ z=>?_);obtain ⟨W₁,st₁,a,le₁,R₁,ra,rfl,h₁⟩:=z;obtain rfl:=ra;refine cG (gN hT₁ (wpAny_mono (h₁ _ W₁ s₁ A hA (bot_le _) R₁ hT₁) (fun Z Y z=>z) fun Z Y z=>z.le le₁) fun a s₁ hT₁ z=>?_);obtain ⟨W₂,st₂,as,le₂,R₂,⟨hkw,rs⟩,b,rfl,hl,q⟩:=z;obtain ⟨k,hk⟩:=aa.type (G:=G) "enumerate" G.M A (QE G W fm X) s₁ R₂.keep;refine ⟨hkw,k,hk,?_⟩;obtain ⟨v,r,e,ra,rs⟩:=rs;obtain rfl:=rs;rw [e];obtain ⟨p,vs,n,rfl,hL,rs⟩:=R₂.lst ra hl;refine call_enumerate_1 hL fun h' he hi hz hk=>?_;have n1:s₁.heap.get? (s₁.heap.objs.size+1)= Option.none:=by
  cases e:s₁.heap.get? (s₁.heap.objs.size+1) with
  | none=>rfl
  | some o=>exact absurd (Heap.lt_size e) (Nat.not_lt.mpr (Nat.le_succ _))
 exact ⟨W₂,st₂,b,_,_,p,le₁.trans le₂,R₂.keeps (t:=s₁.toks) hk,⟨Nat.succ_ne_self _,R₂.free n1,R₂.free (aw _),.none,he,hi⟩,rfl,ra,q⟩
inductive BL(G:Gd)(cx:Cx)(fm:Fm)(target:PySem.Expr)(body orelse:List Stmt)(Q:AF→St→Prop)(xs:List AV)(a:AV)(st₁:St):Prop
 | mk (hz:xs.length≤sizeLine) (I:Nat→St→Prop) (h0:I 0 st₁) (hc:∀k st',I k st'→aM st' a = some xs)
  (turn:∀k x st',xs[k]? = some x→I k st'→cY G cx fm cO target (.tup [.int k,x]) st' fun st₂=>Ex G cx fm cO body st₂ (sA Q (I (k+1)))) (fin:∀st',I xs.length st'→Ex G cx fm cO orelse st' Q)
inductive Bc(G:Gd)(W:Wd)(fm:Fm)(e it l:Addr)(a:AV)(I:Nat→St→Prop)(N n:Nat)(s':Shared):Prop
 | mk (k:Nat) (W':Wd) (st':St) (eq:n = N+1 - k) (hk:k≤N) (hT:0 < s'.toks) (le:W.Le W') (R:Rep G W' fm st' s') (T:u7 W' fm s'.heap e it l k) (ra:RV G W' a (.ref l)) (i:I k st')
inductive BK(G:Gd)(W:Wd)(fm:Fm)(st:St)(e it l:Addr)(k:Nat)(x:AV)(r:Option Value)(s':Shared):Prop
 | mk (W':Wd) (t:Addr) (hr:r = some (.ref t)) (le:W.Le W') (R:Rep G W' fm st s') (f1:aF W' fm e) (f2:aF W' fm it) (ne:e≠it) (v:Value) (g1:IsEnumOut s'.heap e it ((k:Int)+1) v t) (g2:s'.heap.IsListIter it l (k+1)) (rv:RV G W' (.tup [.int k,x]) (.ref t))
theorem tS{A:Around}{E:Value→Shared→Prop}{e it l:Addr}{k:Nat}{a x:AV}{xs:List AV}(R:Rep G W fm st s)(T:u7 W fm s.heap e it l k)(ra:RV G W a (.ref l))(hl:aM st a = some xs)(hx:xs[k]? = some x):wpAny G.M A (pyNext (.ref e)) (BK G W fm st e it l k x) E s:=by
 obtain ⟨ne,f1,f2,old,g1,g2⟩:=T;obtain ⟨p,vs,n,e',hL,rs⟩:=R.lst ra hl;cases e';obtain ⟨v,hv,rv⟩:=rs.get hx;refine wpAny_pyNext_enum_item g1 g2 hL.isList (x:=v) (by simpa using hv) ne fun h' o1 o2 ht hz hk=>?_
 have hz:s.heap.objs.size≠e:=Nat.ne_of_gt (Heap.lt_size g1);obtain ⟨o2',ho2',_⟩:=id g2;have hz2:s.heap.objs.size≠it:=Nat.ne_of_gt (Heap.lt_size ho2');obtain ⟨le,R₁⟩:=R.pushF {cls:= .type "tuple",data:= .seq #[.int k s.toks,v]} (s.toks+1);have fr:∀{b:Addr},s.heap.objs.size≠b→aF W fm b→aF (W.freeze s.heap.objs.size {cls:= .type "tuple",data:= .seq #[.int k s.toks,v]}) fm b:=fun {b} nb f=>⟨(if_neg (Ne.symm nb)).trans f.F,f.H,fun k=>by rw [aB];exact f.k k⟩
 have R₂:=R₁.but2 (h':=h') (t:=s.toks+1) (fr hz f1) (fr hz2 f2) fun b o b1 b2 hb=>by
  by_cases q:b = s.heap.objs.size
  ·subst q;have:=hb.symm.trans (Heap.get?_push_size _ rfl);cases this;exact ht
  ·exact hk b o b1 b2 ((Heap.get?_push_ne _ _ _ q).symm.trans hb)
 exact ⟨_,_,rfl,le,R₂,fr hz f1,fr hz2 f2,ne,v,o1,o2,dh.mk _ _ _ rfl (if_pos rfl) ⟨rfl,rfl,rfl,_,rfl⟩ (au.cons ⟨_,rfl⟩ (au.cons (rv.mono le) au.nil))⟩
theorem an.forEnum{elts:List PySem.Expr}{x1:_}{tp pos cp:Pos}{func arg:PySem.Expr}{body orelse:List Stmt}{xs:List AV}{Q:AF→St→Prop}(hc:cx.calm = true)
  (h:Ev G cx fm X func st (Bi G cx fm X cp arg xs (BL G cx fm (.Tuple elts x1 tp) body orelse Q xs)))
  (hs:∀env x,foldedSetIterable (.Call func [arg] [] cp) env x = Pure.pure x:=by intro _ _;rfl)
  (hcl:∀env,eval (.Call func [arg] [] cp) env =(do callWith cp (← eval func env) [] (backTo cp (starEach [arg] env)) (backToKw cp (keywordEach [] env))):=by intro _;rfl):an G cx fm X (.For (.Tuple elts x1 tp) (.Call func [arg] [] cp) body orelse pos) st Q:=by
 intro W s A hA hW hR hT;refine wpAny_For (i9 hT (tX hA hR hT h (hcl _)) (fun v s₁ hT₁ z=>?_) fun Z Y V z=>z) (hs _);obtain ⟨W₁,st₁,a,e,it,l,le,R₁,T,rfl,ra,hz,I,h0,hcond,hturn,hend⟩:=z;obtain ⟨_,_,_,old,g1,_⟩:=id T;refine wpAny_pyIter_enum g1 ?_;refine gD (Bc G W fm e it l a I xs.length) (fun n s' hI=>?_) (xs.length+1) ⟨0,W₁,st₁,rfl,Nat.zero_le _,hT₁,le,R₁,T,ra,h0⟩;obtain ⟨k,W',st',rfl,hk,hT',le',R',T',ra',hI⟩:=hI;cases hx:xs[k]? with
 | none=>
  have:k = xs.length:=by have:=List.getElem?_eq_none_iff.mp hx;change u5
  subst this;obtain ⟨ne,f1,f2,old,g1,g2⟩:=T';obtain ⟨p,vs,n,e',hL,rs⟩:=R'.lst ra' (hcond _ _ hI);cases e';refine wpAny_pyNext_enum_end (hA.calm hc) g1 g2 hL.isList (by simp [rs.length]) fun h' hs=>?_
  have R₃:Rep G W' fm st' {s' with heap:=h',toks:=s'.toks}:=R'.extBut hs f2.F f2.H f2.k;refine wpAny_mono (hend _ hI W' _ A hA (bot_le _) R₃ hT') (fun f s₄ z=>?_) fun Z Y z=>z.no;exact z.le le'
 | some x=>
  have hkl:k < xs.length:=(gS hx).1;refine i9 hT' (tS (E:=fun Z Y=>False) R' T' ra' (hcond _ _ hI) hx) (fun r s₃ hT₃ z=>?_) fun Z Y V z=>z;obtain ⟨W₃,t,rfl,le₃,R₃,f1,f2,ne,v,o1,o2,rv⟩:=z;dsimp only;refine wpAny_letOwnedTupleGo_enum o1 fun h' he hs=>?_;have R₃':Rep G W₃ fm st' {s₃ with heap:=h',toks:=s₃.toks}:=R₃.extBut hs.extBut f1.F f1.H f1.k;have T₃:u7 W₃ fm h' e it l (k+1):=⟨ne,f1,f2,v,he,o2.extBut hs.extBut (Ne.symm ne)⟩;refine T₃.run (s:={s₃ with heap:=h'}) R₃' fun W₄ le₄ R₄ back=>?_;refine i9 (s:={s₃ with heap:=h'}) hT₃ (hturn k x st' hx hI _ _ (rv.mono le₄) _ _ A hA (.refl _) R₄ hT₃) (fun Z s₄ hT₄ z=>?_) fun Z Y V z=>z.no;obtain ⟨W₅,st₅,_,le₅,R₅,_,hb⟩:=z;refine i9 hT₄ (hb W₅ s₄ A hA (bot_le _) R₅ hT₄) (fun f s₅ hT₅ z=>?_) fun Z Y V z=>z.no;obtain ⟨W₆,st₆,af,le₆,R₆,rf,hq⟩:=z;have leW:W.Le W₆:=(((le'.trans le₃).trans le₄).trans le₅).trans le₆;have again:I (k+1) st₆→∃m,m < xs.length+1 - k∧Bc G W fm e it l a I xs.length m s₅:=fun hI'=>by
   obtain ⟨W₇,l7,lf,R₇,T₇⟩:=back W₆ st₆ s₅ (le₅.trans le₆) R₆;exact ⟨xs.length+1 - (k+1),by change uE,k+1,W₇,st₆,rfl,hkl,hT₅,(le'.trans le₃).trans l7,R₇,T₇,((((ra'.mono le₃).mono le₄).mono le₅).mono le₆).mono' lf,hI'⟩
  cases af with
  | next=>cases rf;exact again hq
  | cont=>cases rf;exact again hq
  | brk=>cases rf;exact ⟨W₆,st₆,.next,leW,R₆,rfl,hq⟩
  | ret y=>obtain ⟨v',rfl,rv'⟩:=rf;exact ⟨W₆,st₆,.ret y,leW,R₆,⟨v',rfl,rv'⟩,hq⟩
end
end
section
section
variable {G:Gd}{cx:Cx}{fm:Fm}{X:Value→St→Prop}{W₀ W:Wd}{st:St}{s:Shared}{Q:AV→St→Prop}
theorem Cal.dictTold{T:Told}(O:G.Ok)(hc:cx.calm = true)(hnd:(T.map (·.1)).Nodup)(hz:T.length≤1000)(h:Q (hY T) st):bB G cx fm X (.type "dict") [.lst (T.map aD)] st Q:=
 Cal.dictPairs (prs:=T.map fun p=>(p.1,AV.lst (p.2.map .str))) O hc (by rw [mL];rfl) (by simpa using hz) (by rw [pg hnd];exact h)
theorem ah.starLast{pos p:Pos}{e:PySem.Expr}{Q:List AV→St→Prop}(h:Ev G cx fm X e st fun a st₁=>∃l,fJ st₁ a = some l∧l.length≤sizeLine∧Q l st₁):ah G cx fm X pos [.Starred e p] st Q:=
 ah.star (J.mono h (fun a st₁ ⟨l,h1,h2,h3⟩=>⟨l,h1,h2,ah.nil (by rw [List.append_nil];exact h3)⟩) fun Z Y z=>z)
theorem an.asgCompD{x:Str}{p spos:Pos}{k v target iter:PySem.Expr}{ifs:List PySem.Expr}{scope:Scope}{pos:Pos}{Q:AF→St→Prop}(O:G.Ok)(hc:cx.calm = true)(hl:aX fm x)(hnd:(scope.names.map (·.1)).Nodup)(hfree:∀n∈freeNames scope.names,n∈fm.own∨(fm.out n).isSome = true)
  (h:Ev G cx fm cO iter st fun a st₁=>c6 G cx fm (fh G) (.DictComp k v [⟨target,iter,ifs,0⟩] scope pos) scope target ifs (we k v target iter ifs scope pos) ([],[]) a st₁ fun b hp=>Q .next ((⟨st₁.loc,hp⟩:St).setLoc x (.dct b.1 b.2)))
  (h1:swapsWith (.DictComp k v [⟨target,iter,ifs,0⟩] scope pos) (some (.Name x p)) spos.line (dY fm.names)= Pure.pure true:=by rfl)
  (hk:scope.kind = .function:=by rfl) (hs:∀env x,foldedSetIterable iter env x = Pure.pure x:=by intro _ _;rfl):an G cx fm X (.Assign [.Name x p] (.DictComp k v [⟨target,iter,ifs,0⟩] scope pos) spos) st Q:=by
 intro W s A hA hW hR hT;rw [ek hR h1];refine wpAny_bind (wpAny_standAt (wpAny_bind ?_));refine (wpAny_bind ?_:wpAny _ _ (comprehension _ _ _ _ _ _ _ _ >>= fun Z=>Pure.pure ()) _ _ _);refine cc (K:=fh G) (Q:=fun b st'=>Q .next (st'.setLoc x (.dct b.1 b.2))) hc rfl (eD _ _ _ _ _) hs hk hnd hfree gt rfl (fun W=>⟨[],⟨⟨rfl,rfl,rfl⟩,#[],0,rfl,fun e he=>by simp at he,Pairs.nil,rfl,List.nodup_nil⟩,au.nil⟩) (fun env it ad=>tP _ _ _ _ _ _ _ _ _ _) h hA hR hT ?_
 intro W' st' b ad C s' le ce hq;refine wpAny_mono (fE (t:= .Name x p) (Q:=Q) (P:=fun a st''=>Q .next (st''.setLoc x a)) hA ce le (fun W R fr ho=>uN O R fr ho hq) (fun a st'' hp=>Asg.name hl hp)) (fun Z s'' z=>?_) fun Z Y z=>z;obtain ⟨m,hm,hz⟩:=z;exact ⟨m,hm,fun h' hsb=>wpAny_pure (wpAny_pure (hz h' hsb))⟩
end
theorem dC.kp{a b c:Nat→Option AO}{g g':SG}{L:List (Nat×AO)}(x:dC a b g g' L)(h:∀k ao,b k = some ao→c k = some ao):dC a c g g' L:=
 x.call ⟨x.ch.srt.kp h,fun k ao Z e=>h k ao e,fun k hk=> .inl hk,rfl⟩
theorem s6{w:World}{h₀:Heap}{os:OsState}{mg mb:Str→Option Value}:r7 (gd w h₀ os mg mb) am tY "add" :=⟨ap,bJ,by kernel_rfl,by kernel_rfl,by kernel_rfl,by kernel_rfl,by decide+kernel⟩
section
variable {w:World}{h₀:Heap}{os:OsState}{mg mb:Str→Option Value}{cx:Cx}{fm:Fm}{X:Value→St→Prop}{st:St}{Q:AV→St→Prop}
theorem tH{i:Nat}{g:SG}{x:Str}{ps:List Str}{n N B:Nat}(O:(gd w h₀ os mg mb).Ok)(hc:cx.calm = true)(hn:n+4≤cx.n)(e:g.i = i)(S:bX st.hp g)(hrd:g.rd = Option.none)(hB:Bd N B g.pv)(hz:N+ps.length+1≤1000)(hzB:B+ps.length≤1000)
  (h:∀g' hp',Ch st.hp hp' g g'→cD g g'→g'.pv = dA x ps g.pv→Q .none ⟨st.loc,hp'⟩):
  aH (gd w h₀ os mg mb) cx fm X tY (.obj am i:: .str x::ps.map .str) st Q:=by
 subst e;exact uT O hc hn S hrd hB hz hzB h
theorem lv{i:Nat}{T:Told}{g:SG}{n:Nat}{rv:AV}(O:(gd w h₀ os mg mb).Ok)(hc:cx.calm = true)(hn:n+1≤cx.n)(e:g.i = i)(S:bX st.hp g)(hnm:g.pv.map (·.1)= ag T)(hsc:∀z,aO z g.pv = aO z (bM T))(hz:(az T).length≤500)(R:dV T rv)
  (h:∀hp',(∀k ao,st.hp k = some ao→hp' k = some ao)→Q rv ⟨st.loc,hp'⟩):aH (gd w h₀ os mg mb) cx fm X iA [.obj am i] st Q:=by
 subst e;exact nA O hc hn S hnm hsc hz R h
theorem Sub.tupAt{G:Gd}{value slice:PySem.Expr}{l:List AV}{j:Nat}{x:AV}(hx:l[j]? = some x)(hj:j < 1000)(h:Q x st)
  (hs:∀o i,subscripted slice false o i = PySem.operate [o,i] (getItem o i):=by intro _ _;with_unfolding_all rfl):cZ G cx fm X value slice (.tup l) (.int (j:Int)) st Q:=by
 intro W₀ v u hv hu W s A hA hW hR hT;obtain ⟨p,vs,n,rfl,hp,rs⟩:=hR.tup (hv.mono hW);obtain ⟨t,rfl⟩:=hu;obtain ⟨y,hy,ry⟩:=rs.get hx;have hjl:j < vs.length:=(gS hy).1;refine tail_any ⟨_,hp,rfl⟩ slot_tuple_getitem.lookup (getItem_tuple (j:=j) (x:=y) ⟨_,hp,rfl,n,rfl⟩ (by change AA) (by change zE) ?_ (by simpa using hy) ⟨W,st,x,.refl _,hR,ry,h⟩) (hs _ _)
 unfold seqIndex?;dsimp only;rw [if_neg (show ¬((j:Int) < 0) by omega),if_pos (by simp [hjl])];rfl
end
end
section
inductive Ext(T:Told)(d:Str):Told→Prop
 | same (h:∀x∈ag T,x∈T.map (·.1)):Ext T d T
 | one (hd:d∈ag T) (hn:d∉T.map (·.1)) (h:∀x∈ag T,x = d∨x∈T.map (·.1)):Ext T d (T++ [(d,[])])
theorem mh{ks:List Str}{x:Str}(h:x∈ks):bL ks x = ks:=by unfold bL;rw [if_pos h]
theorem iQ(T:Told)(d:Str):az (T++ [(d,[])])= az T++ [d]:=by
 unfold az;rw [List.flatMap_append];rfl
theorem Ext.mention{T T':Told}{d:Str}(e:Ext T d T'):ag T' = ag T:=by
 cases e with
 | same h=>rfl
 | one hd hn h=>
  show (az (T++ [(d,[])])).foldl bL [] = _;rw [iQ,List.foldl_append];exact mh hd
theorem e9{T:Told}{x:Str}(h:x∉T.map (·.1)):partsOf T x = []:=by
 unfold partsOf;have:(T.find? fun p=>decide (p.1 = x))= Option.none:=List.find?_eq_none.mpr fun p hp e=>h (of_decide_eq_true e▸List.mem_map_of_mem hp);rw [this];rfl
theorem Ext.parts{T T':Told}{d:Str}(e:Ext T d T')(x:Str):partsOf T' x = partsOf T x:=by
 cases e with
 | same h=>rfl
 | one hd hn h=>
  unfold partsOf;rw [List.find?_append];cases hf:T.find? fun p=>decide (p.1 = x) with
  | some p=>rfl
  | none=>
   by_cases hx:d = x
   ·rw [List.find?_cons,show decide (d = x)= true from decide_eq_true hx];rfl
   ·rw [List.find?_cons,show decide (d = x)= false from decide_eq_false hx];rfl
theorem Ext.tok{T T':Told}{d:Str}(e:Ext T d T')(hnd:(T.map (·.1)).Nodup):mW T':=by
 refine ⟨?_,fun x hx=>?_⟩
 ·cases e with
  | same h=>exact hnd
  | one hd hn h=>
   rw [List.map_append,List.nodup_append];refine ⟨hnd,List.pairwise_singleton _ _,fun a ha b hb=>?_⟩;have hb:=List.mem_singleton.mp hb;rintro rfl;rw [hb] at ha;exact hn ha
 ·rw [e.mention] at hx;cases e with
  | same h=>exact h x hx
  | one hd hn h=>
   rw [List.map_append];rcases h x hx with rfl | q
   ·exact aR _ (.head _)
   ·exact aL _ q
theorem Ext.start{T T':Told}{d:Str}(e:Ext T d T'):((az T).filter fun x=>(partsOf T x).isEmpty).foldl bL [] = startT T':=by
 have hp:(fun x=>(partsOf T' x).isEmpty)= fun x=>(partsOf T x).isEmpty:=funext fun x=>by rw [e.parts]
 show _ =((az T').filter fun x=>(partsOf T' x).isEmpty).foldl bL [];rw [hp];cases e with
 | same h=>rfl
 | one hd hn h=>
  rw [iQ,List.filter_append,List.foldl_append,List.filter_cons,List.filter_nil];have hdp:(partsOf T d).isEmpty = true:=by rw [e9 hn];rfl
  rw [hdp,if_pos rfl];refine (mh ?_).symm;have hm:d∈az T:=by
   have:=(gc (l:=az T) (ks:= []) (y:=d)).mp hd;exact this.elim (fun q=>by cases q) id
  exact gc.mpr (.inr (List.mem_filter.mpr ⟨hm,hdp⟩))
theorem Ext.pv{T T':Told}{d:Str}(e:Ext T d T'):bM T' = bM T:=by
 cases e with
 | same h=>rfl
 | one hd hn h=>
  unfold bM;rw [List.foldl_append];show aP d 0 (a5 d (bM T))= bM T;rw [eE (by rw [cw];exact hd)]
  unfold aP
  conv=>rhs;rw [← List.map_id (bM T)]
  refine List.map_congr_left fun p Z=>?_
  split
  ·show (p.1,p.2.1+0,p.2.2)= p;rw [Int.add_zero]
  ·rfl
theorem Ext.due{T T':Told}{d:Str}(e:Ext T d T'){v last:List Str}(hv:d∈Mine.ag T→d∉T.map (·.1)→d∈v):dW T' v last = dW T v last:=by
 cases e with
 | same h=>rfl
 | one hd hn h=>
  unfold dW;rw [List.zipIdx_append,List.filter_append,List.map_append,List.zipIdx_cons,List.zipIdx_nil,List.filter_cons,List.filter_nil];have:jl v (d,[])= false:=by unfold jl;rw [decide_eq_true (hv hd hn)];rfl
  rw [this,if_neg Bool.false_ne_true,List.map_nil,List.append_nil]
theorem Ext.nmK{T T':Told}{d:Str}(e:Ext T d T'){a:Nat×Nat}(h:a.2 < T.length):dB T' a = dB T a:=by
 cases e with
 | same h=>rfl
 | one hd hn h'=>
  unfold Mine.dB;rw [List.getElem?_append_left h]
theorem Ext.mem{T T':Told}{d:Str}(e:Ext T d T'){p:Str×List Str}(h:p∈T):p∈T':=by
 cases e with
 | same _=>exact h
 | one _ _ _=>exact aL _ h
theorem Ext.free{T T':Told}{d:Str}{o w:List Str}(e:Ext T d T')(c:OC T' o w)(hm:d∈Mine.ag T)(hn:d∉T.map (·.1)):d∈o++w:=by
 cases e with
 | same h=>exact absurd (h d hm) hn
 | one _ _ _=>exact c (d,[]) (aR _ (.head _)) fun q hq=>by cases hq
theorem pW{T:Told}(hnd:(T.map (·.1)).Nodup)(x:Str):(cU x (T.map (·.1)) (T.map fun p=>AV.lst (p.2.map .str))).getD .none = if x∈T.map (·.1) then .lst ((partsOf T x).map .str) else .none:=by
 by_cases h:x∈T.map (·.1)
 ·rw [if_pos h];obtain ⟨p,hp,rfl⟩:=mM h;rw [bG hnd hp];clear h
  induction T with
  | nil=>cases hp
  | cons a T iw=>
   rw [List.map_cons,List.nodup_cons] at hnd;rw [List.map_cons,List.map_cons,cB];rcases mC hp with rfl | hp
   ·rw [if_pos rfl];rfl
   ·rw [if_neg (fun e:a.1 = p.1=>hnd.1 (by rw [e];exact List.mem_map_of_mem hp))]
    exact iw hnd.2 hp
 ·rw [if_neg h];have:cU x (T.map (·.1)) (T.map fun p=>AV.lst (p.2.map .str))= Option.none:=aget_none h;rw [this];rfl
end
section
noncomputable def tupS(u:List Str):AV:= .tup (u.map .str)
noncomputable def Ba(l:List Str):AV→Bool
 | .str q=>decide (q∈l)
 | _=>false
noncomputable def s8(l:List Str):AV→Bool
 | .str q=>! decide (q∈l)
 | _=>false
noncomputable def Bf(l:List Str):AV→AV
 | .str q=> .int ((l.idxOf q:Nat):Int)
 | _=> .none
noncomputable def wa:AV→List AV
 | .tup l=>l
 | _=> []
noncomputable def vy:AV→Nat
 | .int i=>i.toNat
 | _=>0
noncomputable def Bg(T:Told)(a:AV):AV:= .str (dB T (0,vy ((wa a).getD 1 .none)))
theorem pT(ps v:List Str):(!(((ps.map AV.str).filter (s8 v)).map fun a=>a).isEmpty)= !(ps.all fun q=>decide (q∈v)):=by
 induction ps with
 | nil=>rfl
 | cons q ps ih=>
  rw [List.map_cons,List.filter_cons,List.all_cons]
  by_cases hq:q∈v
  ·rw [if_neg (show ¬(s8 v (.str q)= true) by show ¬((! decide (q∈v))= true);simp [hq]),ih,decide_eq_true hq,Bool.true_and]
  ·rw [if_pos (show s8 v (.str q)= true by show (! decide (q∈v))= true;simp [hq]),decide_eq_false hq,Bool.false_and];rfl
theorem qI(ps last:List Str):((ps.map AV.str).filter (Ba last)).map (Bf last)=(idxs last ps).map fun n:Nat=>AV.int (n:Int):=by
 unfold idxs;rw [List.filter_map,List.map_map,List.map_map];rfl
theorem nN(T:Told)(S:List (Nat×Nat)):(S.map dp).map (Bg T)=(S.map (dB T)).map AV.str:=by
 rw [List.map_map,List.map_map];rfl
theorem ql{T:Told}{k:Nat}{p:Str×List Str}(hp:T[k]? = some p)(v last:List Str):dW (T.take (k+1)) v last = dW (T.take k) v last++if jl v p = true then [(rz (idxs last p.2),k)] else []:=by
 have hk:=(gS hp).1;unfold dW;rw [List.take_add_one,hp,Option.toList_some,List.zipIdx_append,List.filter_append,List.map_append]
 congr 1
 rw [List.length_take,Nat.zero_add,Nat.min_eq_left (Nat.le_of_lt hk),List.zipIdx_cons,List.zipIdx_nil,List.filter_cons,List.filter_nil]
 split <;> rfl
theorem sx(T:Told)(v last:List Str):(dW T v last).length≤T.length:=by
 unfold dW;rw [lN];exact lT (List.length_filter_le _ _) (qE List.length_zipIdx)
theorem eP(T:Told)(k:Nat):(az (T.take k)).length≤(az T).length:=by
 conv=>rhs;rw [← List.take_append_drop k T]
 unfold az;rw [List.flatMap_append];simp
theorem pZ{l:List Str}{q:Str}:∀m,m < l.idxOf q→l[m]?≠some q:=fun m hm e=>by
 obtain ⟨h,e⟩:=gS e;have:=List.not_of_lt_findIdx hm;rw [e] at this;simp at this
theorem s9{T:Told}(ok:mW T){o last:List Str}(h:OI T o last)(c:OC T o last):(dW T (o++last) last).length =(fw T o last).length:=by
 rw [← lg T last o 0,lN];exact ((List.perm_ext_iff_of_nodup (eY _ _ _) (jt (gp T last o 0))).mpr (ou ok h c)).length_eq
noncomputable def allR(b:Bool)(T:Told):List (List Str):=bO b T ((ag T).length+1) [] (startT T)
inductive z6(hp0:Nat→Option AO)(T T':Told)(b:Bool)(i j:Nat)(n':Nat)(st':St):Prop
 | mk (o u:List Str) (rs:List (List Str)) (h1:st'.hp i = some (.list (o.map .str))) (h2:st'.hp j = some (.list (rs.map tupS))) (h3:∀k,k≠i→k≠j→st'.hp k = hp0 k) (h4:st'.loc "told" = some (.lst (T.map aD))) (h5:st'.loc "step" = some (.int (aY b))) (h6:st'.loc "over" = some (.ref i)) (h7:st'.loc "rounds" = some (.ref j)) (h8:st'.loc "group" = some (.lst (u.map .str))) (hO:OI T' o u) (hC:OC T' o u) (hr:rs++bO b T' n' o u = allR b T') (hl:(ag T').length < o.length+n') (hrl:rs.length≤o.length)
inductive z4(hp0:Nat→Option AO)(T:Told)(b:Bool)(i j d:Nat)(v last:List Str)(rs:List (List Str))(k:Nat)(st₂:St):Prop
 | mk (h1:st₂.hp i = some (.list (v.map .str))) (h2:st₂.hp j = some (.list (rs.map tupS))) (h3:∀k,k≠i→k≠j→k≠d→st₂.hp k = hp0 k) (hd:st₂.hp d = some (.list ((dW (T.take k) v last).map dp))) (h4:st₂.loc "told" = some (.lst (T.map aD))) (h5:st₂.loc "step" = some (.int (aY b))) (h6:st₂.loc "over" = some (.ref i)) (h7:st₂.loc "rounds" = some (.ref j)) (h8:st₂.loc "last" = some (.lst (last.map .str))) (h9:st₂.loc "due" = some (.ref d))
variable {w:World}{h₀:Heap}{os:OsState}{mg mb:Str→Option Value}{cx:Cx}{fm:Fm}{X:Value→St→Prop}{st:St}{Q:AV→St→Prop}
theorem Sub.sliceDirE{G:Gd}{value slice:PySem.Expr}{a:AV}{l l':List AV}{b:Bool}{ops:Value→Value→List Value}(hl:aM st a = some l)(hz:l.length≤sizeLine)(e:ib b l = l')(h:Q (.lst l') st)
  (hs:∀o i,subscripted slice false o i = PySem.operate (ops o i) (getItem o i)):cZ G cx fm X value slice a (.slc Option.none Option.none (some (aY b))) st Q:=Sub.sliceDir hl hz (by rw [e];exact h) hs
theorem u4{u:List Str}(h:u≠ []):(!(u.map AV.str).isEmpty)= true:=by
 cases u with
 | nil=>exact absurd rfl h
 | cons _ _=>rfl
theorem gB{b:Bool}{T:Told}{n m:Nat}{o u:List Str}(h:u≠ [])(e:n = m+1): [u]++bO b T m (o++gj b u) (fw T o (gj b u))= bO b T n o u:=by
 subst e;cases u with
 | nil=>exact absurd rfl h
 | cons _ _=>rfl
theorem qk{T T':Told}{dn:Str}{b:Bool}{n:Nat}(O:(gd w h₀ os mg mb).Ok)(hc:cx.calm = true)(hn:n+1≤cx.n)(E:Ext T dn T')(hnd:(T.map (·.1)).Nodup)(hz:(az T).length≤500)(hzT:T.length≤500)(hm6:(ag T).length≤6)
  (h:Q (.lst ((allR b T').map tupS)) st):
  aH (gd w h₀ os mg mb) cx fm X oK [.lst (T.map aD),.int (aY b)] st Q:=by
 have zl:(1000000:Nat)≤sizeLine:=by rw [sizeLine_eq];decide
 have ok:=E.tok hnd;rw [← E.mention] at hm6;have hml:(ag T').length≤500:=lT hm6 (by decide)
 refine Fun.go (n:=n) O (cA.of O rfl rfl rfl) hn (Bind.p2 (fun Z Y=>rfl)) fun env he=>?_;clear he;refine Ex.cons (an.asg (Ev.tuple (ah.cons ?_)) rfl rfl rfl);refine Ev.call (Ev.boot (v:= .type "dict") O ⟨_,rfl,aa.type _,aU.cons (ah.cons (Ev.own rfl (ah.nil (Cal.dictTold (T:=T) O hc hnd (by change vz) ?_))))⟩ (by kernel_rfl) (by kernel_rfl))
 refine ah.cons (Ev.listM (ah.nil ⟨Nat.zero_le _,fun i hi=>ah.cons (Ev.listM (ah.nil ⟨Nat.zero_le _,fun j hj=>ah.nil ⟨by show 3≤sizeLine;change zG,?_⟩⟩))⟩))
 refine Asg.tuple hc rfl rfl (Asg.name f9 (Asg.name f9 (Asg.name (.inl rfl) ?_)));refine Ex.cons (an.asg ?_ rfl rfl rfl);refine Ev.call (Ev.boot (v:= .type "list") O ⟨_,rfl,aa.type _,aU.cons (ah.cons (Ev.dictComp2F O hc (by decide) br ?_))⟩ (by kernel_rfl) (by kernel_rfl))
 refine Ev.own rfl ⟨_,_,Iter.lst (xs:=T.map aD) (lM (by change kE)),fun k hp b=>hp =((st.put i (.list [])).put j (.list [])).hp∧b = zk (((az (T.take k)).filter fun x=>(partsOf T x).isEmpty).foldl bL []),⟨rfl,rfl⟩,fun k loc hp b Z=>rfl,fun cenv it ad k x loc hp b hs hx hI=>?_,fun hp b hI=>?_⟩
 ·obtain ⟨rfl,rfl⟩:=hI;rw [gM] at hx;obtain ⟨p,hp,rfl⟩:=oM hx;refine Asg.tuple hc rfl rfl (Asg.name (.inl rfl) (Asg.name (.inl rfl) ?_));refine dq.nil ?_;refine bH rfl ?_;have hpT:p∈T:=mG hp;have hp2:p.2.length≤500:=by
   have:=d5 hpT
   change oD
  refine Aft.nest hc (eD _ _ _ _ _) rfl (fun Z Y=>rfl) (fun Z Y V=>kN _ _ _ _ _ _ _ _ _ _ _ _ _) (aft:=t7 _ _ _) ?_;refine Ev.binop (Ev.listF (ah.cons (Ev.loc rfl (ah.nil ⟨by show 1≤sizeLine;change ui,Ev.loc rfl ?_⟩))))
  refine Bin.addListF (l:= [.str p.1]) (l':=p.2.map .str) rfl rfl (by rw [lN];show 1+_≤_;change zc) ?_
  refine ⟨_,_,Iter.lst (xs:= [AV.str p.1]++p.2.map AV.str) (by show (p.2.map AV.str).length+1≤_;rw [lN];change AE),fun m st' b=>st'.hp =((st.put i (.list [])).put j (.list [])).hp∧b = zk ((((az (T.take k))++(p.1::p.2).take m).filter fun x=>(partsOf T x).isEmpty).foldl bL []),⟨rfl,by simp⟩,fun m st' b Z=>rfl,fun it' m y st' b hy hI=>?_,fun st' b hI=>?_⟩
  ·obtain ⟨h2,rfl⟩:=hI;have hy':((p.1::p.2).map AV.str)[m]? = some y:=hy;rw [gM] at hy';obtain ⟨o,ho,rfl⟩:=oM hy';have hpo:(partsOf T o).length≤500:=by
    by_cases hoT:o∈T.map (·.1)
    ·obtain ⟨q,hq,rfl⟩:=mM hoT;rw [bG hnd hq];have:=d5 hq
     change oD
    ·rw [e9 hoT];exact Nat.zero_le _
   refine Asg.name (.inl rfl) (dq.one (bj.not (bj.plain (Ev.mcall (Ev.outer (a:=hY T) (di rfl rfl rfl) ⟨.builtin "dict.get",_,aa.builtin _,Mth.dict PySem.F.slot_dict_get PySem.F.type_dict_get (ks:=T.map (·.1)) (l:=T.map fun p=> .lst (p.2.map .str)) rfl,aU.cons (ah.cons (Ev.loc rfl (ah.nil (Cal.dictGet O (ks:=T.map (·.1)) (l:=T.map fun p=> .lst (p.2.map .str)) rfl ?_))))⟩)))));rw [pW hnd];have hTru:∀{fm:Fm} {X:Value→St→Prop} {s0:St} {Q:Bool→St→Prop},Q (!(partsOf T o).isEmpty) s0→jU (gd w h₀ os mg mb) {n:=n,calm:=cx.calm} fm X (if o∈T.map (·.1) then AV.lst ((partsOf T o).map .str) else .none) s0 Q:=fun hq=>by
    by_cases hoT:o∈T.map (·.1)
    ·rw [if_pos hoT];refine Tru.list (l:=(partsOf T o).map .str) rfl (lM (oS hpo zl (by rfl))) ?_
     rw [show ((partsOf T o).map AV.str).isEmpty =(partsOf T o).isEmpty by cases partsOf T o <;> rfl]
     exact hq
    ·rw [if_neg hoT];rw [e9 hoT] at hq;exact Tru.none hq
   refine hTru ?_;have hb:(!(!(partsOf T o).isEmpty))=(partsOf T o).isEmpty:=Bool.not_not _;unfold uX;dsimp only;rw [hb]
   by_cases hpe:(partsOf T o).isEmpty = true
   ·refine bH hpe ?_;refine Aft.emitD rfl (Ev.loc rfl ⟨o,rfl,Ev.cint ⟨?_,h2,?_⟩⟩)
    ·have:=eA (l:=((az (T.take k))++(p.1::p.2).take m).filter fun x=>(partsOf T x).isEmpty) (ks:= []);show (List.foldl bL [] _).length≤sizeLine;have h5:=eP T k;have h6:=List.length_filter_le (fun x=>(partsOf T x).isEmpty) ((az (T.take k))++(p.1::p.2).take m);rw [List.length_append] at h6;exact wd this h6 (lT h5 hz) (List.length_take_le' _ _) hp2 zl
    ·rw [qZ,List.take_add_one,ho];simp only [Option.toList_some,← List.append_assoc,List.filter_append (l₁:=az (T.take k)++(p.1::p.2).take m),List.filter_cons,List.filter_nil,hpe,if_true,List.foldl_append,List.foldl_cons,List.foldl_nil]
   ·rw [Bool.not_eq_true] at hpe;refine bN hpe ?_;refine ⟨h2,?_⟩;rw [List.take_add_one,ho];simp only [Option.toList_some,← List.append_assoc,List.filter_append (l₁:=az (T.take k)++(p.1::p.2).take m),List.filter_cons,List.filter_nil,hpe,List.foldl_append,List.foldl_nil];simp
  ·obtain ⟨h2,rfl⟩:=hI;refine ⟨h2,?_⟩;rw [List.take_add_one,hp];simp [az,List.flatMap_append,List.foldl_append]
 obtain ⟨rfl,rfl⟩:=hI;rw [lN,List.take_length,E.start];refine (ah.nil ?_:ah _ _ _ _ _ _ _ _);have hsl:(startT T').length≤500:=by
  rw [d7];exact lT (List.length_filter_le _ _) hml
 refine Cal.listKeys (ks:=startT T') O hc rfl (by change kE) ?_
 refine Asg.name (.inl rfl) ?_;have hj0:(if j = i then some (AO.list []) else st.hp j)= Option.none:=hj;have hji:j≠i:=fun e=>by rw [if_pos e] at hj0;cases hj0
 have hjn:st.hp j = Option.none:=(if_neg hji).symm.trans hj0;refine Ex.cons (an.while_ (z6 st.hp T T' b i j) ((ag T').length+1) ⟨[],startT T',[],?_,if_pos rfl,fun k hk hk2=>?_,rfl,rfl,rfl,rfl,rfl,OI.start,OC.start ok,rfl,by show _ < 0+_;change k9,Nat.le_refl _⟩ ?_)
 ·exact (if_neg (Ne.symm hji)).trans (if_pos rfl)
 ·show (if k = j then _ else (if k = i then _ else _))= _;rw [if_neg hk2,if_neg hk]
 rintro n' st' ⟨o,u,rs,h1,h2,h3,l1,l2,l3,l4,l5,hO,hC,hr,hl,hrl⟩;have hlen:=hO.len;rw [List.length_append] at hlen;refine bj.plain (Ev.loc l5 (Tru.list (l:=u.map .str) rfl (lM (by change Aw)) ?_))
 by_cases hue:u = []
 ·rw [hue] at hr;refine bN (by rw [hue];rfl) ?_
  refine Ex.nil (Ex.cons (an.ret (J.forget (J.freeze (Ev.loc l4 ⟨j,_,rfl,h2,st.hp,fun k ao e=>?_,?_⟩)))))
  ·have hkj:k≠j:=fun e'=>by rw [e',hjn] at e;cases e
   have hki:k≠i:=fun e'=>by rw [e',hi] at e;cases e
   show (if k = j then _ else st'.hp k)= _;rw [if_neg hkj,h3 k hki hkj];exact e
  ·have:bO b T' n' o [] = []:=by cases n' <;> rfl
   rw [this,List.append_nil] at hr;rw [hr];exact h
 have hu0:0 < u.length:=List.length_pos_iff.mpr hue;refine bH (u4 hue) ?_;obtain ⟨last,hlast⟩:∃l,gj b u = l:=⟨_,rfl⟩;have hper:last.Perm u:=hlast▸dk b u;have hO1:=hO.perm hper;have hC1:=hC.perm hper;have hn1:n' =(n' - 1)+1:=vP hu0 hl hlen;have hl1:=Nat.lt_of_lt_of_eq hl (congrArg (o.length+·) hn1);have hr1:(rs++ [u])++bO b T' (n' - 1) (o++last) (fw T' o last)= allR b T':=by
  rw [← hlast,← hr,List.append_assoc];exact congrArg (rs++·) (gB hue hn1)
 have hlu:last.length = u.length:=hper.length_eq;have hl6:last.length≤6∧1≤last.length:=⟨lT (qE hlu) (lT (Nat.le_add_left _ _) (lT hlen hm6)),lT hu0 (qE hlu.symm)⟩;have hO2:=OI.doneL ok last (v:= []) (o:=o) (by rw [List.append_nil];exact hO1)
 have hC2:=OC.doneL last (v:= []) (o:=o) (T:=T') (by rw [List.append_nil];exact hC1)
 rw [List.nil_append] at hO2 hC2;refine Ex.cons (an.expr (Ev.mcall (Ev.loc l4 ⟨.builtin "list.append",_,aa.builtin _,Mth.list PySem.F.slot_list_append PySem.F.type_list_append (ai h2),aU.cons (ah.cons (Ev.call (Ev.boot (v:= .type "tuple") O ⟨_,rfl,aa.type _,aU.cons (ah.cons (Ev.loc l5 (ah.nil (Cal.tuple (l:=u.map .str) rfl (lM (by change x7)) (ah.nil ?_)))))⟩ (by kernel_rfl) (by kernel_rfl))))⟩)))
 refine Cal.append h2 (lM (by change zi)) ?_
 refine Ex.cons (an.asg (Ev.tuple (ah.cons (Ev.sub (Ev.loc l5 (Ev.slice (b4.none (b4.none (b4.some (Ev.loc l2 ⟨_,rfl,?_⟩))))))))) rfl rfl rfl);refine Sub.sliceDirE (l:=u.map .str) (l':=last.map .str) rfl (lM (by change x7)) (by rw [iX,← hlast];rfl) ?_ (fun Z Y=>rfl)
 refine ah.cons (Ev.listM (ah.nil ⟨Nat.zero_le _,fun d hd=>ah.nil ⟨by show 2≤sizeLine;change t9,Asg.tuple hc rfl rfl (Asg.name f9 (Asg.name (.inl rfl) ?_))⟩⟩))
 have hd0:(if d = j then some (AO.list (rs.map tupS++ [.tup (u.map .str)])) else st'.hp d)= Option.none:=hd;have hdj:d≠j:=fun e=>by rw [if_pos e] at hd0;cases hd0
 have hdn:st'.hp d = Option.none:=(if_neg hdj).symm.trans hd0;have hdi:d≠i:=fun e=>by rw [e,h1] at hdn;cases hdn
 have g1:(if i = d then some (AO.list []) else if i = j then some (AO.list (rs.map tupS++ [.tup (u.map .str)])) else st'.hp i)= some (.list (o.map .str)):=by
  exact (if_neg (Ne.symm hdi)).trans ((if_neg (Ne.symm hji)).trans h1)
 refine Ex.cons (an.augName f9 (jP rfl (lH rfl) l3 (Ev.own rfl (IBin.addList g1 rfl (by rw [lN,lN];change zK) ?_))))
 have hvl:(o++last).length≤6:=by
  have:=hO2.len;rw [List.length_append] at this;change zj
 refine Ex.cons (an.forEnum hc (Ev.boot (v:= .type "enumerate") O ⟨rfl,aU.cons (ah.cons (Ev.own l1 (ah.nil ⟨_,rfl,rfl,by rw [lN];change kE,z4 st.hp T b i j d (o++last) last (rs++ [u]),⟨?_,?_,fun k k1 k2 k3=>?_,?_,l1,l2,rfl,l4,rfl,rfl⟩,fun k st₂ hI=>?_,fun k x st₂ hx hI=>?_,fun st₂ hI=>?_⟩)))⟩ (by kernel_rfl) (by kernel_rfl)))
 ·show (if i = i then _ else _)= _;rw [if_pos rfl,List.map_append]
 ·show (if j = i then _ else (if j = d then _ else (if j = j then _ else _)))= _;rw [if_neg hji,if_neg (Ne.symm hdj),if_pos rfl,List.map_append];rfl
 ·exact (if_neg k1).trans ((if_neg k3).trans ((if_neg k2).trans (h3 k k1 k2)))
 ·exact (if_neg hdi).trans (if_pos rfl)
 ·obtain ⟨_,_,_,_,m1,_⟩:=hI;rfl
 ·obtain ⟨g1,g2,g3,gd,m1,m2,m3,m4,m5,m6⟩:=hI;rw [gM] at hx;obtain ⟨p,hpk,rfl⟩:=oM hx;have hpT:p∈T:=mG hpk;have hkT:k < T.length:=(gS hpk).1;have hp2:p.2.length≤500:=by have:=d5 hpT;change oD
  have hsn:=ql hpk (o++last) last;refine Asg.tuple hc rfl rfl (Asg.name (.inl rfl) (Asg.tuple hc rfl rfl (Asg.name (.inl rfl) (Asg.name (.inl rfl) ?_))));have fin0:jl (o++last) p = false→st₂.hp d = some (.list ((dW (T.take (k+1)) (o++last) last).map dp)):=fun e=>by rw [hsn,e,if_neg Bool.false_ne_true,List.append_nil];exact gd
  refine Ex.cons (an.if_ (bj.boolop (aE.and (bj.cmp (Ev.loc rfl (Ev.own m3 (Cmp.notInStrs (ys:=o++last) (ai g1) (Tru.bool ?_))))))))
  by_cases hin:p.1∈o++last
  ·have e:(! decide (p.1∈o++last))= false:=by rw [decide_eq_true hin];rfl
   refine bN e ?_;exact Ex.nil (Ex.nil ⟨g1,g2,g3,fin0 (by unfold jl;rw [e];rfl),m1,m2,m3,m4,m5,m6⟩)
  ·have e:(! decide (p.1∈o++last))= true:=by rw [decide_eq_false hin];rfl
   refine bH e ?_;refine aE.and (bj.not (bj.plain (Ev.listCompF hc (by decide) br (Ev.loc rfl ?_))))
   refine Comp.filter (p:=s8 (o++last)) (f:=fun a=>a) (Iter.lst (xs:=p.2.map .str) (lM (by change kE))) (fun Z=>rfl) (lM (by change kE)) (fun cenv' k' a' loc' hs' ha'=>?_) ?_
   ·rw [gM] at ha';obtain ⟨q,hq,rfl⟩:=oM ha';exact Asg.name (.inl rfl) (bj.cmp (Ev.loc rfl (Ev.outer (a:= .ref i) (di rfl rfl m3) (Cmp.notInStrs (ys:=o++last) (ai g1) (Tru.bool ⟨rfl,rfl,fun Z=>Ev.loc rfl ⟨rfl,rfl⟩⟩)))))
   ·refine Tru.list rfl ?_ ?_
    ·rw [lN];refine lT (List.length_filter_le _ _) ?_;rw [lN];change kE
    ·unfold uX;dsimp only;rw [pT,Bool.not_not];cases hall:(p.2.all fun q=>decide (q∈o++last)) with
     | false=>
      refine bN rfl ?_;exact Ex.nil (Ex.nil ⟨g1,g2,g3,fin0 (by unfold jl;rw [e,hall];rfl),m1,m2,m3,m4,m5,m6⟩)
     | true=>
      refine bH rfl ?_;refine aE.andNil ?_;refine bH rfl ?_;have hall':∀q∈p.2,q∈o++last:=fun q hq=>of_decide_eq_true (List.all_eq_true.mp hall q hq);obtain ⟨q0,hq0,hql0⟩:=kZ ok hO1 hC1 (E.mem hpT) hin hall';have hidx:idxs last p.2≠ []:=List.ne_nil_of_mem (ds.mpr ⟨q0,hq0,hql0,rfl⟩);refine Ex.cons (an.expr (Ev.mcall (Ev.loc m6 ⟨.builtin "list.append",_,aa.builtin _,Mth.list PySem.F.slot_list_append PySem.F.type_list_append (ai gd),aU.cons (ah.cons (Ev.tuple (ah.cons ?_)))⟩)));refine Ev.call (Ev.boot (v:= .builtin "max") O ⟨_,rfl,aa.builtin _,aU.cons (ah.cons (Ev.listCompF hc (by decide) br (Ev.loc rfl ?_)))⟩ (by kernel_rfl) (by kernel_rfl))
      refine Comp.filter (p:=Ba last) (f:=Bf last) (Iter.lst (xs:=p.2.map .str) (lM (by change kE))) (fun Z=>rfl) (lM (by change kE)) (fun cenv' k' a' loc' hs' ha'=>?_) ?_
      ·rw [gM] at ha';obtain ⟨q,hq,rfl⟩:=oM ha';refine Asg.name (.inl rfl) (bj.cmp (Ev.loc rfl (Ev.outer (a:= .lst (last.map .str)) (di rfl rfl m5) (Cmp.inStrs (ys:=last) rfl (Tru.bool ⟨rfl,rfl,fun hq'=>?_⟩)))));have hqm:q∈last:=of_decide_eq_true hq';have hix:=List.idxOf_lt_length_iff.mpr hqm;exact Ev.mcall (Ev.outer (a:= .lst (last.map .str)) (di rfl rfl m5) ⟨.builtin "list.index",_,aa.builtin _,Mth.list PySem.F.slot_list_index PySem.F.type_list_index rfl,aU.cons (ah.cons (Ev.loc rfl (ah.nil (Cal.index (ys:=last) (j:=last.idxOf q) rfl (by rw [gE hix,List.getElem_idxOf hix]) pZ (oS hl6.1 zl rfl) ⟨rfl,rfl⟩))))⟩)
      ·rw [qI];refine ah.nil (Cal.max hc rfl hidx fun mm hmm hmx=>?_);have hmxe:rz (idxs last p.2)= mm:=qW hmm hmx;have hdc:jl (o++last) p = true:=by unfold jl;rw [e,hall];rfl
       rw [hdc,if_pos rfl,hmxe] at hsn;have hdl:=sx (T.take k) (o++last) last;rw [List.length_take] at hdl;refine ah.cons (Ev.loc rfl (ah.nil ⟨by show 2≤sizeLine;change t9,ah.nil (Cal.append gd (lM (oS (lT hdl (lT (Nat.min_le_right _ _) hzT)) zl rfl)) (Ex.nil (Ex.nil ⟨?_,?_,fun k' k1 k2 k3=>?_,?_,m1,m2,m3,m4,m5,m6⟩)))⟩))
       ·exact (if_neg (Ne.symm hdi)).trans g1
       ·exact (if_neg (Ne.symm hdj)).trans g2
       ·exact (if_neg k3).trans (g3 k' k1 k2 k3)
       ·show (if d = d then _ else _)= _;rw [if_pos rfl,hsn,List.map_append];rfl
 ·obtain ⟨g1,g2,g3,gd,m1,m2,m3,m4,m5,m6⟩:=hI;rw [lN,List.take_length] at gd;refine Ex.nil (Ex.freezeLoc (x:= "due") (.inl rfl) m6 gd ?_);have hdv:=E.due (last:=last) (E.free hC1);have hdl:=s9 ok hO1 hC1;rw [hdv] at hdl;have h2l:=hO2.len;rw [List.length_append,List.length_append] at h2l;refine Ex.cons (an.asgCompF hc (.inl rfl) (by decide) br (Ev.call (Ev.boot (v:= .builtin "sorted") O ⟨_,rfl,aa.builtin _,aU.cons (ah.cons (Ev.loc rfl (ah.nil (Cal.sortedPairs (K:=dW T (o++last) last) rfl (eY _ _ _) (A6 h2l hm6 hl6.2 hdl) fun S pm ps=>?_))))⟩ (by kernel_rfl) (by kernel_rfl))) rfl)
  have hSl:(S.map dp).length≤sizeLine:=by rw [lN,pm.length_eq,hdl];exact oS (lT (lT (Nat.le_add_left _ _) h2l) hml) zl rfl
  refine Comp.mapE (xs:=S.map dp) (ys:=(S.map (dB T)).map .str) (f:=Bg T) (Iter.lst hSl) (fun Z=>rfl) hSl (nN T S) (fun cenv' k' a' loc' hs' ha'=>?_) ?_
  ·rw [gM] at ha';obtain ⟨z,hz',rfl⟩:=oM ha';obtain ⟨p,hp,_⟩:=ig.mp (pm.mem_iff.mp (mG hz'));have hi:idx (z.2:Int) (T.map aD).length = z.2:=by unfold idx;rw [if_neg (by with_reducible exact fun Z=>uF ‹_›)]
   refine Asg.tuple hc rfl rfl (Asg.name (.inl rfl) (Asg.name (.inl rfl) ?_));refine Ev.sub (Ev.sub (Ev.outer (a:= .lst (T.map aD)) (di rfl rfl m1) (Ev.loc rfl (Sub.lst (l:=T.map aD) (x:=aD p) rfl (by rw [hi];change u8) (by rw [hi,Int.toNat_natCast,gM,hp];rfl) (lM (by change kE)) (Ev.cint (Sub.tupAt (j:=0) rfl (by decide) ⟨?_,rfl⟩))))))
   show AV.str p.1 = .str (((T[(z.2:Int).toNat]?).map (·.1)).getD _);rw [Int.toNat_natCast,hp];rfl
  ·have enm:S.map (dB T)= S.map (dB T'):=List.map_congr_left fun a ha=>by
    obtain ⟨p,hp,_⟩:=ig.mp (pm.mem_iff.mp ha);exact (E.nmK (gS hp).1).symm
   rw [enm,qa ok hO1 hC1 (hdv.symm▸pm) ps];refine Ex.nil ⟨n' - 1,Nat.lt_of_lt_of_eq (Nat.lt_succ_self _) hn1.symm,o++last,fw T' o last,rs++ [u],?_,?_,fun k k1 k2=>?_,m1,m2,m3,m4,rfl,hO2,hC2,hr1,?_,?_⟩
   ·exact (if_neg (Ne.symm hdi)).trans g1
   ·exact (if_neg (Ne.symm hdj)).trans g2
   ·show (if k = d then _ else st₂.hp k)= _
    by_cases k3:k = d
    ·rw [if_pos k3,k3,← h3 d hdi hdj];exact hdn.symm
    ·exact (if_neg k3).trans (g3 k k1 k2 k3)
   ·rw [List.length_append];change z5
   ·rw [List.length_append,List.length_append];show rs.length+1≤_;change Ab
end
section
inductive ff:Nat→AV→Prop
 | none {n:Nat}:ff n .none
 | bool {n:Nat} (b:Bool):ff n (.bool b)
 | int {n:Nat} (i:Int):ff n (.int i)
 | str {n:Nat} (x:Str):ff n (.str x)
 | lst {n:Nat} {l:List AV} (h:∀x∈l,ff n x):ff (n+1) (.lst l)
 | tup {n:Nat} {l:List AV} (h:∀x∈l,ff n x):ff (n+1) (.tup l)
theorem ff.strs{n:Nat}{ys:List Str}:∀x∈ys.map AV.str,ff n x:=fun x hx=>by
 obtain ⟨y,_,rfl⟩:=mM hx;exact .str y
section
variable {G:Gd}{cx:Cx}{fm:Fm}{X:Value→St→Prop}{W₀ W:Wd}{st:St}{s:Shared}{Q:AV→St→Prop}
theorem all_true(n:Nat):(List.range n).all (fun Z=>true)= true:=List.all_eq_true.mpr fun Z Y=>rfl
theorem ff.items{l:List AV}{vs us:List Value}{A:Around}(rs:au G W l vs)(rs':au G W l us)(ih:∀x∈l,∀{v u:Value},RV G W x v→RV G W x u→SeqAt.EqAt A s v u true):∀j (h1:j < vs.toArray.size) (h2:j < us.toArray.size),SeqAt.EqAt A s vs.toArray[j] us.toArray[j] true:=fun j h1 h2=>by
 have h1':j < vs.length:=by simpa using h1
 obtain ⟨x,hx,rx⟩:=rs.get' (gE h1');obtain ⟨y,hy,ry⟩:=rs'.get hx;have hy':=(gS hy).2;have:=ih x (mG hx) rx ry;simpa [hy'] using this
theorem ff.eq(R:Rep G W fm st s){n:Nat}{a:AV}(h:ff n a):∀{A:Around} {v u:Value},RV G W a v→RV G W a u→A.units+n < cLine→SeqAt.EqAt A s v u true:=by
 induction h with
 | none=>intro A v u rv ru _;obtain rfl:=rv;obtain rfl:=ru;exact .same _
 | bool b=>intro A v u rv ru _;obtain rfl:=rv;obtain rfl:=ru;exact .same _
 | int i=>intro A v u rv ru _;obtain ⟨t,rfl⟩:=rv;obtain ⟨t',rfl⟩:=ru;have:=SeqAt.EqAt.int_int (A:=A) (s:=s) i t i t';rwa [beq_self_eq_true] at this
 | str x=>intro A v u rv ru _;obtain ⟨t,rfl⟩:=rv;obtain ⟨t',rfl⟩:=ru;have:=SeqAt.EqAt.str_str (A:=A) (s:=s) x t x t';rwa [beq_self_eq_true] at this
 | lst h ih=>
  intro A v u rv ru hu;obtain ⟨p,vs,n,rfl,hL,rs⟩:=R.lst rv rfl;obtain ⟨q,us,n',rfl,hL',rs'⟩:=R.lst ru rfl
  by_cases e:p = q
  ·subst e;exact .same _
  ·have:=SeqAt.RcAt.lists (A:=A) (e:=fun Z=>true) hL.isList hL'.isList (by rw [List.size_toArray,List.size_toArray,← rs.length,← rs'.length]) (by change xV) (ff.items rs rs' fun x hx Z Y r1 r2=>ih x hx r1 r2 (by rw [Around.in1_units];change ye))
   rw [all_true] at this;exact .of_refs e this
 | tup h ih=>
  intro A v u rv ru hu;obtain ⟨p,vs,n,rfl,hL,rs⟩:=R.tup rv;obtain ⟨q,us,n',rfl,hL',rs'⟩:=R.tup ru
  by_cases e:p = q
  ·subst e;exact .same _
  ·have:=SeqAt.RcAt.tuples (A:=A) (e:=fun Z=>true) ⟨_,hL,rfl,n,rfl⟩ ⟨_,hL',rfl,n',rfl⟩ (by change xV) (ff.items rs rs' fun x hx Z Y r1 r2=>ih x hx r1 r2 (by rw [Around.in1_units];change ye))
   rw [all_true,List.size_toArray,List.size_toArray,← rs.length,← rs'.length,beq_self_eq_true] at this;exact .of_refs e this
theorem Cmp.neTup{l:List AV}{n:Nat}(hd:∀x∈l,ff n x)(hn:n≤20)(h:Q (.bool false) st):dH G cx fm X .NotEq (.tup l) (.tup l) st Q:=by
 intro W₀ v u rv ru W s A hA hW hR hT;obtain ⟨p,vs,m,rfl,hL,rs⟩:=hR.tup (rv.mono hW);obtain ⟨q,us,m',rfl,hL',rs'⟩:=hR.tup (ru.mono hW);have hu:=hA.units;refine SeqAt.RcNeAt.tuples (e:=fun Z=>true) ⟨_,hL,rfl,m,rfl⟩ ⟨_,hL',rfl,m',rfl⟩ (by change pe) (ff.items rs rs' fun x hx Z Y r1 r2=>(hd x hx).eq hR r1 r2 (by rw [Around.in1_units];change vg)) _ _ _ _ ⟨W,st,.bool false,.refl _,hR,?_,h⟩
 rw [all_true,List.size_toArray,List.size_toArray,← rs.length,← rs'.length,beq_self_eq_true];rfl
theorem Cmp.eqTup{l:List AV}{n:Nat}(hd:∀x∈l,ff n x)(hn:n≤20)(h:Q (.bool true) st):dH G cx fm X .Eq (.tup l) (.tup l) st Q:=by
 intro W₀ v u rv ru W s A hA hW hR hT;obtain ⟨p,vs,m,rfl,hL,rs⟩:=hR.tup (rv.mono hW);obtain ⟨q,us,m',rfl,hL',rs'⟩:=hR.tup (ru.mono hW);have hu:=hA.units;refine SeqAt.RcAt.tuples (e:=fun Z=>true) ⟨_,hL,rfl,m,rfl⟩ ⟨_,hL',rfl,m',rfl⟩ (by change pe) (ff.items rs rs' fun x hx Z Y r1 r2=>(hd x hx).eq hR r1 r2 (by rw [Around.in1_units];change vg)) _ _ _ _ ⟨W,st,.bool true,.refl _,hR,?_,h⟩
 rw [all_true,List.size_toArray,List.size_toArray,← rs.length,← rs'.length,beq_self_eq_true];rfl
end
end
section
noncomputable def bk:Bool→List Nat→List Nat
 | _,[]=> []
 | b,c::r=>if c = 13 then 10::bk true r else if c = 10 then (if b then bk false r else 10::bk false r) else c::bk false r
theorem kD(b:Bool)(c:Nat)(r:List Nat):bk b (c::r)= if c = 13 then 10::bk true r else if c = 10 then (if b then bk false r else 10::bk false r) else c::bk false r:=rfl
noncomputable def aK:List Nat→List (List Nat)
 | []=> [[]]
 | c::r=>if c = 10 then []::aK r else match aK r with | h::t=>(c::h)::t | []=> [[c]]
theorem dv(c:Nat)(r:List Nat):aK (c::r)= if c = 10 then []::aK r else match aK r with | h::t=>(c::h)::t | []=> [[c]]:=rfl
noncomputable def cn(x:List Nat):List (List Nat):=if (aK (bk false x)).getLast? = some [] then (aK (bk false x)).dropLast else aK (bk false x)
noncomputable def q1(r:List Nat):List Nat:=if r.head? = some 46 then 46::r else r
noncomputable def joinR(rows:List (List Nat)):List Nat:=rows.flatMap (·++ [13,10])
noncomputable def cz:List (List Nat)→List Nat
 | []=> []
 | [r]=>r
 | r::s::t=>r++ [13,10]++cz (s::t)
noncomputable def expand(l:List Nat):List Nat:=l.flatMap fun c=>if c = 10 then [13,10] else [c]
theorem eH(l:List Nat):aK l≠ []:=by
 cases l with
 | nil=>exact List.cons_ne_nil _ _
 | cons c r=>
  rw [dv]
  split
  ·simp
  ·split <;> simp
set_option tactic.hygienic true in
theorem kI:∀(l:List Nat) (b:Bool),fixF b l = expand (bk b l):=by
 intro zl
 induction zl with
 | nil=>
  intro b;cases b <;> rfl
 | cons c r ih=>
  intro b;rw [ei,kD]
  split
  ·rw [ih true];rfl
  ·rename_i h13
   split
   ·split
    ·exact ih false
    ·rw [ih false];rfl
   ·rename_i h10;rw [ih false];simp [expand,h10]
theorem c4{r:List Nat}{rs:List (List Nat)}(h:rs≠ []):cz (r::rs)= r++ [13,10]++cz rs:=by
 cases rs with
 | nil=>exact absurd rfl h
 | cons s t=>rfl
theorem ll{c:Nat}{r:List Nat}{rs:List (List Nat)}:cz ((c::r)::rs)= c::cz (r::rs):=by
 cases rs with
 | nil=>rfl
 | cons s t=>rfl
theorem dS:∀l:List Nat,expand l = cz (aK l)
 | []=>rfl
 | c::r=>by
  have ih:=dS r;rw [dv]
  by_cases h:c = 10
  ·rw [if_pos h,c4 (eH r),← ih];simp [expand,h]
  ·rw [if_neg h];have hn:=eH r;cases hs:aK r with
   | nil=>exact absurd hs hn
   | cons a t=>
    dsimp only;rw [ll,← hs,← ih];simp [expand,h]
noncomputable def Clean(r:List Nat):Prop:=∀c∈r,c≠10∧c≠13
set_option tactic.hygienic true in
theorem o5:∀(l:List Nat) (b:Bool),∀c∈bk b l,c≠13:=by
 intro zl
 induction zl with
 | nil=>
  intro _ c h;cases h
 | cons d r ih=>
  intro b c h;rw [kD] at h
  split at h
  ·rcases mC h with rfl | h
   ·decide
   ·exact ih _ c h
  ·rename_i h13
   split at h
   ·split at h
    ·exact ih _ c h
    ·rcases mC h with rfl | h
     ·decide
     ·exact ih _ c h
   ·rcases mC h with rfl | h
    ·exact h13
    ·exact ih _ c h
set_option tactic.hygienic true in
theorem dF:∀(l:List Nat),(∀c∈l,c≠13)→∀r∈aK l,Clean r
 | [],_,r,h=>by have h:=List.mem_singleton.mp h;subst h;intro c hc;cases hc
 | d::l,hl,r,h=>by
  have ih:=dF l fun c hc=>hl c (.tail _ hc);rw [dv] at h
  split at h
  ·rcases mC h with rfl | h
   ·intro c hc;cases hc
   ·exact ih r h
  ·rename_i h10;cases hs:aK l with
   | nil=>exact absurd hs (eH l)
   | cons a t=>
    rw [hs] at h ih;dsimp only at h;rcases mC h with rfl | h
    ·intro c hc;rcases mC hc with rfl | hc
     ·exact ⟨h10,hl _ (.head _)⟩
     ·exact ih a (.head _) c hc
    ·exact ih r (.tail _ h)
theorem nF(x:List Nat):∀r∈cn x,Clean r:=by
 have h:=dF (bk false x) (o5 x false);unfold cn
 split
 ·exact fun r hr=>h r (List.dropLast_subset _ hr)
 ·exact h
theorem lX:∀(r:List Nat) (t:List Nat),Clean r→aZ false (r++t)= r++(if r = [] then aZ false t else aZ false t)
 | [],t,_=>by simp
 | c::r,t,h=>by
  have ih:=lX r t fun d hd=>h d (.tail _ hd);simp only [ite_self] at ih ⊢;rw [List.cons_append,dI,if_neg (by simp)]
  rw [show (c == 10)= false from beq_false_of_ne (h c (.head _)).1,ih];rfl
theorem jH(r t:List Nat)(h:Clean r):aZ false (r++t)= r++aZ false t:=by
 have:=lX r t h;simpa using this
theorem i5(r t:List Nat)(h:Clean r)(ht:∀c s,t = c::s→c≠46):aZ true (r++t)= q1 r++aZ false t:=by
 cases r with
 | nil=>
  simp only [List.nil_append,q1,List.head?_nil,reduceCtorEq,if_false];cases t with
  | nil=>rfl
  | cons c s=>
   have:=ht c s rfl;rw [dI,dI,if_neg (by simp [this]),if_neg (by simp)]
 | cons c r=>
  rw [List.cons_append,dI];have hr:Clean r:=fun d hd=>h d (.tail _ hd)
  by_cases hc:c = 46
  ·rw [if_pos ⟨rfl,hc⟩,jH r t hr];simp [q1,hc]
  ·rw [if_neg (by simp [hc]),show (c == 10)= false from beq_false_of_ne (h c (.head _)).1,jH r t hr]
   simp [q1,hc]
theorem p0(t:List Nat):aZ false (13::10::t)= 13::10::aZ true t:=by
 rw [dI,if_neg (by simp),dI,if_neg (by simp)];rfl
theorem gJ:∀rows:List (List Nat),(∀r∈rows,Clean r)→aZ true (cz rows)= cz (rows.map q1)
 | [],_=>rfl
 | [r],h=>by
  have:=i5 r [] (h r (.head _)) (fun c s e=>by cases e)
  simpa [cz,aZ] using this
 | r::s::t,h=>by
  have ih:=gJ (s::t) fun x hx=>h x (.tail _ hx);rw [List.map_cons,c4 (r:=r) (rs:=s::t) (by simp),c4 (r:=q1 r) (rs:=(s::t).map q1) (by simp),List.append_assoc,i5 r _ (h r (.head _)) (fun c s e=>by simp at e;omega),← ih]
  show q1 r++aZ false (13::10::cz (s::t))= _;rw [p0];simp
end
section
open PySem.StrLaws PySem.Builtin PySem.Builtin.Str
noncomputable def cS:Nat→List Nat→List Nat
 | 0,_=> []
 | n+1,l=>match l with
  | []=> []
  | c::r=>if c = 13∧r.head? = some 10 then 10::cS n r.tail else c::cS n r
theorem eG(n:Nat):cS n [] = []:=by cases n <;> rfl
theorem cb(n c:Nat)(r:List Nat):cS (n+1) (c::r)= if c = 13∧r.head? = some 10 then 10::cS n r.tail else c::cS n r:=rfl
theorem at2(x:Str)(k:Nat):At x ⟨#[13,10]⟩ x.length k ↔x.cps.toList[k]? = some 13∧x.cps.toList[k+1]? = some 10:=by
 unfold At;rw [subAt_eq];show k+2≤x.length∧((x.cps.toList.drop k).take 2 == [13,10])= true ↔_;rw [beq_iff_eq];have hlen:x.length = x.cps.toList.length:=by simp [Str.length]
 constructor
 ·rintro ⟨h1,h2⟩;have a:=congrArg (fun l=>l[0]?) h2;have b:=congrArg (fun l=>l[1]?) h2;simp [List.getElem?_take,List.getElem?_drop] at a b;simp;exact ⟨a,b⟩
 ·rintro ⟨h1,h2⟩;have hk:k+1 < x.cps.toList.length:=(gS h2).1;refine ⟨by change xk,?_⟩
  rw [List.drop_eq_getElem_cons (by change Nat.lt_of_succ_lt),List.drop_eq_getElem_cons hk]
  have e1:=(gS h1).2;have e2:=(gS h2).2;rw [e1,e2];rfl
theorem eg(x:Str)(a b:Nat):(strSub x a b).cps.toList =(x.cps.toList.drop a).take (b - a):=strSub_toList x a b
theorem join_cons(z p:Str){rest:List Str}(h:rest≠ []):(Str.join z (p::rest)).cps.toList = p.cps.toList++z.cps.toList++(Str.join z rest).cps.toList:=by
 cases rest with
 | nil=>exact absurd rfl h
 | cons s t=>
  show (p++z++Str.join z (s::t)).cps.toList = _;rw [Str.cps_append,Str.cps_append];simp
theorem ij{x y z:Str}{F:Nat→List Nat}(hs:∀p,p < x.length→¬At x y x.length p→F p = x.cps.getD p 0::F (p+1))(he:F x.length = [])(hh:∀p,At x y x.length p→F p = z.cps.toList++F (p+y.length)):
  ∀(cuts:List Nat) (a f:Nat),a≤x.length→ChainG x y x.length a cuts f→(∀k,f≤k→¬At x y x.length k)→(Str.join z (partsFrom x y.length a cuts)).cps.toList = F a
 | [],a,f,ha,hc,hn=>by
  have:f = a:=hc;subst this;show (strSub x f x.length).cps.toList = _;have w:=ku (x:=x.cps) (P:=fun k=>false) (F:=F);have key:∀(n p:Nat),x.length - p = n→p≤x.length→f≤p→F p =(x.cps.toList.drop p):=by
   intro n
   induction n with
   | zero=>
    intro p h1 h2 h3;have:p = x.length:=by change uS
    subst this;rw [he];rw [show x.length = x.cps.toList.length by simp [Str.length],List.drop_length]
   | succ n ih=>
    intro p h1 h2 h3;rw [hs p (by change tI) (hn p h3),ih (p+1) (by change sd) (by change q5) (by change oN)]
    exact (drop_cons (show p < x.cps.size from (by have:x.cps.size = x.length:=rfl;change vV))).symm
  rw [eg,key _ f rfl ha (Nat.le_refl _)];rw [List.take_of_length_le];simp [Str.length]
 | c::r,a,f,ha,hc,hn=>by
  obtain ⟨h1,h2,h3,h4⟩:=hc;have hcl:c+y.length≤x.length:=h2.1;obtain ⟨p,rr,e⟩:=partsFrom_ne x y.length (c+y.length) r;show (Str.join z (strSub x a c::partsFrom x y.length (c+y.length) r)).cps.toList = _;rw [join_cons _ _ (by rw [e];simp),ij hs he hh r (c+y.length) f hcl h4 hn]
  have key:∀(n p:Nat),c - p = n→p≤c→a≤p→F p =((x.cps.toList.drop p).take (c - p))++F c:=by
   intro n
   induction n with
   | zero=>
    intro p q1 q2 q3;have:p = c:=by change uS
    subst this;simp
   | succ n ih=>
    intro p q1 q2 q3;rw [hs p (by change xx) (h3 p q3 (by change tI)),ih (p+1) (by change sd) (by change q5) (by change oN),drop_cons (show p < x.cps.size from (by have:x.cps.size = x.length:=rfl;change vE))]
    rw [show c - p =(c - (p+1))+1 by change ya,List.take_succ_cons];rfl
  rw [key _ a rfl h1 (Nat.le_refl _),eg,hh c h2];simp
theorem gu:∀parts:List Str,parts≠ []→(∀p∈parts,10∉p.cps.toList)→aK (Str.join ⟨#[10]⟩ parts).cps.toList = parts.map (·.cps.toList)
 | [],h,_=>absurd rfl h
 | [p],_,h=>by
  have key:∀l:List Nat,10∉l→aK l = [l]:=by
   intro l
   induction l with
   | nil=>intro _;rfl
   | cons c r ih=>
    intro hn;rw [dv,if_neg (fun (e:c = 10)=>hn (e▸ .head _)),ih fun hm=>hn (.tail _ hm)]
  exact key _ (h p (.head _))
 | p::s::t,_,h=>by
  have ih:=gu (s::t) (by simp) fun x hx=>h x (.tail _ hx)
  rw [join_cons ⟨#[10]⟩ p (rest:=s::t) (by simp)]
  have key:∀(l r:List Nat),10∉l→aK (l++10::r)= l::aK r:=by
   intro l
   induction l with
   | nil=>intro r _;simp [aK]
   | cons c l ih=>
    intro r hn;rw [List.cons_append,dv,if_neg (fun (e:c = 10)=>hn (e▸ .head _)),ih r fun hm=>hn (.tail _ hm)]
  show aK (p.cps.toList++ [10]++(Str.join ⟨#[10]⟩ (s::t)).cps.toList)= _;rw [List.append_assoc,List.singleton_append,key _ _ (h p (.head _)),ih];rfl
theorem rY(x y:Str):Txt.split x y≠ []:=by
 unfold Txt.split
 split
 ·simp
 ·split
  ·simp
  ·rw [partsBetween_eq];obtain ⟨p,r,e⟩:=partsFrom_ne x y.length 0 (occurrences x y 0 x.length (x.length+1));rw [e];simp
end
section
section
variable {G:Gd}{cx:Cx}{fm:Fm}{X:Value→St→Prop}{W₀ W:Wd}{st:St}{s:Shared}{Q:AV→St→Prop}
end
end
section
section
variable {G:Gd}{cx:Cx}{fm:Fm}{X:Value→St→Prop}{W₀ W:Wd}{st:St}{s:Shared}{Q:AV→St→Prop}
theorem Comp.mapI{α:Type}{scope:Scope}{elt target iter:PySem.Expr}{pos:Pos}{a:AV}{src:List α}{g f:α→AV}{ys:List AV}{cond:St→Prop}{Q:List AV→(Nat→Option AO)→Prop}(hit:b5 G a (src.map g) cond)(hcond:∀loc,cond ⟨loc,st.hp⟩)(hz:src.length≤sizeLine)(e:src.map f = ys)
  (turn:∀(cenv:Env) x loc,cenv.scope = scope→x∈src→cY G cx (aT fm st scope (bt scope fm cenv)) cO target (g x) ⟨loc,st.hp⟩ fun st₂=>Ev G cx (aT fm st scope (bt scope fm cenv)) cO elt st₂ fun v st₃=>v = f x∧st₃.hp = st.hp)
  (h:Q ys st.hp):c6 G cx fm (bx G) (.ListComp elt [⟨target,iter,[],0⟩] scope pos) scope target [] (kt elt target iter [] scope pos) [] a st Q:=by
 refine ⟨src.map g,cond,hit,fun k hp b=>hp = st.hp∧b =(src.take k).map f,⟨rfl,rfl⟩,fun k loc hp b h=>h.1▸hcond loc,fun cenv it ad k x loc hp b hs hx hI=>?_,fun hp b hI=>?_⟩
 ·obtain ⟨rfl,rfl⟩:=hI;rw [gM] at hx;obtain ⟨y,hy,rfl⟩:=oM hx;have t:=turn cenv y loc hs (mG hy);intro W₀ v rv;refine J.mono (t W₀ v rv) (fun Z st₂ h₂=>?_) fun Z Y z=>z;refine dq.nil ?_;rw [if_pos rfl];refine Aft.emitL rfl (J.mono h₂ (fun v st₃ h₃=>?_) fun Z Y z=>z);obtain ⟨rfl,h3⟩:=h₃;refine ⟨?_,h3,?_⟩
  ·rw [lN];exact lT (List.length_take_le' k src) hz
  ·rw [List.take_add_one,hy,List.map_append];rfl
 ·obtain ⟨rfl,rfl⟩:=hI;rw [lN,List.take_length,e];exact h
theorem Comp.mapDI{α:Type}{scope:Scope}{key val target iter:PySem.Expr}{pos:Pos}{a:AV}{src:List α}{g vf:α→AV}{kf:α→Str}{b:List Str×List AV}{cond:St→Prop}{Q:List Str×List AV→(Nat→Option AO)→Prop}(hit:b5 G a (src.map g) cond)(hcond:∀loc,cond ⟨loc,st.hp⟩)(hz:src.length≤sizeLine)(e:ax (src.map fun x=>(kf x,vf x))= b)
  (turn:∀(cenv:Env) x loc,cenv.scope = scope→x∈src→cY G cx (aT fm st scope (bt scope fm cenv)) cO target (g x) ⟨loc,st.hp⟩ fun st₂=>Ev G cx (aT fm st scope (bt scope fm cenv)) cO key st₂ fun kv st₃=>∃k',kv = .str k'∧Ev G cx (aT fm st scope (bt scope fm cenv)) cO val st₃ fun v st₄=>k' = kf x∧v = vf x∧st₄.hp = st.hp)
  (h:Q b st.hp):c6 G cx fm (fh G) (.DictComp key val [⟨target,iter,[],0⟩] scope pos) scope target [] (we key val target iter [] scope pos) ([],[]) a st Q:=by
 refine ⟨src.map g,cond,hit,fun k hp b=>hp = st.hp∧b = ax ((src.take k).map fun x=>(kf x,vf x)),⟨rfl,rfl⟩,fun k loc hp b h=>h.1▸hcond loc,fun cenv it ad k x loc hp b hs hx hI=>?_,fun hp b hI=>?_⟩
 ·obtain ⟨rfl,rfl⟩:=hI;rw [gM] at hx;obtain ⟨y,hy,rfl⟩:=oM hx;have t:=turn cenv y loc hs (mG hy);intro W₀ v rv;refine J.mono (t W₀ v rv) (fun Z st₂ h₂=>?_) fun Z Y z=>z;refine dq.nil ?_;rw [if_pos rfl];refine Aft.emitD rfl (J.mono h₂ (fun kv st₃ h₃=>?_) fun Z Y z=>z);obtain ⟨k',rfl,h₃⟩:=h₃;refine ⟨k',rfl,J.mono h₃ (fun v st₄ h₄=>?_) fun Z Y z=>z⟩;obtain ⟨rfl,rfl,h4⟩:=h₄;refine ⟨?_,h4,?_⟩
  ·refine lT (eQ _) ?_;rw [lN];exact lT (List.length_take_le' k src) hz
  ·rw [List.take_add_one,hy,List.map_append];show _ = ax (_++ [(kf y,vf y)]);unfold ax;rw [List.foldl_append];rfl
 ·obtain ⟨rfl,rfl⟩:=hI;rw [lN,List.take_length,e];exact h
end
end
section
noncomputable def dT(x:Str):Str:=fc (cP x)++(if cut (fc (cP x)) (some (-2)) Option.none = Str.ofString "\r\n" then Str.ofString "" else Str.ofString "\r\n")++Str.ofString ".\r\n"
theorem cq(a b:Str):(a++b).length = a.length+b.length:=strLen_append a b
variable {w:World}{h₀:Heap}{os:OsState}{mg mb:Str→Option Value}{cx:Cx}{fm:Fm}{X:Value→St→Prop}{st:St}{Q:AV→St→Prop}
theorem rG:∀{l:List Nat} {b:Bool},(∀c∈l,c < 256)→∀c∈fixF b l,c < 256:=by
 intro zl
 induction zl with
 | nil=>
  intro _ _ c h;simp [fixF] at h
 | cons d r ih=>
  intro b hl c h;have hr:∀c∈r,c < 256:=fun c hc=>hl c (.tail _ hc);rw [fixF] at h
  split at h
  ·rcases mC h with rfl | h
   ·decide
   ·rcases mC h with rfl | h
    ·decide
    ·exact ih hr c h
  ·split at h
   ·split at h
    ·exact ih hr c h
    ·rcases mC h with rfl | h
     ·decide
     ·rcases mC h with rfl | h
      ·decide
      ·exact ih hr c h
   ·rcases mC h with rfl | h
    ·exact hl _ (.head _)
    ·exact ih hr c h
theorem rW:∀{l:List Nat} {b:Bool},(∀c∈l,c < 256)→∀c∈aZ b l,c < 256:=by
 intro zl
 induction zl with
 | nil=>
  intro _ _ c h;simp [aZ] at h
 | cons d r ih=>
  intro b hl c h;have hr:∀c∈r,c < 256:=fun c hc=>hl c (.tail _ hc);rw [aZ] at h
  split at h
  ·rcases mC h with rfl | h
   ·decide
   ·rcases mC h with rfl | h
    ·decide
    ·exact ih hr c h
  ·rcases mC h with rfl | h
   ·exact hl _ (.head _)
   ·exact ih hr c h
theorem qp{n:Nat}{x:Str}{o:Bool}(O:(gd w h₀ os mg mb).Ok)(hc:cx.calm = true)(hn:n+2≤cx.n)(hz:x.length≤25000)(hx:o = true→∀c∈x.cps.toList,c < 256)(h:Q (.str (dT x)) st):
  aH (gd w h₀ os mg mb) cx fm X n6 [.str x,.bool o] st Q:=by
 have z1:(Str.ofString "").length = 0:=by decide
 have z2:(Str.ofString "\r\n").length = 2:=by decide
 have z3:(Str.ofString ".\r\n").length = 3:=by decide
 have zq:(fc (cP x)).length≤100000:=by have:=fF x;have:=lP (cP x);change vS
 have zl:(100010:Nat)≤sizeLine:=by rw [sizeLine_eq];decide
 refine Fun.go (n:=n+1) O (cA.of O rfl rfl rfl) hn (Bind.p2 (fun Z Y=>rfl)) fun env he=>?_;clear he;refine Ex.cons (an.mono (Q':=fun f st₁=>f = .next∧st₁.loc "quoted" = some (.str (fc (cP x)))∧st₁.hp = st.hp) ?_ fun f st₁ hf=>?_)
 ·refine an.if_ (bj.plain (Ev.loc rfl (Tru.bool ?_)));cases o with
  | false=>
   refine bN rfl ?_;refine Ex.cons (an.asg (Ev.call (Ev.globR (v:= .ref su) O ⟨_,rfl,aa.of O (by kernel_rfl),aU.cons (ah.cons (Ev.loc rfl (ah.nil ?_)))⟩ (by kernel_rfl))) rfl rfl rfl)
   refine aH.cal (q9 (n:=n) O (Nat.le_refl _) (by change wQ) (Asg.name (.inl rfl) (Ex.nil ⟨rfl,rfl,rfl⟩)))
  | true=>
   refine bH rfl ?_;refine Ex.cons (an.asg (Ev.mcall (Ev.cstr ⟨.builtin "str.join",_,aa.builtin _,Mth.str PySem.F.slot_str_join PySem.F.type_str_join,aU.cons (ah.cons ?_)⟩)) rfl rfl rfl);refine Ev.listCompF hc (by decide) (fun n hn=>by simp [freeNames] at hn) ?_
   refine Ev.call (Ev.globR (v:= .ref mu) O ⟨_,rfl,aa.of O (by kernel_rfl),aU.cons (ah.cons (Ev.call (Ev.boot (v:= .type "bytes") O ⟨_,rfl,aa.type _,aU.cons (ah.cons ?_)⟩ (by kernel_rfl) (by kernel_rfl))))⟩ (by kernel_rfl))
   refine Ev.listCompF hc (by decide) (fun n hn=>by simp [freeNames] at hn) ?_
   refine Ev.call (Ev.globR (v:= .ref uo) O ⟨_,rfl,aa.of O (by kernel_rfl),aU.cons (ah.cons (Ev.loc rfl (ah.nil ?_)))⟩ (by kernel_rfl))
   refine aH.cal (te (n:=n) O (Nat.le_refl _) (by change wL) ?_)
   refine Comp.map (f:=fun a=>match a with | .str s=> .int ((s.cps.getD 0 0:Nat):Int) | _=> .none) Iter.str (fun Z=>trivial) (by simp [signs];have:=fF x;have e:(cP x).cps.size =(cP x).length:=rfl;change vw) (fun cenv k a loc hs ha=>?_) ?_
   ·unfold signs at ha;rw [List.map_map,gM] at ha;obtain ⟨c,hc',rfl⟩:=oM ha;refine Asg.name (.inl rfl) ?_;refine Ev.call (Ev.boot (v:= .builtin "ord") O ⟨_,rfl,aa.builtin _,aU.cons (ah.cons (Ev.loc rfl (ah.nil ?_)))⟩ (by kernel_rfl) (by kernel_rfl))
    exact Cal.ord ⟨rfl,rfl⟩
   ·refine ah.nil ?_;have e1:((signs (cP x)).map AV.str).map (fun a=>match a with | .str s=>AV.int ((s.cps.getD 0 0:Nat):Int) | _=> .none)=((fixF false x.cps.toList).map fun c:Nat=>(c:Int)).map AV.int:=by
     simp [signs,cP,List.map_map,Function.comp_def]
    rw [e1];have hf256:∀c∈fixF false x.cps.toList,c < 256:=rG (hx rfl);have hlf:(fixF false x.cps.toList).length≤50000:=by have:=mv x.cps.toList false;have e:x.cps.toList.length = x.length:=(by simp [Str.length]);change yz
    refine Cal.bytesInts (ns:=(fixF false x.cps.toList).map fun c:Nat=>(c:Int)) hc rfl (fun m hm=>?_) (by simp;change xT) ?_
    ·obtain ⟨c,hc',rfl⟩:=mM hm;have:=hf256 c hc'
     change um
    refine ah.nil ?_;have e2:byteArr ((fixF false x.cps.toList).map fun c:Nat=>(c:Int))=((fixF false x.cps.toList).map (·.toUInt8)).toArray:=by
     simp [byteArr,List.map_map,Function.comp_def]
    rw [e2];refine aH.cal (nh (n:=n) O (Nat.le_refl _) (by change up) hf256 ?_)
    have hd256:∀c∈aZ true (fixF false x.cps.toList),c < 256:=rW hf256;have hld:(aZ true (fixF false x.cps.toList)).length≤100000:=by have:=lp (fixF false x.cps.toList) true;change uz
    have e3:(KBw.bInts ((aZ true (fixF false x.cps.toList)).map (·.toUInt8)).toArray)=(aZ true (fixF false x.cps.toList)).map fun c:Nat=>(c:Int):=by
     rw [KBw.ints_list,List.map_map];refine List.map_congr_left fun c hc'=>?_;have:=hd256 c hc';simp only [Function.comp,Nat.toUInt8_eq,UInt8.toNat_ofNat']
     change vR
    refine Comp.map (f:=fun a=>match a with | .int i=> .str ⟨#[i.toNat]⟩ | _=> .none) Iter.bytes (fun Z=>trivial) (by rw [e3];simp;change uc) (fun cenv k a loc hs ha=>?_) ?_
    ·rw [e3,List.map_map,gM] at ha;obtain ⟨c,hc',rfl⟩:=oM ha;have:=hd256 c (mG hc');refine Asg.name (.inl rfl) ?_;refine Ev.call (Ev.boot (v:= .builtin "chr") O ⟨_,rfl,aa.builtin _,aU.cons (ah.cons (Ev.loc rfl (ah.nil ?_)))⟩ (by kernel_rfl) (by kernel_rfl))
     exact Cal.chr (i:=(c:Int)) (by change um) ⟨rfl,rfl⟩
    ·refine ah.nil ?_;rw [e3];have e4:(((aZ true (fixF false x.cps.toList)).map fun c:Nat=>(c:Int)).map AV.int).map (fun a=>match a with | .int i=>AV.str ⟨#[i.toNat]⟩ | _=> .none)=((aZ true (fixF false x.cps.toList)).map fun c:Nat=>(⟨#[c]⟩:Str)).map AV.str:=by
      simp [List.map_map,Function.comp_def]
     rw [e4];refine Cal.join (ys:=(aZ true (fixF false x.cps.toList)).map fun c:Nat=>(⟨#[c]⟩:Str)) rfl ?_ ?_
     ·rw [z1,Nat.mul_zero,Nat.add_zero,List.map_map];have:∀l:List Nat,(l.map ((fun s:Str=>s.length)∘ fun c:Nat=>(⟨#[c]⟩:Str))).sum = l.length:=by
       intro l;induction l with
       | nil=>rfl
       | cons c l iw=>simp only [List.map_cons,List.sum_cons,iw,List.length_cons];show 1+l.length = _;with_reducible exact Nat.add_comm _ _
      rw [this];change ue
     ·have e5:Txt.join (Str.ofString "") ((aZ true (fixF false x.cps.toList)).map fun c:Nat=>(⟨#[c]⟩:Str))= fc (cP x):=by
       have e0:Str.ofString "" =⟨#[]⟩:=by decide
       rw [e0];have:=eX ((aZ true (fixF false x.cps.toList)).map fun c:Nat=> #[c]);rw [List.map_map] at this;refine (Eq.trans (congrArg _ ?_) this).trans ?_
       ·rfl
       ·unfold fc cP
        congr 1
        have key:∀l:List Nat,(l.map fun c:Nat=> #[c]).foldr (·++·) #[] = l.toArray:=by
         intro l;induction l with
         | nil=>rfl
         | cons c l iw=>simp only [List.map_cons,List.foldr_cons,iw];simp
        rw [key]
      rw [e5];exact Asg.name (.inl rfl) (Ex.nil ⟨rfl,rfl,rfl⟩)
 ·obtain ⟨rfl,hq,hh⟩:=hf;refine Ex.cons (an.ret (Ev.binop (Ev.binop (Ev.loc hq (Ev.ifexp (bj.cmp (Ev.sub (Ev.loc hq (Ev.slice (b4.some (Ev.neg (Ev.cint ⟨2,rfl,_,rfl,b4.none (b4.none ?_)⟩))))))))))));refine Sub.sliceStr (by change uc) (Ev.cstr (Cmp.eqStr (Tru.bool ?_))) (fun Z Y=>rfl)
  have fin:∀e:Str,e.length≤2→(if cut (fc (cP x)) (some (-2)) Option.none = Str.ofString "\r\n" then Str.ofString "" else Str.ofString "\r\n")= e→Q (.str (fc (cP x)++e++Str.ofString ".\r\n")) ⟨st.loc,st₁.hp⟩:=fun e Z he=>by
   rw [hh,← he];exact h
  by_cases hcut:cut (fc (cP x)) (some (-2)) Option.none = Str.ofString "\r\n"
  ·rw [if_pos (by simpa using hcut)]
   refine Ev.cstr (Bin.addStr (by change wP) (Ev.cstr (Bin.addStr (by rw [cq];change w0) ?_)))
   exact fin _ (by change xN) (if_pos hcut)
  ·rw [if_neg (by simpa using hcut)]
   refine Ev.cstr (Bin.addStr (by change vq) (Ev.cstr (Bin.addStr (by rw [cq];change xU) ?_)))
   exact fin _ (by change wq) (if_neg hcut)
end
section
noncomputable def S2(l:List Nat):Str:=⟨l.toArray⟩
theorem bP(l:List Nat):(S2 l).cps.toList = l:=by simp [S2]
theorem cR(x:Str):S2 x.cps.toList = x:=by simp [S2]
theorem bA(l:List Nat):(S2 l).length = l.length:=by simp [S2,Str.length]
theorem gg{a b:List Nat}(h:S2 a = S2 b):a = b:=by have:=congrArg (fun s:Str=>s.cps.toList) h;simpa [S2] using this
theorem e8(a b:List Nat):S2 a++S2 b = S2 (a++b):=by
 refine Str.ext' ?_;rw [Str.cps_append];simp [S2]
noncomputable def lx(row:List Str):List Nat:=row.flatMap fun x=>x.cps.toList
theorem wH(ys:List Str):(Txt.join (Str.ofString "") ys).cps.toList = ys.flatMap fun y=>y.cps.toList:=by
 have e0:∀ys:List Str,ys =(ys.map (·.cps)).map fun y=>(⟨y⟩:Str):=fun ys=>by rw [List.map_map];exact (List.map_id ys).symm
 have e:=e0 ys;have e2:Str.ofString "" =⟨#[]⟩:=rfl
 conv=>lhs;rw [e,e2,eX]
 induction ys with
 | nil=>rfl
 | cons y ys iw=>
  rw [List.map_cons,List.foldr_cons,List.flatMap_cons];show (y.cps++_).toList = _;rw [Array.toList_append]
  congr 1
  exact iw (e0 ys)
theorem yG(ys:List Str):Txt.join (Str.ofString "") ys = S2 (lx ys):=by
 rw [← cR (Txt.join _ _),wH];rfl
theorem th(ys:List Str):(ys.map (·.length)).sum =(lx ys).length:=by
 unfold lx;rw [List.length_flatMap]
 congr 1
variable {w:World}{h₀:Heap}{os:OsState}{mg mb:Str→Option Value}{cx:Cx}{fm:Fm}{X:Value→St→Prop}{st:St}{Q:AV→St→Prop}
theorem Cal.join0{G:Gd}{a:AV}{ys:List Str}(ha:aM st a = some (ys.map .str))(hz:(lx ys).length≤100000)(h:Q (.str (S2 (lx ys))) st):bB G cx fm X (.builtin "str.join") [.str (Str.ofString ""),a] st Q:=by
 have z1:(Str.ofString "").length = 0:=by decide
 have zl:(100000:Nat)≤sizeLine:=by rw [sizeLine_eq];decide
 refine Cal.join ha ?_ (by rw [yG];exact h)
 rw [z1,th];change A4
end
section
noncomputable def dy(b:Bool)(rs:List (List Str)):List Str:=rs.flatMap (gj b)
theorem tD{T:Told}(ok:mW T){b:Bool}:∀(n:Nat) (o u:List Str),OI T o u→(ag T).length < o.length+n→OI T (o++dy b (bO b T n o u)) []:=by
 intro zl
 induction zl with
 | zero=>
  intro o u h hl;have:=h.len;rw [List.length_append] at this
  with_reducible exact (vJ ‹_› ‹_›).elim
 | succ n ih=>
  intro o u h hl;cases u with
  | nil=>
   show OI T (o++ []) [];rw [List.append_nil];exact h
  | cons y w=>
   have h1:=h.perm (dk b (y::w));have h2:=OI.doneL ok (gj b (y::w)) (v:= []) (o:=o) (by rw [List.append_nil];exact h1)
   rw [List.nil_append] at h2;have hl1:(gj b (y::w)).length = w.length+1:=(dk b (y::w)).length_eq;have h3:=ih _ _ h2 (by rw [List.length_append];change xf)
   rw [List.append_assoc] at h3;exact h3
noncomputable def bU(b:Bool)(T:Told):List Str:=dy b (allR b T)
theorem kh{T:Told}(ok:mW T){b:Bool}:OI T (bU b T) []:=by
 have:=tD ok (b:=b) ((ag T).length+1) [] (startT T) OI.start (by show _ < 0+_;change k9)
 rw [List.nil_append] at this;exact this
theorem mI{T:Told}{b:Bool}:∀(n:Nat) (o u:List Str),(bO b T n o u).length≤n:=by
 intro zl
 induction zl with
 | zero=>
  intro _ _;exact Nat.le_refl _
 | succ n ih=>
  intro o u;cases u with
  | nil=>exact Nat.zero_le _
  | cons y w=>exact Nat.succ_le_succ (ih _ _)
theorem jy{b:Bool}{u:List Str}:∀{rs:List (List Str)},u∈rs→u.length≤(dy b rs).length
 | [],h=>by cases h
 | v::rs,h=>by
  show _≤(gj b v++dy b rs).length;have hv:(gj b v).length = v.length:=(dk b v).length_eq;rw [List.length_append];rcases mC h with rfl | h
  ·change wN
  ·have:=jy (b:=b) h;change xu
end
section
noncomputable def sy(x:List Nat):List Nat:=joinR ((cn x).map q1++ [[46]])
theorem lR:∀(rows:List (List Nat)) (last:List Nat),cz (rows++ [last])= joinR rows++last:=by
 intro zl
 induction zl with
 | nil=>
  intro last;exact rfl
 | cons r rows ih=>
  intro last;rw [List.cons_append,c4 (by simp),ih last]
  simp [joinR]
theorem pq{rows:List (List Nat)}(h:rows≠ []):∃l,joinR rows = l++ [13,10]:=by
 have e:=List.dropLast_concat_getLast h;refine ⟨joinR rows.dropLast++rows.getLast h,?_⟩
 conv=>lhs;rw [← e]
 simp [joinR]
theorem x5{r:List Nat}(h:r≠ []):q1 r≠ []∧(q1 r).getLast? = r.getLast?:=by
 unfold q1
 split
 ·refine ⟨by simp,?_⟩
  cases r with
  | nil=>exact absurd rfl h
  | cons c r=>simp
 ·exact ⟨h,rfl⟩
theorem qU{x:List Nat}(hx:x≠ []):
  aZ true (fixF false x)++(if (aZ true (fixF false x)).drop ((aZ true (fixF false x)).length - 2)= [13,10] then [] else [13,10])++ [46,13,10] = sy x:=by
 have hcl:=dF (bk false x) (o5 x false);have hD:aZ true (fixF false x)= cz ((aK (bk false x)).map q1):=by
  rw [kI,dS,gJ _ hcl]
 have hN:bk false x≠ []:=by
  cases x with
  | nil=>exact absurd rfl hx
  | cons c r=>
   rw [bk]
   split
   ·simp
   ·split
    ·simp
    ·simp
 rw [hD];have hne:=eH (bk false x);obtain ⟨init,last,hrl⟩:∃init last,aK (bk false x)= init++ [last]:=⟨_,_,(List.dropLast_concat_getLast hne).symm⟩;rw [hrl] at hcl;unfold sy cn;rw [hrl,List.map_append,List.map_singleton,lR];rw [List.getLast?_append,List.dropLast_append_of_ne_nil (by simp)]
 simp only [List.getLast?_singleton,Option.some_or,Option.some.injEq,List.dropLast_singleton,List.append_nil]
 by_cases hl:last = []
 ·subst hl;have hi:init≠ []:=by
   rintro rfl;have e:expand (bk false x)= []:=by rw [dS,hrl];rfl
   cases hn:bk false x with
   | nil=>exact hN hn
   | cons c r=>
    rw [hn] at e;simp only [expand,List.flatMap_cons,List.append_eq_nil_iff] at e;have:=e.1
    split at this <;> simp at this
  obtain ⟨l,hl⟩:=pq (rows:=init.map q1) (by simpa using hi)
  have e1:q1 [] = []:=rfl;rw [e1,List.append_nil,hl];rw [if_pos (by simp),if_pos rfl,← hl]
  simp [joinR]
 ·rw [if_neg hl];obtain ⟨h1,h2⟩:=x5 hl;have hlast:∀c,last.getLast? = some c→c≠10:=fun c hc=>(hcl last (by simp) c (List.mem_of_getLast? hc)).1
  rw [if_neg]
  ·simp [joinR]
  ·intro e;have:(joinR (init.map q1)++q1 last).getLast? = some 10:=by
    have h3:=congrArg List.getLast? e;rw [List.getLast?_drop] at h3
    split at h3
    ·simp at h3
    ·simpa using h3
   rw [List.getLast?_append,h2] at this;cases hg:last.getLast? with
   | none=>rw [List.getLast?_eq_none_iff] at hg;exact hl hg
   | some c=>rw [hg] at this;simp at this;exact hlast c hg this
theorem iJ:∀(r:List Nat) (b:Bool) (t:List Nat),Clean r→(r≠ []∨b = false)→bk b (r++t)= r++bk false t:=by
 intro zl
 induction zl with
 | nil=>
  intro b t _ h;have:b = false:=h.resolve_left (by simp)
  subst this;rfl
 | cons c r ih=>
  intro b t h _;have hc:=h c (.head _);rw [List.cons_append,bk,if_neg hc.2,if_neg hc.1,ih false t (fun d hd=>h d (.tail _ hd)) (.inr rfl)];rfl
theorem i4:∀(r t:List Nat),Clean r→aK (r++10::t)= r::aK t:=by
 intro zl
 induction zl with
 | nil=>
  intro t _;simp [aK]
 | cons c r ih=>
  intro t h;have iw:=ih t fun d hd=>h d (.tail _ hd);rw [List.cons_append,aK,if_neg (h c (.head _)).1,iw]
end
section
theorem SI.perm{T:Told}{o u u':List Str}{v:PV}(S:SI T o u v)(p:u'.Perm u):SI T o u' v:=
 ⟨S.nm,S.sc,S.od,fun x hx=>S.ud x (p.mem_iff.mp hx),fun x hx h1 h2=>S.rest x hx h1 fun q=>h2 (p.mem_iff.mpr q)⟩
theorem mS:∀n:Nat,cI (List.replicate n AV.none) (List.replicate n AV.none)= some true:=by
 intro zl
 induction zl with
 | zero=>
  exact rfl
 | succ n ih=>
  have iw:=ih;show cI (AV.none::List.replicate n AV.none) (AV.none::List.replicate n AV.none)= some true;show (nQ AV.none AV.none).bind (fun x=>(cI (List.replicate n AV.none) (List.replicate n AV.none)).map fun y=>x && y)= _;rw [iw];rfl
theorem sO{w:World}{h₀:Heap}{os:OsState}{mg mb:Str→Option Value}:r7 (gd w h₀ os mg mb) am o4 "done" :=⟨ap,bJ,by kernel_rfl,by kernel_rfl,by kernel_rfl,by kernel_rfl,by decide+kernel⟩
inductive AG(hp0:Nat→Option AO)(T:Told)(i d:Nat)(k:Nat)(hp:Nat→Option AO)(b:List AV):Prop
 | mk (g':SG) (h1:Ch hp0 hp ⟨i,d,0,[],Option.none,0,0⟩ g') (h2:g'.pv = bM (T.take k)) (h3:g'.rd = Option.none) (h4:g'.npo = 0) (h5:g'.nf = 0) (h6:b = List.replicate k .none)
noncomputable def cK(ks:List Str)(tx:Str→Str):AV:= .dct ks (ks.map fun x=> .str (tx x))
noncomputable def fu(ks:List Str)(tx:Str→Str)(l:List Str):List Nat:=(l.filter fun x=>decide (x∈ks)).flatMap fun x=>(dT (tx x)).cps.toList
theorem mr(ks:List Str)(tx:Str→Str)(l m:List Str):fu ks tx (l++m)= fu ks tx l++fu ks tx m:=by
 unfold fu;rw [List.filter_append,List.flatMap_append]
noncomputable def inK(ks:List Str):AV→Bool
 | .str q=>decide (q∈ks)
 | _=>false
noncomputable def t6(tx:Str→Str):AV→AV
 | .str q=> .str (dT (tx q))
 | _=> .none
theorem pN(ks:List Str)(tx:Str→Str)(l:List Str):((l.map AV.str).filter (inK ks)).map (t6 tx)=((l.filter fun x=>decide (x∈ks)).map fun x=>dT (tx x)).map AV.str:=by
 rw [List.filter_map,List.map_map,List.map_map];rfl
theorem qo(x:Str):(dT x).length≤4 * x.length+5:=by
 have h1:=fF x;have h2:=lP (cP x);have h3:∀c:Prop,∀_:Decidable c,(if c then Str.ofString "" else Str.ofString "\r\n" :Str).length≤2:=fun c Z=>by split <;> decide
 have h4:(Str.ofString ".\r\n").length = 3:=by decide
 unfold dT;rw [cq,cq,h4];have:=h3 (cut (fc (cP x)) (some (-2)) Option.none = Str.ofString "\r\n") inferInstance;exact lT (Nat.add_le_add_right (Nat.add_le_add (lT h2 (Nat.mul_le_mul_left 2 h1)) this) 3) (qE (congrArg (·+5) (Nat.mul_assoc 2 2 x.length).symm))
theorem kP{ks:List Str}{tx:Str→Str}(h:∀x∈ks,(tx x).length≤60):∀l:List Str,(fu ks tx l).length≤245 * l.length:=by
 intro zl
 induction zl with
 | nil=>
  exact Nat.le_refl _
 | cons x l ih=>
  have iw:=ih;rw [show x::l = [x]++l from rfl,mr,List.length_append,List.length_append,List.length_singleton];have:(fu ks tx [x]).length≤245:=by
   unfold fu
   by_cases hx:x∈ks
   ·rw [List.filter_cons,if_pos (decide_eq_true hx),List.filter_nil,List.flatMap_singleton];have h1:=qo (tx x);have h2:=h x hx;have e:(dT (tx x)).cps.toList.length =(dT (tx x)).length:=by simp [Str.length]
    exact lT (qE e) (lT h1 (Nat.add_le_add_right (Nat.mul_le_mul_left 4 h2) 5))
   ·rw [List.filter_cons,if_neg (by simp [hx]),List.filter_nil];exact Nat.zero_le _
  exact lT (Nat.add_le_add this iw) (qE (Nat.mul_add 245 1 _).symm)
inductive Bn(b:Bool)(ks:List Str)(tx:Str→Str)(oc:Bool)(i j a:Nat)(rv:AV)(o:List Str)(st':St):Prop
 | mk (h1:st'.loc "sorter" = some (.obj am i)) (h2:st'.loc "rounds" = some (.ref j)) (h3:st'.loc "said" = some (.ref a)) (h4:st'.loc "ring" = some rv) (h5:st'.loc "step" = some (.int (aY b))) (h6:st'.loc "refused" = some (.bool (! fz rv))) (h7:st'.loc "texts" = some (cK ks tx)) (h8:st'.loc "octets" = some (.bool oc)) (h9:st'.loc "stream" = some (.str (S2 (fu ks tx o))))
inductive BV(hp0:Nat→Option AO)(T T':Told)(b:Bool)(ks:List Str)(tx:Str→Str)(oc:Bool)(i j a:Nat)(rv:AV)(g0:SG)(f:AF)(st':St):Prop
 | mk (e:f = .next) (g':SG) (r N:Nat) (hN:N≤T.length+1) (D:dC hp0 st'.hp g0 g' [(j,.list []),(a,.list (List.replicate N .none))]) (h1:g'.pv = bM T) (h2:g'.rd = some (r,startT T')) (h3:g'.npo = 0) (h4:g'.nf = 0) (L:Bn b ks tx oc i j a rv [] st')
inductive BD(hp0:Nat→Option AO)(T T':Told)(b:Bool)(ks:List Str)(tx:Str→Str)(oc:Bool)(i j a:Nat)(rv:AV)(g0:SG)(n':Nat)(st':St):Prop
 | mk (o u:List Str) (rs:List (List Str)) (g':SG) (r N:Nat) (hN:N≤T.length+1+2 * rs.length) (D:dC hp0 st'.hp g0 g' [(j,.list (rs.map tupS)),(a,.list (List.replicate N .none))]) (hS:SI T' o [] g'.pv) (hO:OI T' o u) (h2:g'.rd = some (r,u)) (h3:g'.npo =(o.length:Int)) (h4:g'.nf =(o.length:Int)) (hr:rs++bO b T' n' o u = allR b T') (hl:(ag T').length < o.length+n') (hrl:rs.length≤o.length) (ho:o = dy b rs) (L:Bn b ks tx oc i j a rv o st')
variable {w:World}{h₀:Heap}{os:OsState}{mg mb:Str→Option Value}{cx:Cx}{fm:Fm}{X:Value→St→Prop}{st:St}{Q:AV→St→Prop}
theorem Sub.lastL{G:Gd}{value slice:PySem.Expr}{a x:AV}{l:List AV}{i:Int}(hl:aM st a = some (l++ [x]))(e:i = -1)(hz:l.length≤1000)(h:Q x st)
  (hs:∀o i,subscripted slice false o i = PySem.operate [o,i] (getItem o i):=by intro _ _;with_unfolding_all rfl):cZ G cx fm X value slice a (.int i) st Q:=by
 subst e;have hlL:(l++ [x]).length = l.length+1:=by rw [List.length_append];rfl
 refine Sub.lst (l:=l++ [x]) (x:=x) hl (by rw [hlL];unfold idx;rw [if_pos (by decide)];change AI) ?_ (by rw [hlL,sizeLine_eq];change Ai) h hs
 rw [hlL];unfold idx;rw [if_pos (by decide),show ((-1:Int)+((l.length+1:Nat):Int)).toNat = l.length by change AT,List.getElem?_append_right (Nat.le_refl _),Nat.sub_self];rfl
theorem qV{i:Nat}{g:SG}{n r B:Nat}{l xs:List Str}(O:(gd w h₀ os mg mb).Ok)(hc:cx.calm = true)(hn:n+1≤cx.n)(e:g.i = i)(S:bX st.hp g)(hr:g.rd = some (r,l))(hB:∀m∈g.ns,m.sc.length≤B)(hz:l.length+xs.length * B≤1000)(hzx:xs.length≤1000)(hzB:B≤1000)
  (hcl:∀m∈g.ns,∀s∈m.sc,s∈g.pv.map (·.1)) (hx:∀(k:Nat) x,xs[k]? = some x→x∈g.pv.map (·.1)∧aQ x ((xs.take k).foldl aI (g.pv,l)).1 = -1)
  (h:∀g' hp',Ch st.hp hp' g g'→b8 g g'→g'.pv =(xs.foldl aI (g.pv,l)).1→g'.rd = some (r,(xs.foldl aI (g.pv,l)).2)→g'.npo = g.npo→g'.nf = g.nf+xs.length→Q .none ⟨st.loc,hp'⟩):
  aH (gd w h₀ os mg mb) cx fm X o4 (.obj am i::xs.map .str) st Q:=by
 subst e;exact sX O hc hn S hr hB hz hzx hzB hcl hx h
theorem kB{i:Nat}{T:Told}{g:SG}{n:Nat}{rv:AV}(O:(gd w h₀ os mg mb).Ok)(hc:cx.calm = true)(hn:n+2≤cx.n)(e:g.i = i)(S:bX st.hp g)(hr:g.rd = Option.none)(hpv:g.pv = bM T)(hz:(az T).length≤500)(R:dV T rv)
  (h0:fz rv = true→∀r hp' g',g' ={g with rd:=some (r,de g.pv)}→Ch st.hp hp' g g'→Q .none ⟨st.loc,hp'⟩)
  (h1:fz rv = false→∀r hp' g',g' ={g with rd:=some (r,de g.pv)}→Ch st.hp hp' g g'→X (.ref iY) ⟨st.loc,hp'⟩):aH (gd w h₀ os mg mb) cx fm X iO [.obj am i] st Q:=by
 subst e;have hnm:g.pv.map (·.1)= ag T:=by rw [hpv,cw]
 obtain ⟨b1,b2,b3⟩:=gx S hnm (fun z=>by rw [hpv]) hz
 refine mH O hc hn S hr b1 b2 b3 (fun hd r hp' g' e C=>?_) fun sk x i rg r hp' g' e C=>?_
 ·rcases R.alive with ⟨rfl,_⟩ | ⟨l,_,x,hx,hnx⟩
  ·exact h0 rfl r hp' g' e C
  ·rw [hpv,cw] at hd;exact (hnx (du.mp (hd x hx))).elim
 ·rw [hpv,cw] at rg;have e':=R.same rg;exact h1 (by rw [e'];rfl) r hp' g' e C
theorem Sub.texts{G:Gd}{value slice:PySem.Expr}{ks:List Str}{tx:Str→Str}{x:Str}(hx:x∈ks)(h:Q (.str (tx x)) st)
  (hs:∀o i,subscripted slice false o i = PySem.operate [o,i] (getItem o i):=by intro _ _;with_unfolding_all rfl):cZ G cx fm X value slice (cK ks tx) (.str x) st Q:=by
 obtain ⟨i,hi⟩:=List.getElem?_of_mem hx;exact Sub.dct (ks:=ks) (l:=ks.map fun x=> .str (tx x)) (i:=i) rfl hi (by rw [gM,hi];rfl) h hs
theorem uV{u:List Str}(h:u≠ []):(! u.isEmpty)= true:=by
 cases u with
 | nil=>exact absurd rfl h
 | cons _ _=>rfl
theorem fg{g:SG}{n r:Nat}{l:List Str}{b:Bool}(O:(gd w h₀ os mg mb).Ok)(hn:n+1≤cx.n)(S:bX st.hp g)(hr:g.rd = some (r,l))(hz:l.length≤1000)(e:(decide (g.nf < g.npo) || ! l.isEmpty)= b)
  (h:Q (.bool b) st):aH (gd w h₀ os mg mb) cx fm X fO [.obj am g.i] st Q:=pB O hn S hr hz (by rw [e];exact h)
theorem Comp.filterE{G:Gd}{scope:Scope}{elt target iter test:PySem.Expr}{pos:Pos}{a:AV}{xs ys:List AV}{cond:St→Prop}{p:AV→Bool}{f:AV→AV}{Q:List AV→(Nat→Option AO)→Prop}(hit:b5 G a xs cond)(hcond:∀loc,cond ⟨loc,st.hp⟩)(hz:xs.length≤sizeLine)(e:(xs.filter p).map f = ys)
  (turn:∀(cenv:Env) (k:Nat) x loc,cenv.scope = scope→xs[k]? = some x→cY G cx (aT fm st scope (bt scope fm cenv)) cO target x ⟨loc,st.hp⟩ fun st₂=>bj G cx (aT fm st scope (bt scope fm cenv)) cO test st₂ fun b st₃=>
   b = p x∧st₃.hp = st.hp∧(b = true→Ev G cx (aT fm st scope (bt scope fm cenv)) cO elt st₃ fun v st₄=>v = f x∧st₄.hp = st.hp))
  (h:Q ys st.hp):c6 G cx fm (bx G) (.ListComp elt [⟨target,iter,[test],0⟩] scope pos) scope target [test] (kt elt target iter [test] scope pos) [] a st Q:=Comp.filter hit hcond hz turn (by rw [e];exact h)
theorem Cal.join0E{G:Gd}{a:AV}{ys:List Str}{l:List Nat}(ha:aM st a = some (ys.map .str))(e:lx ys = l)(hz:l.length≤100000)(h:Q (.str (S2 l)) st):bB G cx fm X (.builtin "str.join") [.str (Str.ofString ""),a] st Q:=by
 subst e;exact Cal.join0 ha hz h
theorem IBin.addS2{G:Gd}{a b c:List Nat}(e:a++b = c)(hz:a.length+b.length≤sizeLine)(h:Q (.str (S2 c)) st):i6 G cx fm X .Add (.str (S2 a)) (.str (S2 b)) st Q:=by
 subst e;exact IBin.addStr (by rw [bA,bA];exact hz) (by rw [e8];exact h)
theorem Sub.tupDirS{G:Gd}{value slice:PySem.Expr}{l l':List Str}{b:Bool}{ops:Value→Value→List Value}(hz:(l.map AV.str).length≤sizeLine)(e:gj b l = l')(h:Q (.tup (l'.map .str)) st)
  (hs:∀o i,subscripted slice false o i = PySem.operate (ops o i) (getItem o i)):cZ G cx fm X value slice (.tup (l.map .str)) (.slc Option.none Option.none (some (aY b))) st Q:=Sub.tupDir hz (by subst e;rw [iX];exact h) hs
theorem sD(ks:List Str)(tx:Str→Str)(l:List Str):lx ((l.filter fun x=>decide (x∈ks)).map fun x=>dT (tx x))= fu ks tx l:=by
 unfold lx fu;rw [List.flatMap_map]
theorem tW{T T':Told}{dn:Str}{b:Bool}{ks:List Str}{tx:Str→Str}{oc:Bool}{n:Nat}{rv:AV}(O:(gd w h₀ os mg mb).Ok)(hc:cx.calm = true)(hn:n+6≤cx.n)(E:Ext T dn T')(hnd:(T.map (·.1)).Nodup)(hz0:(az T).length≤50)(hz:(az T').length≤50)(hzT:T.length≤6)(hm6:(ag T').length≤6)(R:dV T rv)(htx:∀x∈ks,(tx x).length≤60∧∀c∈(tx x).cps.toList,c < 256)
  (h:Q (.tup [.tup [.lst ((allR b T').map tupS),rv,.bool (! fz rv),.bool true],.str (S2 (fu ks tx (bU b T')))]) st):
  aH (gd w h₀ os mg mb) cx fm X uk [.lst (T.map aD),cK ks tx,.int (aY b),.bool oc] st Q:=by
 have ok:=E.tok hnd;have zl:(1000000:Nat)≤sizeLine:=by rw [sizeLine_eq];decide
 refine Fun.go (n:=n+5) O (cA.of O rfl rfl rfl) hn (Bind.p4 (fun Z Y V U=>rfl)) fun env he=>?_;refine Ex.cons (an.asg (Ev.tuple (ah.cons (Ev.call (Ev.globR (v:= .ref am) O ⟨_,rfl,aa.cls O ap,aU.nil (lq (n:=n+3) O (Nat.le_refl _) fun i d hp' hi hd S oth=>?_)⟩ (by kernel_rfl))))) rfl rfl rfl)
 refine ah.cons (Ev.listM (ah.nil ⟨Nat.zero_le _,fun j hj=>ah.cons (Ev.cstr (ah.cons (Ev.cbool (ah.nil ⟨oS (Nat.le_refl 4) zl rfl,?_⟩))))⟩));refine Asg.tuple hc rfl rfl (Asg.name f9 (Asg.name (.inl rfl) (Asg.name (.inl rfl) (Asg.name (.inl rfl) ?_))));have hj0:hp' j = Option.none:=hj;have D1:=(dC.start S).new (st:=⟨st.loc,hp'⟩) hj0 (.list []);have hpk:∀k ao,st.hp k = some ao→(St.put ⟨st.loc,hp'⟩ j (.list [])).hp k = some ao:=fun k ao e=>by
  have e2:=oth k ao List.not_mem_nil e;exact (if_neg (fun q=>by rw [q,hj0] at e2;cases e2)).trans e2
 have S1:=D1.ch.srt;refine Ex.cons (an.asgCompM hc (.inl rfl) (by decide) br (Ev.loc rfl ?_) rfl)
 refine ⟨T.map aD,_,Iter.lst (lM (by change tK)),AG (St.put ⟨st.loc,hp'⟩ j (.list [])).hp T i d,⟨_,Ch.refl S1,rfl,rfl,rfl,rfl,rfl⟩,fun Z Y V U Zz=>rfl,fun cenv it ad k x loc hp b hs hx hI=>?_,fun hp b' hI=>?_⟩
 ·obtain ⟨g',C,f1,f2,f3,f4,rfl⟩:=hI;rw [gM] at hx;obtain ⟨p,hp',rfl⟩:=oM hx;have hpm:=mG hp';have hp2:=d5 hpm;have hkT:k < T.length:=(gS hp').1;refine Asg.tuple hc rfl rfl (Asg.name (.inl rfl) (Asg.name (.inl rfl) (dq.nil (bH rfl ?_))));have hin:=C.srt.inst;rw [C.i] at hin;refine Aft.emitL rfl (Ev.bcall O (Ev.outer (a:= .obj am i) (di rfl rfl rfl) ⟨am,tY,i,_,_,rfl,s6,hin,by decide,aU.cons (ah.cons (Ev.loc rfl (ah.starLast (Ev.loc rfl ⟨p.2.map .str,rfl,by rw [lN];change yY,?_⟩))))⟩))
  have hB:Bd 50 50 g'.pv:=by rw [f1];exact Bd.told (lT (eP T k) hz0)
  refine tH (n:=n+1) (N:=50) (B:=50) O hc (Nat.le_refl _) C.i C.srt f2 hB (by change zS) (by change Ah) fun g2 hp2 C2 E2 f5=>⟨by rw [List.length_replicate];change yW,g2,C.trans C2,?_,E2.rd.trans f2,E2.npo.trans f3,E2.nf.trans f4,?_⟩
  ·rw [f5,f1];unfold bM;rw [List.take_add_one,hp',Option.toList_some,List.foldl_append];rfl
  ·rw [List.replicate_succ']
 obtain ⟨g5,C5,f1,f2,f3,f4,rfl⟩:=hI;rw [lN] at f1 ⊢;have f1':g5.pv = bM T:=by rw [f1,List.take_length]
 intro a ha;have D5:=(D1.call C5).new (st:=⟨fun Z=>Option.none,hp⟩) ha (.list (List.replicate T.length .none));have hnm:g5.pv.map (·.1)= ag T:=by rw [f1',cw]
 have hin:=D5.ch.srt.inst;rw [C5.i] at hin;have zf:(az T).length≤500:=oL hz0 rfl;refine Ex.cons (an.asg (Ev.mcall (Ev.own rfl ⟨.ref iA,_,aa.of O (by kernel_rfl),Mth.obj O ap (by kernel_rfl) (by kernel_rfl) hin (by decide),aU.nil (aH.cal ?_)⟩)) rfl rfl rfl)
 refine lv (T:=T) (g:=g5) (n:=n+4) O hc (Nat.le_refl _) C5.i D5.ch.srt hnm (fun z=>by rw [f1']) zf R fun hp6 k6=>?_
 have D6:=D5.kp k6;have hin6:=D6.ch.srt.inst;rw [C5.i] at hin6;have a6:=D6.get (i:=1) rfl;have s0:de g5.pv = startT T':=by rw [f1',← E.pv,kY ok]
 have s0':∀{r:Nat},some (r,de g5.pv)= some (r,startT T'):=fun {r}=>congrArg (fun z=>some (r,z)) s0;refine Asg.name (.inl rfl) ?_;refine Ex.cons (an.mono (Q':=BV hp' T T' b ks tx oc i j a rv ⟨i,d,0,[],Option.none,0,0⟩) ?_ fun f st₁ hf=>?_)
 ·refine an.try_ (cls:= .ref iY) (c:= .ref iY) ⟨he.fr,_,rfl⟩ (Load.global O rfl (mg_of O.K O.gl (by kernel_rfl))) (Catch.cls O rfl (by decide)) ?_
  refine Ex.cons (an.expr (Ev.mcall (Ev.loc rfl ⟨.builtin "list.append",_,aa.builtin _,Mth.list PySem.F.slot_list_append PySem.F.type_list_append (ai a6),aU.cons (ah.cons ?_)⟩)));refine Ev.mcall (Ev.own rfl ⟨.ref iO,_,aa.of O (by kernel_rfl),Mth.obj O ap (by kernel_rfl) (by kernel_rfl) hin6 (by decide),aU.nil (aH.cal ?_)⟩)
  refine kB (T:=T) (g:=g5) (n:=n+3) O hc (Nat.le_refl _) C5.i D6.ch.srt f2 f1' zf R (fun hv r hp7 g7 e7 C7=>?_) fun hv r hp7 g7 e7 C7=>?_
  ·have D7:=D6.call C7;have a7:=D7.get (i:=1) rfl;refine ah.nil (Cal.append a7 (by rw [List.length_replicate];change tK) (Ex.nil ?_))
   have D8:=D7.put (st:=⟨fun Z=>Option.none,hp7⟩) (i:=1) rfl (.list (List.replicate T.length .none++ [.none]));rw [← List.replicate_succ'] at D8 ⊢;exact Ex.nil ⟨rfl,g7,r,T.length+1,Nat.le_refl _,D8,(congrArg SG.pv e7).trans f1',(congrArg SG.rd e7).trans s0',(congrArg SG.npo e7).trans f3,(congrArg SG.nf e7).trans f4,⟨rfl,rfl,rfl,rfl,rfl,by rw [hv];rfl,rfl,rfl,rfl⟩⟩
  ·have D7:=D6.call C7;exact ⟨rfl,Ex.cons (an.asg (Ev.cbool (Asg.name (.inl rfl) (Ex.nil ⟨rfl,g7,r,T.length,Nat.le_succ _,D7,(congrArg SG.pv e7).trans f1',(congrArg SG.rd e7).trans s0',(congrArg SG.npo e7).trans f3,(congrArg SG.nf e7).trans f4,⟨rfl,rfl,rfl,rfl,rfl,by rw [hv];rfl,rfl,rfl,rfl⟩⟩))) rfl rfl rfl)⟩
 clear he D1 D5 D6 hin hin6 a6 k6 S1;obtain ⟨rfl,g6,r,N,hN,D,p1,p2,p3,p4,L⟩:=hf;have hsl:(startT T').length≤6:=by rw [d7];exact lT (List.length_filter_le _ _) hm6
 refine Ex.cons (an.while_ (BD hp' T T' b ks tx oc i j a rv ⟨i,d,0,[],Option.none,0,0⟩) ((ag T').length+1) ⟨[],startT T',[],g6,r,N,hN,D,by rw [p1,← E.pv];exact SI.start ok,OI.start,p2,p3,p4,rfl,by show _ < 0+_;change k9,Nat.le_refl _,rfl,L⟩ ?_)
 clear D p1 p2 p3 p4 L hN;rintro n' st' ⟨o,u,rs,g',r,N,hN,D,hS,hO,h2,h3,h4,hr,hl,hrl,ho,l1,l2,l3,l4,l5,l6,l7,l8,l9⟩;have hlen:=hO.len;rw [List.length_append] at hlen;have hou:o.length+u.length≤6:=lT hlen hm6;have hu6:u.length≤6:=lT (Nat.le_add_left _ _) hou;have hrs6:rs.length≤6:=lT hrl (lT (Nat.le_add_right _ _) hou);have hN1:N≤19:=lT hN (Nat.add_le_add (Nat.succ_le_succ hzT) (Nat.mul_le_mul_left 2 hrs6));have l1':st'.loc "sorter" = some (.obj am g'.i):=by rw [D.ch.i];exact l1
 have hact0:decide (g'.nf < g'.npo)= false:=by rw [h3,h4];exact decide_eq_false (Int.lt_irrefl _)
 refine bj.boolop (aE.and (bj.cmp (Ev.mcall (Ev.own l1' ⟨.ref fO,_,aa.of O (by kernel_rfl),Mth.obj O ap (by kernel_rfl) (by kernel_rfl) D.ch.srt.inst (by decide),aU.nil (aH.cal ?_)⟩))))
 refine fg (g:=g') (n:=n+4) (b:=! u.isEmpty) O (Nat.le_refl _) D.ch.srt h2 (oL hu6 rfl) (by rw [hact0,Bool.false_or]) ?_
 refine Ev.cbool (Cmp.isBool (Tru.bool ?_))
 by_cases hue:u = []
 ·rw [hue] at h2 hr;refine bN (by rw [hue];rfl) (bN rfl (Ex.nil ?_))
  have e0:bO b T' n' o [] = []:=by cases n' <;> rfl
  rw [e0,List.append_nil] at hr;refine Ex.cons (an.asg (Ev.boolop (bS.and (Ev.cmp (Ev.mcall (Ev.own l1' ⟨.ref fO,_,aa.of O (by kernel_rfl),Mth.obj O ap (by kernel_rfl) (by kernel_rfl) D.ch.srt.inst (by decide),aU.nil (aH.cal ?_)⟩))))) rfl rfl rfl)
  refine fg (g:=g') (n:=n+4) (b:=false) O (Nat.le_refl _) D.ch.srt h2 (Nat.zero_le _) (by rw [hact0];rfl) ?_
  refine Ev.cbool (Cmp.isBool (Tru.bool (bH rfl (bS.last (Ev.cmp (Ev.mcall (Ev.own l1' ⟨.ref nI,_,aa.of O (by kernel_rfl),Mth.obj O ap (by kernel_rfl) (by kernel_rfl) D.ch.srt.inst (by decide),aU.nil (aH.cal ?_)⟩)))))))
  refine mn (g:=g') (n:=n+4) O hc (Nat.le_refl _) D.ch.srt h2 (Nat.zero_le _) (fun x hx=>by cases hx) fun g1 hp1 C1 Z Y V U=>?_
  have D2:=D.call C1;refine Ev.tuple (ah.nil ⟨Nat.zero_le _,Cmp.eqTup (l:= []) (n:=0) (fun x hx=>by cases hx) (Nat.zero_le _) (Asg.name (.inl rfl) ?_)⟩)
  have j2:=D2.get (i:=0) rfl;have a2:=D2.get (i:=1) rfl;have haj:a≠j:=fun e=>by have:=D2.nd;rw [e] at this;simp at this
  refine Ex.freezeLoc (x:= "rounds") (.inl rfl) l2 j2 ?_;have a3:(if a = j then Option.none else hp1 a)= some (.list (List.replicate N AV.none)):=(if_neg haj).trans a2;refine Ex.cons (an.ret (J.forget (Ev.tuple (ah.cons (Ev.tuple (ah.cons (Ev.loc rfl (ah.cons (Ev.loc l4 (ah.cons (Ev.loc l6 (ah.cons (Ev.boolop (bS.and (Ev.loc rfl (Tru.bool (bH rfl (bS.last (Ev.cmp (Ev.loc l3 (Ev.binop ?_)))))))))))))))))))));refine Ev.listF (ah.cons (Ev.cnone (ah.nil ⟨by show 1≤sizeLine;change ui,?_⟩)))
  refine Ev.call (Ev.boot (v:= .builtin "len") O ⟨_,rfl,aa.builtin _,aU.cons (ah.cons (Ev.loc l3 (ah.nil ?_)))⟩ (by kernel_rfl) (by kernel_rfl))
  refine Cal.len (l:=List.replicate N .none) (ai a3) (by rw [List.length_replicate];exact oS hN1 zl rfl) ?_
  rw [List.length_replicate];refine Bin.mulListF (l:= [.none]) rfl (by change zo) (Int.lt_of_le_of_lt (Int.ofNat_le.mpr hN1) (by decide)) (by show 1 * _≤_;exact lT (qE (Nat.one_mul N)) (oL hN1 rfl)) ?_
  have em:(List.replicate (N:Int).toNat [AV.none]).flatten = List.replicate N AV.none:=by simp
  rw [em];refine Cmp.eqFlat (ai a3) rfl (mS N) (ah.nil ⟨oS (Nat.le_refl 4) zl rfl,ah.cons (Ev.loc l9 (ah.nil ⟨oS (Nat.le_refl 2) zl rfl,st.hp,fun k ao e=>?_,?_⟩))⟩)
  ·have e1:hp' k = some ao:=oth k ao List.not_mem_nil e;have hkj:k≠j:=fun q=>by rw [q,hj0] at e1;cases e1
   have hkf:k∉(⟨i,d,0,[],Option.none,0,0⟩:SG).foot:=fun q=>by
    have q':k∈ [i,d]:=q;rcases mC q' with q | q
    ·rw [q,hi] at e;cases e
    ·rw [List.mem_singleton] at q;rw [q,hd] at e;cases e
   exact (if_neg hkj).trans (D2.ch.oth k ao hkf e1)
  ·rw [hr] at ho ⊢;rw [ho];exact h
 refine bH (by rw [uV hue];rfl) ?_
 have hu0:0 < u.length:=List.length_pos_iff.mpr hue;have hn1:n' =(n' - 1)+1:=vP hu0 hl hlen;have hl1':=Nat.lt_of_lt_of_eq hl (congrArg (o.length+·) hn1);obtain ⟨last,hlast⟩:∃l,gj b u = l:=⟨_,rfl⟩;have hper:last.Perm u:=hlast▸dk b u;have hO1:=hO.perm hper;have hum:∀x∈u,x∈ag T':=fun x hx=>hO.mem x (aR _ hx);have huo:∀x∈u,x∉o:=fun x hx q=>(List.nodup_append.mp hO.nd).2.2 x q x hx rfl;have hlu:last.length = u.length:=hper.length_eq;have hr1:(rs++ [u])++bO b T' (n' - 1) (o++last) (fw T' o last)= allR b T':=by
  rw [← hlast,← hr,List.append_assoc];exact congrArg (rs++·) (gB hue hn1)
 have hl6:last.length≤6:=lT (qE hlu) hu6;have hl1:1≤last.length:=lT hu0 (qE hlu.symm);have hO2:=OI.doneL ok last (v:= []) (o:=o) (by rw [List.append_nil];exact hO1)
 rw [List.nil_append] at hO2;have q0:=D.get (i:=0) rfl;have q1:=D.get (i:=1) rfl;have hrl7:decide (((rs.map tupS).length:Int) < 7)= true:=decide_eq_true (by rw [lN];change zT)
 refine aE.and (bj.cmp (Ev.call (Ev.boot (v:= .builtin "len") O ⟨_,rfl,aa.builtin _,aU.cons (ah.cons (Ev.loc l2 (ah.nil (Cal.len (l:=rs.map tupS) (ai q0) (lM (by change tK)) (Ev.cint (Cmp.ltInt (Tru.bool ?_)))))))⟩ (by kernel_rfl) (by kernel_rfl))))
 refine bH hrl7 (aE.andNil (bH rfl ?_));refine Ex.cons (an.expr (Ev.mcall (Ev.loc l2 ⟨.builtin "list.append",_,aa.builtin _,Mth.list PySem.F.slot_list_append PySem.F.type_list_append (ai q0),aU.cons (ah.cons ?_)⟩)));refine Ev.mcall (Ev.own l1' ⟨.ref nI,_,aa.of O (by kernel_rfl),Mth.obj O ap (by kernel_rfl) (by kernel_rfl) D.ch.srt.inst (by decide),aU.nil (aH.cal ?_)⟩)
 refine mn (g:=g') (n:=n+4) O hc (Nat.le_refl _) D.ch.srt h2 (oL hu6 rfl) (fun x hx=>by rw [hS.nm];exact hum x hx) fun g1 hp1 C1 e1 e2 e3 e4=>?_
 have S1:SI T' o last g1.pv:=by
  rw [e1];have:=hS.ready hum huo;rw [List.nil_append] at this;exact this.perm hper
 have D1:=D.call C1;have j1:=D1.get (i:=0) rfl;refine ah.nil (Cal.append j1 (lM (by change tK)) ?_)
 have D2:=D1.put (st:=⟨st'.loc,hp1⟩) (i:=0) rfl (.list (rs.map tupS++ [.tup (u.map .str)]));have a2:=D2.get (i:=1) rfl;have l1a:st'.loc "sorter" = some (.obj am g1.i):=by rw [D2.ch.i];exact l1
 have hact2:(decide (g1.nf < g1.npo) || !([]:List Str).isEmpty)= true:=by
  rw [e3,e4,h3,h4,decide_eq_true (Int.lt_add_of_pos_right _ (Int.ofNat_lt.mpr hu0))];rfl
 refine Ex.cons (an.expr (Ev.mcall (Ev.loc l3 ⟨.builtin "list.append",_,aa.builtin _,Mth.list PySem.F.slot_list_append PySem.F.type_list_append (ai a2),aU.cons (ah.cons ?_)⟩)));refine Ev.ifexp (bj.cmp (Ev.mcall (Ev.own l1a ⟨.ref fO,_,aa.of O (by kernel_rfl),Mth.obj O ap (by kernel_rfl) (by kernel_rfl) D2.ch.srt.inst (by decide),aU.nil (aH.cal ?_)⟩)))
 refine fg (g:=g1) (n:=n+4) O (Nat.le_refl _) D2.ch.srt e2 (Nat.zero_le _) hact2 ?_;have hNk:N≤1000:=oL hN1 rfl;refine Ev.cbool (Cmp.isBool (Tru.bool (bH rfl (Ev.cnone (ah.nil (Cal.append a2 (by rw [List.length_replicate];change zM) ?_))))))
 have D3:=D2.put (st:=⟨st'.loc,(St.put ⟨st'.loc,hp1⟩ j (.list (rs.map tupS++ [.tup (u.map .str)]))).hp⟩) (i:=1) rfl (.list (List.replicate N AV.none++ [.none]));have j3:=D3.get (i:=0) rfl;have a3:=D3.get (i:=1) rfl;have hin3:=D3.ch.srt.inst;rw [show g1.i = i from D3.ch.i] at hin3;have hstr:=kP (ks:=ks) (tx:=tx) fun x hx=>(htx x hx).1;have ho6:o.length≤6:=lT (Nat.le_add_right _ _) hou;refine Ex.cons (an.asg (Ev.sub (Ev.sub (Ev.loc l2 (Ev.neg (Ev.cint ⟨1,rfl,Sub.lastL (ai j3) rfl (lM (by change Ak)) (Ev.slice (b4.none (b4.none (b4.some (Ev.loc l5 ⟨_,rfl,?_⟩)))))⟩))))) rfl rfl rfl)
 refine Sub.tupDirS (lM (oS hu6 zl rfl)) hlast ?_ (fun Z Y=>rfl);refine Asg.name (.inl rfl) ?_;refine Ex.cons (an.augName (.inl rfl) (eW rfl l9 (Ev.mcall (Ev.cstr ⟨.builtin "str.join",_,aa.builtin _,Mth.str PySem.F.slot_str_join PySem.F.type_str_join,aU.cons (ah.cons (Ev.listCompF hc (by decide) br (Ev.loc rfl ?_)))⟩))))
 refine Comp.filterE (p:=inK ks) (f:=t6 tx) (Iter.tup (xs:=last.map .str)) (fun Z=>trivial) (lM (oS hl6 zl rfl)) (pN ks tx last) (fun cenv' k' a' loc' hs' ha'=>?_) ?_
 ·rw [gM] at ha';obtain ⟨q,hq,rfl⟩:=oM ha';refine Asg.name (.inl rfl) (bj.cmp (Ev.loc rfl (Ev.outer (a:=cK ks tx) (di rfl rfl l7) (Cmp.inDict O (ks:=ks) (l:=ks.map fun x=> .str (tx x)) rfl (Tru.bool ⟨rfl,rfl,fun hk=>?_⟩)))));have hqk:q∈ks:=of_decide_eq_true hk;refine Ev.call (Ev.globR (v:= .ref n6) O ⟨_,rfl,aa.of O (by kernel_rfl),aU.cons (ah.cons ?_)⟩ (by kernel_rfl))
  refine Ev.sub (Ev.outer (a:=cK ks tx) (di rfl rfl l7) (Ev.loc rfl (Sub.texts hqk (ah.cons (Ev.outer (a:= .bool oc) (di rfl rfl l8) (ah.nil (aH.cal ?_)))))));exact qp (n:=n+3) O hc (Nat.le_refl _) (oL (htx q hqk).1 rfl) (fun Z=>(htx q hqk).2) ⟨rfl,rfl⟩
 refine ah.nil (Cal.join0E rfl (sD ks tx last) (oL (lT (hstr last) (Nat.mul_le_mul_left 245 hl6)) rfl) ?_);refine IBin.addS2 (mr ks tx o last).symm ?_ ?_
 ·exact oS (Nat.add_le_add (lT (hstr o) (Nat.mul_le_mul_left 245 ho6)) (lT (hstr last) (Nat.mul_le_mul_left 245 hl6))) zl rfl
 refine Ex.cons (an.expr (Ev.mcall (Ev.loc l3 ⟨.builtin "list.append",_,aa.builtin _,Mth.list PySem.F.slot_list_append PySem.F.type_list_append (ai a3),aU.cons (ah.cons ?_)⟩)));refine Ev.bcall O (Ev.own l1 ⟨am,o4,i,_,_,rfl,sO,hin3,by decide,aU.lone (Ev.loc rfl ⟨_,rfl,lM (oS hl6 zl rfl),?_⟩)⟩)
 have hb50:∀m∈g1.ns,m.sc.length≤50:=fun m hm=>by rw [← b9 D3.ch.srt hm,S1.sc];exact lT (ny T' _) hz
 have hcl1:∀m∈g1.ns,∀s∈m.sc,s∈g1.pv.map (·.1):=fun m hm s hs=>by
  rw [← b9 D3.ch.srt hm,S1.sc] at hs;rw [S1.nm];exact t5 hs
 obtain ⟨k1,k2,k3⟩:=SI.doneL ok last (p:= []) (c:= []) S1 (by rw [List.append_nil];exact hO1)
 rw [List.nil_append] at k2;refine qV (g:=g1) (n:=n+4) (r:=r) (B:=50) (l:= []) (xs:=last) O hc (Nat.le_refl _) D3.ch.i D3.ch.srt e2 hb50 (lT (qE (Nat.zero_add _)) (oL (Nat.mul_le_mul_right 50 hl6) rfl)) (oL hl6 rfl) (by decide) hcl1 k3 fun g2 hp2 C2 N2 f1 f2 f3 f4=>?_
 rw [k2] at f2;have D4:=D3.call C2;have a4:=D4.get (i:=1) rfl;refine ah.nil (Cal.append a4 (by rw [List.length_append,List.length_replicate];show _+1≤_;change zw) (Ex.nil ?_))
 have D5:=D4.put (st:=⟨st'.loc,hp2⟩) (i:=1) rfl (.list (List.replicate N AV.none++ [.none]++ [.none]));have eN:List.replicate N AV.none++ [.none]++ [.none] = List.replicate (N+2) AV.none:=by
  rw [← List.replicate_succ',← List.replicate_succ']
 have eR:rs.map tupS++ [.tup (u.map .str)] =(rs++ [u]).map tupS:=by rw [List.map_append];rfl
 have hdl:=hO2.len;rw [List.length_append,List.length_append] at hdl;refine ⟨n' - 1,Nat.lt_of_lt_of_eq (Nat.lt_succ_self _) hn1.symm,o++last,fw T' o last,rs++ [u],g2,r,N+2,?_,?_,?_,hO2,f2,?_,?_,hr1,?_,?_,?_,l1,l2,l3,l4,l5,l6,l7,l8,rfl⟩
 ·rw [List.length_append,List.length_singleton];change zA
 ·rw [← eN,← eR];exact D5
 ·rw [f1];exact k1
 ·rw [f3,e3,h3,List.length_append];change yZ
 ·rw [f4,e4,h4,List.length_append];change AQ
 ·rw [List.length_append];exact Nat.lt_of_lt_of_le hl1' (by rw [Nat.add_assoc];exact Nat.add_le_add_left (lT (qE (Nat.add_comm _ 1)) (Nat.add_le_add_right hl1 _)) _)
 ·rw [List.length_append,List.length_append,List.length_singleton];exact Nat.add_le_add hrl hl1
 ·rw [ho];unfold dy;rw [List.flatMap_append,List.flatMap_singleton,← hlast]
end
section
theorem eb{a:Int}{n k:Nat}{x:AV}(h:(intsFrom a n)[k]? = some x):k < n∧x = .int (a+(k:Int)):=by
 have hk:k < n:=by have:=(gS h).1;simpa [intsFrom] using this
 exact ⟨hk,by simp [intsFrom,hk] at h;exact h.symm⟩
theorem dV.eqd{T:Told}{rv:AV}(R:dV T rv):ff 1 rv:=by
 rcases R with ⟨rfl,_⟩ | ⟨al,wk,j,x,_,_,_,_,_,_,rfl⟩
 ·exact .none
 ·exact .lst ff.strs
theorem mJ(rs:List (List Str)):ff 2 (.lst (rs.map tupS)):= .lst fun x hx=>by
 obtain ⟨u,_,rfl⟩:=mM hx;exact .tup ff.strs
theorem ff.mono{n m:Nat}{a:AV}(h:ff n a)(hm:n≤m):ff m a:=by
 induction h generalizing m with
 | none=>exact .none
 | bool b=>exact .bool b
 | int i=>exact .int i
 | str x=>exact .str x
 | lst h iw=>obtain ⟨k,rfl⟩:∃k,m = k+1:=⟨m - 1,by change ux⟩;exact .lst fun x hx=>iw x hx (Nat.le_of_succ_le_succ hm)
 | tup h iw=>obtain ⟨k,rfl⟩:∃k,m = k+1:=⟨m - 1,by change ux⟩;exact .tup fun x hx=>iw x hx (Nat.le_of_succ_le_succ hm)
section
variable {G:Gd}{cx:Cx}{fm:Fm}{X:Value→St→Prop}{W₀ W:Wd}{st:St}{s:Shared}{Q:AV→St→Prop}
theorem Cmp.notNoneRing{T:Told}{rv:AV}(R:dV T rv)(h:Q (.bool (! fz rv)) st):dH G cx fm X .IsNot rv .none st Q:=by
 rcases R with ⟨rfl,_⟩ | ⟨al,wk,j,x,_,_,_,_,_,_,rfl⟩
 ·exact Cmp.isNotNone (b:=false) rfl h
 ·exact Cmp.isNotNone (b:=true) rfl h
theorem Cmp.neLst{l:List AV}{n:Nat}(hd:∀x∈l,ff n x)(hn:n≤20)(h:Q (.bool false) st):dH G cx fm X .NotEq (.lst l) (.lst l) st Q:=by
 intro W₀ v u rv ru W s A hA hW hR hT;obtain ⟨p,vs,m,rfl,hL,rs⟩:=hR.lst (rv.mono hW) rfl;obtain ⟨q,us,m',rfl,hL',rs'⟩:=hR.lst (ru.mono hW) rfl;have hu:=hA.units;refine SeqAt.RcNeAt.lists (e:=fun Z=>true) hL.isList hL'.isList (by rw [List.size_toArray,List.size_toArray,← rs.length,← rs'.length]) (by change pe) (ff.items rs rs' fun x hx Z Y r1 r2=>(hd x hx).eq hR r1 r2 (by rw [Around.in1_units];change vg)) _ _ _ _ ⟨W,st,.bool false,.refl _,hR,?_,h⟩
 rw [all_true];rfl
theorem Sub.strAt{value slice:PySem.Expr}{a:AV}{ys:List Str}{i:Int}{j:Nat}{x:Str}(hl:aM st a = some (ys.map .str))(e:i = j)(hx:ys[j]? = some x)(hz:ys.length≤1000)(h:Q (.str x) st)
  (hs:∀o i,subscripted slice false o i = PySem.operate [o,i] (getItem o i):=by intro _ _;with_unfolding_all rfl):cZ G cx fm X value slice a (.int i) st Q:=by
 subst e;have e:idx (j:Int) (ys.map AV.str).length = j:=by unfold idx;rw [if_neg (by with_reducible exact fun Z=>uF ‹_›)]
 refine Sub.lst (l:=ys.map .str) (x:= .str x) hl (by rw [e];change u8) ?_ (by rw [lN,sizeLine_eq];change uv) h hs
 rw [e,Int.toNat_natCast,gM,hx];rfl
theorem Sub.intAt{value slice:PySem.Expr}{a:AV}{ns:List Int}{i:Int}{j:Nat}{x:Int}(hl:aM st a = some (ns.map .int))(e:i = j)(hx:ns[j]? = some x)(hz:ns.length≤1000)(h:Q (.int x) st)
  (hs:∀o i,subscripted slice false o i = PySem.operate [o,i] (getItem o i):=by intro _ _;with_unfolding_all rfl):cZ G cx fm X value slice a (.int i) st Q:=by
 subst e;have e:idx (j:Int) (ns.map AV.int).length = j:=by unfold idx;rw [if_neg (by with_reducible exact fun Z=>uF ‹_›)]
 refine Sub.lst (l:=ns.map .int) (x:= .int x) hl (by rw [e];change u8) ?_ (by rw [lN,sizeLine_eq];change uv) h hs
 rw [e,Int.toNat_natCast,gM,hx];rfl
theorem Sub.memM{value slice:PySem.Expr}{a:AV}{ys:List Str}{i:Int}{n:Nat}(hl:aM st a = some (ys.map .str))(hn:ys.length = n+1)(hz:n < 100)(h:∀y∈ys,Q (.str y) st)
  (hs:∀o i,subscripted slice false o i = PySem.operate [o,i] (getItem o i):=by intro _ _;with_unfolding_all rfl):cZ G cx fm X value slice a (.int (i.fmod ((n:Int)+1))) st Q:=by
 have h0:0≤i.fmod ((n:Int)+1):=Int.fmod_nonneg_of_pos _ (by change ug)
 have h1:i.fmod ((n:Int)+1) < (n:Int)+1:=Int.fmod_lt_of_pos _ (by change ug)
 obtain ⟨j,hj⟩:∃j:Nat,i.fmod ((n:Int)+1)= j:=⟨_,(Int.toNat_of_nonneg h0).symm⟩;rw [hj] at h1 ⊢;have hjl:j < ys.length:=by change yj
 exact Sub.strAt hl rfl (gE hjl) (by change yC) (h _ (List.getElem_mem hjl)) hs
theorem Cal.rstripC{x y z:Str}(hz:x.length≤sizeLine)(e:Txt.rstripChars x y = z)(h:Q (.str z) st):bB G cx fm X (.builtin "str.rstrip") [.str x,.str y] st Q:=by
 intro W₀ vs rs W s A hA hW hR hT;obtain ⟨_,_,rfl,⟨t,rfl⟩,_,_,rfl,⟨u,rfl⟩,rfl⟩:=rs;exact SC.rstripChars (fun t' k=>⟨W,st,.str z,.refl _,hR.toks _,by rw [e];exact Exists.intro _ rfl,h⟩) hz
end
end
section
section
variable {G:Gd}{cx:Cx}{fm:Fm}{X:Value→St→Prop}{st:St}{Q:AV→St→Prop}
inductive Aj(x y z:Str)(Q:AF→St→Prop)(a:AV)(st₁:St):Prop
 | mk (a1 a2 a3:AV) (ha:a = .tup [a1,a2,a3]) (h:Q .next (((st₁.setLoc z a3).setLoc y a2).setLoc x a1))
theorem an.assignSwap3{x y z:Str}{p1 p2 p3 pt pv pos:Pos}{x1 x2:_}{vs:List PySem.Expr}{Q:AF→St→Prop}(hc:cx.calm = true)(hx:aX fm x)(hy:aX fm y)(hz:aX fm z)
  (h:Ev G cx fm X (.Tuple vs x2 pv) st (Aj x y z Q))
  (h2:swappedStores [.Tuple [.Name x p1,.Name y p2,.Name z p3] x1 pt] (.Tuple vs x2 pv) (dY fm.names)= Pure.pure (some [x,y,z]):=by rfl):an G cx fm X (.Assign [.Tuple [.Name x p1,.Name y p2,.Name z p3] x1 pt] (.Tuple vs x2 pv) pos) st Q:=by
 intro W s A hA hW hR hT;have e:exec (.Assign [.Tuple [.Name x p1,.Name y p2,.Name z p3] x1 pt] (.Tuple vs x2 pv) pos) fm.env =(do
   PySem.standAt pos
   let v ← eval (.Tuple vs x2 pv) fm.env
   assignStores fm.env v (← swappedStores [.Tuple [.Name x p1,.Name y p2,.Name z p3] x1 pt] (.Tuple vs x2 pv) fm.env) ((assignEach [.Tuple [.Name x p1,.Name y p2,.Name z p3] x1 pt] fm.env).map (·.2))):=rfl
 rw [e,(aW (env':=dY fm.names) hR.ok.fn hR.ok.names).trans h2];refine wpAny_bind (wpAny_standAt (wpAny_bind (i9 hT (h W s A hA (bot_le _) hR hT) (fun v s₁ hT₁ z=>?_) fun Z Y V z=>z)));obtain ⟨W₁,st₁,a,le,R₁,ra,a1,a2,a3,rfl,h₁⟩:=z;obtain ⟨p,us,n,rfl,hp,rs⟩:=R₁.tup ra;obtain ⟨v1,r1,rfl,rv1,v2,r2,rfl,rv2,v3,r3,rfl,rv3,rfl⟩:=rs;refine wpAny_bind (wpAny_pure (wpAny_bind (wpAny_rule (wpAny_bind ?_))));refine wpAny_unpackItems_tuple (items:=#[v1,v2,v3]) (hA.calm hc) ⟨_,hp,rfl,n,rfl⟩ fun h' hk=>?_;have R₂:=R₁.fresh1 (t:=s₁.toks) hk;show wpAny _ _ (do (do PySem.holding [v2,v1] (bindName fm.env z v3);do PySem.holding [v1] (bindName fm.env y v2);do PySem.holding [] (bindName fm.env x v1);Pure.pure ());Pure.pure Flow.next) _ _ _
 have key:J G cx fm X W₁ (do (do PySem.holding [v2,v1] (bindName fm.env z v3);do PySem.holding [v1] (bindName fm.env y v2);do PySem.holding [] (bindName fm.env x v1);Pure.pure ());Pure.pure Flow.next) (RF G) st₁ Q:=by
  refine J.bind (R₁:=RU) (J.bind (J.holding (ik hz rv3 fun W₂ Z le₂ Y=>J.bind (J.holding (ik hy (rv2.mono le₂) fun W₃ Z le₃ Y=>J.bind (J.holding (ik hx (rv1.mono (le₂.trans le₃)) fun W₄ Z le₄ Y=>J.pure (b:=()) (fun Z Y=>trivial) fun W₅ Z le₅ Y=>?_)))))));exact J.pure (b:=AF.next) (fun Z Y=>rfl) h₁
 exact wpAny_mono (key W₁ _ A hA (.refl _) R₂ hT₁) (fun Z Y z=>z.le le) fun Z Y z=>z.le le
end
end
section
section
variable {G:Gd}{cx:Cx}{fm:Fm}{X:Value→St→Prop}{W₀ W:Wd}{st:St}{s:Shared}{Q:AV→St→Prop}
theorem Ex.freezeInL{ss:List Stmt}{m j:Nat}{l l' xs:List AV}{Q:AF→St→Prop}(hm:st.hp m = some (.list l))(hj:st.hp j = some (.list xs))(hmj:m≠j)
  (conv:∀(W:Wd) vs,(∀v,RV G W (.ref j) v→RV G W (.lst xs) v)→au G W l vs→au G W l' vs) (h:Ex G cx fm X ss ((st.del j).put m (.list l')) Q):Ex G cx fm X ss st Q:=by
 intro W s A hA hW hR hT;obtain ⟨a,_,p,_⟩:=hR.live (.obj j) (.list xs) hj;have rv:RV G W (.ref j) (.ref a):=⟨a,rfl,p⟩;obtain ⟨W',le,R',rv'⟩:=hR.freezeList hj rv;have cv:∀v,RV G W' (.ref j) v→RV G W' (.lst xs) v:=fun u ru=>by
  have e:u = .ref a:=by
   have rv2:=rv.mono le;obtain ⟨a1,rfl,h1⟩:=ru;obtain ⟨a2,e2,h2⟩:=rv2;rw [h1] at h2;cases h2;exact e2.symm
  rw [e];exact rv'
 have R'':Rep G W' fm ((st.del j).put m (.list l')) s:=R'.weaken fun k ao e=>by
  cases k with
  | obj i=>
   by_cases hi:i = m
   ·subst hi;have e':(if i = i then some (AO.list l') else (st.del j).hp i)= some ao:=e;rw [if_pos rfl] at e';cases e';refine ⟨.list l,(if_neg hmj).trans hm,fun o z=>?_⟩;obtain ⟨vs,hs,rs⟩:=z;exact ⟨vs,hs,conv W' vs cv rs⟩
   ·have e':(if i = m then some (AO.list l') else (st.del j).hp i)= some ao:=e;rw [if_neg hi] at e';exact ⟨ao,e',fun Z z=>z⟩
  | loc=>exact ⟨ao,e,fun Z z=>z⟩
  | cell x=>exact ⟨ao,e,fun Z z=>z⟩
 exact wpAny_mono (h W' s A hA (bot_le _) R'' hT) (fun Z Y z=>z.le le) fun Z Y z=>z.le le
end
theorem au.last{G:Gd}{W:Wd}{l:List AV}{x y:AV}{vs:List Value}(cv:∀v,RV G W x v→RV G W y v)(rs:au G W (l++ [x]) vs):au G W (l++ [y]) vs:=by
 refine au.of_get ?_ fun i a v ha hv=>?_
 ·rw [← rs.length,List.length_append,List.length_append];rfl
 ·by_cases hi:i < l.length
  ·rw [List.getElem?_append_left hi] at ha;obtain ⟨v',hv',rv⟩:=rs.get (i:=i) (x:=a) (by rw [List.getElem?_append_left hi];exact ha)
   rw [hv] at hv';cases hv';exact rv
  ·rw [List.getElem?_append_right (Nat.le_of_not_lt hi)] at ha;have h0:i - l.length = 0:=by
    have:=(gS ha).1;simpa using this
   rw [h0] at ha;cases ha;obtain ⟨v',hv',rv⟩:=rs.get (i:=i) (x:=x) (by rw [List.getElem?_append_right (Nat.le_of_not_lt hi),h0];rfl)
   rw [hv] at hv';cases hv';exact cv _ rv
noncomputable abbrev aG:=List (List Nat)
noncomputable def aA(rs:aG):AV:= .lst ((rs.map S2).map .str)
noncomputable def bu(p:List aG×aG)(raw:List Nat):List aG×aG:=
 if raw = [46] then (p.1++ [p.2],[]) else if raw.head? = some 46 then (p.1,p.2++ [raw.drop 1]) else (p.1,p.2++ [raw])
noncomputable def ul(raw:List Nat):Prop:=raw.head? = some 46→raw = [46]∨raw.take 2 = [46,46]
inductive Bh(hp0:Nat→Option AO)(Rw:aG)(m:Nat)(k:Nat)(st':St):Prop
 | mk (r:Nat) (hr0:hp0 r = Option.none) (hmr:m≠r) (h1:st'.hp m = some (.list (((Rw.take k).foldl bu ([],[])).1.map aA))) (h2:st'.hp r = some (.list ((((Rw.take k).foldl bu ([],[])).2.map S2).map .str))) (h3:∀i ao,hp0 i = some ao→st'.hp i = some ao) (h4:st'.loc "mails" = some (.ref m)) (h5:st'.loc "rows" = some (.ref r)) (h6:((Rw.take k).foldl bu ([],[])).1.length≤k∧((Rw.take k).foldl bu ([],[])).2.length≤k)
theorem uq(x:Str)(n:Nat):cut x Option.none (some (n:Int))= S2 (x.cps.toList.take n):=by
 unfold cut;rw [gm];rfl
theorem xr(x:Str)(n:Nat):cut x (some (n:Int)) Option.none = S2 (x.cps.toList.drop n):=by
 unfold cut;rw [pick_from];rfl
variable {w:World}{h₀:Heap}{os:OsState}{mg mb:Str→Option Value}{cx:Cx}{fm:Fm}{X:Value→St→Prop}{st:St}{Q:AV→St→Prop}
theorem rm{n:Nat}{x:Str}{Rw:aG}(O:(gd w h₀ os mg mb).Ok)(hc:cx.calm = true)(hn:n+1≤cx.n)(hz:x.length≤100000)(hs:Txt.split x ⟨#[13,10]⟩= Rw.map S2)(hl:Rw.length≤100000)(hrow:∀r∈Rw,r.length≤100000)(ok:∀r∈Rw,ul r)
  (h:Q (.lst ((Rw.foldl bu ([],[])).1.map aA++ [aA (Rw.foldl bu ([],[])).2])) st):
  aH (gd w h₀ os mg mb) cx fm X sI [.str x] st Q:=by
 have zl:(1000000:Nat)≤sizeLine:=by rw [sizeLine_eq];decide
 refine Fun.go (n:=n) O (cA.of O rfl rfl rfl) hn (Bind.p1 (fun Z=>rfl)) fun env he=>?_;clear he;refine Ex.cons (an.assignSwap2 hc (.inl rfl) (.inl rfl) (by decide) (Ev.tuple (ah.cons (Ev.listM (ah.nil ⟨Nat.zero_le _,fun m hm=>ah.cons (Ev.listM (ah.nil ⟨Nat.zero_le _,fun r hr=>ah.nil ⟨oS (Nat.le_refl 2) zl rfl,_,_,rfl,?_⟩⟩))⟩)))) rfl)
 have hm0:st.hp m = Option.none:=hm;have hr1:(if r = m then some (AO.list []) else st.hp r)= Option.none:=hr;have hrm:r≠m:=fun e=>by rw [if_pos e] at hr1;cases hr1
 have hr0:st.hp r = Option.none:=(if_neg hrm).symm.trans hr1;refine Ex.cons (an.for_ hc (Ev.mcall (Ev.loc rfl ⟨.builtin "str.split",_,aa.builtin _,Mth.str PySem.F.slot_str_split PySem.F.type_str_split,aU.cons (ah.cons (Ev.cstr (ah.nil ?_)))⟩)));rw [mQ];refine Cal.split rfl (oS hz zl rfl) (by rw [hs];exact lM (oS hl zl rfl)) ?_
 rw [hs];refine ⟨_,_,Iter.lst (xs:=(Rw.map S2).map .str) (lM (lM (oS hl zl rfl))),Bh st.hp Rw m,⟨r,hr0,Ne.symm hrm,(if_neg (Ne.symm hrm)).trans (if_pos rfl),if_pos rfl,fun i ao e=>?_,rfl,rfl,Nat.le_refl _,Nat.le_refl _⟩,fun Z Y V=>rfl,fun k y st' hy hI=>?_,fun st' hI=>?_⟩
 ·have h1:i≠r:=fun q=>by rw [q,hr0] at e;cases e
  have h2:i≠m:=fun q=>by rw [q,hm0] at e;cases e
  exact (if_neg h1).trans ((if_neg h2).trans e)
 ·obtain ⟨r,hr0,hmr,g1,g2,g3,l1,l2,b1,b2⟩:=hI;rw [gM,gM,Option.map_map] at hy;obtain ⟨raw,hraw,rfl⟩:=oM hy;have hkl:k < Rw.length:=(gS hraw).1;have hrm:=mG hraw;have hrl:=hrow raw hrm;have hok:=ok raw hrm;have hz2:(S2 raw).length≤sizeLine:=by rw [bA];exact oS hrl zl rfl
  have es:(Rw.take (k+1)).foldl bu ([],[])= bu ((Rw.take k).foldl bu ([],[])) raw:=by
   rw [List.take_add_one,hraw,List.foldl_append];rfl
  generalize hp:(Rw.take k).foldl bu ([],[])= p at *;obtain ⟨ms,rs⟩:=p;dsimp only at g1 g2 b1 b2;refine Asg.name (.inl rfl) ?_;refine Ex.cons (an.if_ (bj.cmp (Ev.loc rfl (Ev.cstr (Cmp.eqStr (Tru.bool ?_))))));have hmg:∀i ao,st.hp i = some ao→i≠m:=fun i ao e q=>by rw [q,hm0] at e;cases e
  by_cases h46:raw = [46]
  ·have e46:(S2 raw = Str.ofString "."):=by rw [h46];decide
   refine bH (decide_eq_true e46) ?_;refine Ex.cons (an.expr (Ev.mcall (Ev.loc l1 ⟨.builtin "list.append",_,aa.builtin _,Mth.list PySem.F.slot_list_append PySem.F.type_list_append (ai g1),aU.cons (ah.cons (Ev.loc l2 (ah.nil (Cal.append g1 (lM (lT (lT b1 (Nat.le_of_lt hkl)) (oS hl zl rfl))) ?_))))⟩)));refine Ex.cons (an.asg (Ev.listM (ah.nil ⟨Nat.zero_le _,fun r2 hr2=>Asg.name (.inl rfl) ?_⟩)) rfl rfl rfl);have hq:(if r2 = m then some (AO.list (ms.map aA++ [.ref r])) else st'.hp r2)= Option.none:=hr2;have h2m:r2≠m:=fun e=>by rw [if_pos e] at hq;cases hq
   have h20:st'.hp r2 = Option.none:=(if_neg h2m).symm.trans hq;have h2r:r2≠r:=fun e=>by rw [e,g2] at h20;cases h20
   have h2s:st.hp r2 = Option.none:=by
    cases e:st.hp r2 with
    | none=>rfl
    | some ao=>rw [g3 r2 ao e] at h20;cases h20
   have hm':(if m = r2 then some (AO.list []) else (if m = m then some (AO.list (ms.map aA++ [AV.ref r])) else st'.hp m))= some (AO.list (ms.map aA++ [AV.ref r])):=(if_neg (Ne.symm h2m)).trans (if_pos rfl);have hr':(if r = r2 then some (AO.list []) else (if r = m then some (AO.list (ms.map aA++ [AV.ref r])) else st'.hp r))= some (AO.list ((rs.map S2).map .str)):=(if_neg (Ne.symm h2r)).trans ((if_neg (Ne.symm hmr)).trans g2);refine Ex.freezeInL (l':=ms.map aA++ [aA rs]) hm' hr' hmr (fun W vs cv z=>au.last cv z) ?_;refine Ex.nil (Ex.nil ⟨r2,h2s,Ne.symm h2m,?_,?_,fun i ao e=>?_,l1,rfl,?_⟩)
   ·rw [es];unfold bu;rw [if_pos h46];refine (if_pos rfl).trans ?_;rw [List.map_append];rfl
   ·rw [es];unfold bu;rw [if_pos h46];exact (if_neg h2m).trans ((if_neg h2r).trans (if_pos rfl))
   ·have hi2:i≠r2:=fun q=>by rw [q,h2s] at e;cases e
    have hir:i≠r:=fun q=>by rw [q,hr0] at e;cases e
    exact (if_neg (hmg i ao e)).trans ((if_neg hir).trans ((if_neg hi2).trans ((if_neg (hmg i ao e)).trans (g3 i ao e))))
   ·rw [es];unfold bu;rw [if_pos h46];exact ⟨by rw [List.length_append];exact Nat.add_le_add_right b1 1,Nat.zero_le _⟩
  have n46:¬(S2 raw = Str.ofString "."):=fun e=>h46 (gg (e.trans (by decide:Str.ofString "." = S2 [46])))
  refine bN (decide_eq_false n46) ?_;have add:∀z:List Nat,bu (ms,rs) raw =(ms,rs++ [z])→∀loc',loc' "mails" = some (.ref m)→loc' "rows" = some (.ref r)→Bh st.hp Rw m (k+1) (St.put ⟨loc',st'.hp⟩ r (.list ((rs.map S2).map .str++ [.str (S2 z)]))):=fun z ez loc' q1 q2=>by
   refine ⟨r,hr0,hmr,?_,?_,fun i ao e=>?_,q1,q2,?_⟩
   ·rw [es,ez];exact (if_neg hmr).trans g1
   ·rw [es,ez];refine (if_pos rfl).trans ?_;rw [List.map_append,List.map_append];rfl
   ·have hir:i≠r:=fun q=>by rw [q,hr0] at e;cases e
    exact (if_neg hir).trans (g3 i ao e)
   ·rw [es,ez];exact ⟨Nat.le_succ_of_le b1,by rw [List.length_append];exact Nat.add_le_add_right b2 1⟩
  have hrz:((rs.map S2).map AV.str).length≤sizeLine:=lM (lM (lT (lT b2 (Nat.le_of_lt hkl)) (oS hl zl rfl)));refine Ex.cons (an.if_ (bj.cmp (Ev.sub (Ev.loc rfl (Ev.slice (b4.none (b4.some (Ev.cint ⟨_,rfl,b4.none ?_⟩))))))));refine Sub.sliceStr (x:=S2 raw) hz2 (Ev.cstr (Cmp.eqStr (Tru.bool ?_))) (fun Z Y=>rfl);have e1:cut (S2 raw) Option.none (some 1)= S2 (raw.take 1):=by have:=uq (S2 raw) 1;rw [bP] at this;exact this
  rw [e1]
  by_cases hd:raw.head? = some 46
  ·have ed:S2 (raw.take 1)= Str.ofString "." :=by
    cases raw with
    | nil=>cases hd
    | cons a t=>cases hd;show S2 [46] = Str.ofString ".";decide
   refine bH (decide_eq_true ed) ?_;have h2:raw.take 2 = [46,46]:=(hok hd).resolve_left h46;refine Ex.cons (an.expr (Ev.mcall (Ev.loc l2 ⟨.builtin "list.append",_,aa.builtin _,Mth.list PySem.F.slot_list_append PySem.F.type_list_append (ai g2),aU.cons (ah.cons (Ev.ifexp (bj.cmp (Ev.sub (Ev.loc rfl (Ev.slice (b4.none (b4.some (Ev.cint ⟨_,rfl,b4.none ?_⟩)))))))))⟩)));refine Sub.sliceStr (x:=S2 raw) hz2 (Ev.cstr (Cmp.eqStr (Tru.bool ?_))) (fun Z Y=>rfl);have e2:cut (S2 raw) Option.none (some 2)= Str.ofString ".." :=by
    have:=uq (S2 raw) 2;rw [bP] at this;rw [show (some (2:Int))= some ((2:Nat):Int) from rfl,this,h2];decide
   refine bH (decide_eq_true e2) ?_;refine Ev.sub (Ev.loc rfl (Ev.slice (b4.some (Ev.cint ⟨_,rfl,b4.none (b4.none ?_)⟩))));refine Sub.sliceStr (x:=S2 raw) hz2 ?_ (fun Z Y=>rfl);have e3:cut (S2 raw) (some 1) Option.none = S2 (raw.drop 1):=by have:=xr (S2 raw) 1;rw [bP] at this;exact this
   rw [e3];refine ah.nil (Cal.append g2 hrz (Ex.nil (Ex.nil (Ex.nil (add (raw.drop 1) ?_ _ (by exact l1) (by exact l2))))))
   unfold bu;rw [if_neg h46,if_pos hd]
  ·have ed:¬S2 (raw.take 1)= Str.ofString "." :=fun e=>hd (by
    have:=gg (e.trans (by decide:Str.ofString "." = S2 [46]))
    cases raw with
    | nil=>cases this
    | cons a t=>cases this;rfl)
   refine bN (decide_eq_false ed) ?_;refine Ex.cons (an.expr (Ev.mcall (Ev.loc l2 ⟨.builtin "list.append",_,aa.builtin _,Mth.list PySem.F.slot_list_append PySem.F.type_list_append (ai g2),aU.cons (ah.cons (Ev.loc rfl (ah.nil (Cal.append g2 hrz (Ex.nil (Ex.nil (Ex.nil (add raw ?_ _ (by exact l1) (by exact l2)))))))))⟩)))
   unfold bu;rw [if_neg h46,if_neg hd]
 ·obtain ⟨r,hr0,hmr,g1,g2,g3,l1,l2,b1,b2⟩:=hI;rw [lN,lN,List.take_length] at g1 g2 b1 b2;refine Ex.nil (Ex.freezeLoc (x:= "rows") (.inl rfl) l2 g2 ?_);have g1':(if m = r then Option.none else st'.hp m)= _:=(if_neg hmr).trans g1;refine Ex.cons (an.ret (J.forget (Ev.binop (Ev.loc l1 (Ev.listF (ah.cons (Ev.loc rfl (ah.nil ⟨oS (Nat.le_refl 1) zl rfl,?_⟩))))))));refine Bin.addListF (ai g1') rfl (by rw [lN];exact oS (Nat.succ_le_succ (lT b1 hl)) zl rfl) ⟨st.hp,fun k ao e=>?_,h⟩
  have hkr:k≠r:=fun q=>by rw [q,hr0] at e;cases e
  exact (if_neg hkr).trans (g3 k ao e)
end
section
open PySem.StrLaws PySem.Builtin PySem.Builtin.Str
set_option tactic.hygienic true in
theorem kW{x y z:Str}{F:Nat→List Nat}(hk:¬(x.length < y.length∨Str.strKind x < Str.strKind y))(hy:1≤y.length)(hs:∀p,p < x.length→¬At x y x.length p→F p = x.cps.getD p 0::F (p+1))(he:F x.length = [])(hh:∀p,At x y x.length p→F p = z.cps.toList++F (p+y.length)):
  (Str.join z (Txt.split x y)).cps.toList = F 0:=by
 obtain ⟨f,hG,hn⟩:=occ_tight x y hy;have main:=ij hs he hh _ 0 f (Nat.zero_le _) hG hn;unfold Txt.split
 split
 ·rename_i h;simp only [Bool.or_eq_true,decide_eq_true_eq] at h;exact absurd h hk
 ·split
  ·rename_i h;have e0:occurrences x y 0 x.length (x.length+1)= []:=List.isEmpty_iff.mp h;rw [e0] at main;have:(Str.join z (partsFrom x y.length 0 []))= x:=by
    exact (sub_whole x:strSub x 0 x.length = x)
   rw [this] at main;exact main
  ·rw [partsBetween_eq];exact main
theorem mP(x:Str)(hk:¬(x.length < (⟨#[13,10]⟩:Str).length∨Str.strKind x < Str.strKind ⟨#[13,10]⟩)):(Str.join ⟨#[10]⟩ (Txt.split x ⟨#[13,10]⟩)).cps.toList = cS (x.length+1) x.cps.toList:=by
 have stab:∀(n m:Nat) (l:List Nat),l.length < n→l.length < m→cS n l = cS m l:=by
  intro n
  induction n with
  | zero=>intro m l h;with_reducible exact (uG ‹_›).elim
  | succ n iw=>
   intro m l h1 h2;cases m with
   | zero=>with_reducible exact (uG ‹_›).elim
   | succ m=>
    cases l with
    | nil=>rw [eG,eG]
    | cons c r=>
     rw [cb,cb];simp only [List.length_cons] at h1 h2;rw [iw m r (by change Nat.lt_of_succ_lt_succ) (by change Nat.lt_of_succ_lt_succ),iw m r.tail (by simp;change t8) (by simp;change t8)]
 have hlen:x.length = x.cps.toList.length:=by simp [Str.length]
 have hsz:x.cps.size = x.length:=rfl;have:=kW (x:=x) (y:=⟨#[13,10]⟩) (z:=⟨#[10]⟩) (F:=fun p=>cS (x.length+1) (x.cps.toList.drop p)) hk (by show 1≤2;decide) (fun p hp hA=>?_) (by rw [hlen,List.drop_length,eG]) (fun p hA=>?_)
 ·simpa using this
 ·rw [drop_cons (by change uj),cb,if_neg,stab _ (x.length+1) _ (by simp;change xz) (by simp;change yA)]
  rintro ⟨h1,h2⟩;refine hA ((at2 x p).mpr ⟨?_,?_⟩)
  ·rw [Array.getD_eq_getD_getElem?] at h1;have:p < x.cps.size:=by change uj
   simp [this] at h1;simp [this,h1]
  ·rw [List.head?_drop] at h2;exact h2
 ·obtain ⟨h1,h2⟩:=(at2 x p).mp hA;have hp:p+1 < x.cps.toList.length:=(gS h2).1;rw [drop_cons (by change xI),cb]
  have e1:x.cps.getD p 0 = 13:=by
   rw [Array.getD_eq_getD_getElem?];rw [← Array.getElem?_toList,h1];rfl
  rw [e1,if_pos ⟨rfl,by rw [List.head?_drop];exact h2⟩,List.tail_drop,stab _ (x.length+1) _ (by simp;change xP) (by simp;change wC)]
  rfl
noncomputable def kn(rows:List (List Nat)):List Nat:=rows.flatMap (·++ [10])
theorem pV:∀(r:List Nat) (n:Nat) (t:List Nat),Clean r→r.length+1≤n→cS n (r++13::10::t)= r++10::cS (n - r.length - 1) t:=by
 intro zl
 induction zl with
 | nil=>
  intro zm;cases zm with
  | zero=>
   intro t _ h;exact absurd h (Nat.not_succ_le_zero _)
  | succ m=>
   intro t _ h;show cS (m+1) (13::10::t)= 10::cS (m+1 - 0 - 1) t;rw [cb,if_pos ⟨rfl,rfl⟩];rfl
 | cons c r ih=>
  intro zm;cases zm with
  | zero=>
   intro t hc h;exact absurd h (Nat.not_succ_le_zero _)
  | succ m=>
   intro t hc h;have iw:=ih m t (fun d hd=>hc d (.tail _ hd)) (Nat.le_of_succ_le_succ h);rw [List.cons_append,cb,if_neg (fun e=>(hc c (.head _)).2 e.1),iw,List.cons_append,show m+1 - (c::r).length - 1 = m - r.length - 1 by rw [List.length_cons,Nat.add_sub_add_right]]
theorem lS:∀(rows:List (List Nat)) (n:Nat),(∀r∈rows,Clean r)→(joinR rows).length≤n→cS n (joinR rows)= kn rows:=by
 intro zl
 induction zl with
 | nil=>
  intro n _ _;exact eG n
 | cons r rows ih=>
  intro n h hn;have e:joinR (r::rows)= r++(13::10::joinR rows):=by simp [joinR]
  have hn2:r.length+((joinR rows).length+1+1)≤n:=by rw [e,List.length_append] at hn;exact hn
  rw [e,pV r n _ (h r (.head _)) (lT (Nat.add_le_add_left (Nat.le_add_left 1 _) _) hn2),ih _ (fun x hx=>h x (.tail _ hx)) (Nat.le_sub_of_add_le (Nat.le_sub_of_add_le (by rw [Nat.add_comm];exact lT (Nat.add_le_add_left (Nat.le_succ _) _) hn2)))]
  simp [kn]
noncomputable def qq(z:List Nat):List (List Nat)→List Nat
 | []=> []
 | [r]=>r
 | r::s::t=>r++z++qq z (s::t)
theorem lu(z:Str):∀ps:List Str,(Str.join z ps).cps.toList = qq z.cps.toList (ps.map (·.cps.toList))
 | []=>rfl
 | [r]=>rfl
 | r::s::t=>by
  rw [join_cons z r (rest:=s::t) (by simp),lu z (s::t)];rfl
theorem addQ{a b c d e:Nat}(h:c+b = d+e):a+b+c+b = a+d+(e+b):=by
 rw [Nat.add_assoc (a+b) c b,h,Nat.add_assoc a b,Nat.add_assoc a d,← Nat.add_assoc d e b,Nat.add_comm b]
theorem jX(z:List Nat):∀ps:List (List Nat),ps≠ []→(qq z ps).length+z.length =(ps.map (·.length)).sum+z.length * ps.length
 | [],h=>absurd rfl h
 | [r],_=>by simp [qq]
 | r::s::t,_=>by
  have iw:=jX z (s::t) (by simp)
  have e:qq z (r::s::t)= r++z++qq z (s::t):=rfl;rw [e,List.length_append,List.length_append,List.map_cons,List.sum_cons,List.length_cons (as:=s::t),Nat.mul_succ];exact addQ iw
theorem n5(z:List Nat):∀ps:List (List Nat),ps≠ []→(qq z ps).count 10+z.count 10 =(ps.map (·.count 10)).sum+z.count 10 * ps.length
 | [],h=>absurd rfl h
 | [r],_=>by simp [qq]
 | r::s::t,_=>by
  have iw:=n5 z (s::t) (by simp)
  have e:qq z (r::s::t)= r++z++qq z (s::t):=rfl;rw [e,List.count_append,List.count_append,List.map_cons,List.sum_cons,List.length_cons (as:=s::t),Nat.mul_succ];exact addQ iw
theorem td:∀rows:List (List Nat),(kn rows).length+rows.length =(joinR rows).length:=by
 intro zl
 induction zl with
 | nil=>
  exact rfl
 | cons r rows ih=>
  have iw:=ih;simp only [kn,joinR,List.flatMap_cons,List.length_append,List.length_cons,List.length_nil] at iw ⊢;lia
theorem pI:∀rows:List (List Nat),(∀r∈rows,Clean r)→(joinR rows).count 10 = rows.length:=by
 intro zl
 induction zl with
 | nil=>
  intro _;exact rfl
 | cons r rows ih=>
  intro h;have iw:=ih fun x hx=>h x (.tail _ hx);have h0:r.count 10 = 0:=List.count_eq_zero.mpr fun hm=>(h r (.head _) 10 hm).1 rfl;simp only [joinR,List.flatMap_cons,List.count_append] at iw ⊢;rw [iw,h0];simp;exact Nat.add_comm _ _
theorem iP:∀rows:List (List Nat),(∀r∈rows,Clean r)→aK (kn rows)= rows++ [[]]:=by
 intro zl
 induction zl with
 | nil=>
  intro _;exact rfl
 | cons r rows ih=>
  intro h;have e:kn (r::rows)= r++10::kn rows:=by simp [kn]
  rw [e,i4 r _ (h r (.head _)),ih fun x hx=>h x (.tail _ hx)];rfl
theorem Bx{j l n r s:Nat}(h1:j+2 = s+2 * n)(h2:l+1 = s+1 * n)(h3:l+r = j):n = r+1:=by lia
theorem lC{rows:List (List Nat)}(h:∀r∈rows,Clean r)(hk:¬((S2 (joinR rows)).length < (⟨#[13,10]⟩:Str).length∨Str.strKind (S2 (joinR rows)) < Str.strKind ⟨#[13,10]⟩)):Txt.split (S2 (joinR rows)) ⟨#[13,10]⟩=(rows++ [[]]).map S2:=by
 have hne:=rY (S2 (joinR rows)) ⟨#[13,10]⟩;have h1:(Str.join ⟨#[13,10]⟩ (Txt.split (S2 (joinR rows)) ⟨#[13,10]⟩)).cps.toList = joinR rows:=by rw [join_split,bP]
 have h2:=mP (S2 (joinR rows)) hk;rw [bP,lS rows _ h (by rw [bA];exact Nat.le_succ _)] at h2
 generalize Txt.split (S2 (joinR rows)) ⟨#[13,10]⟩= ps at *;have hpm:ps.map (·.cps.toList)≠ []:=by simpa using hne
 have h3:=h1;have h4:=h2;rw [lu] at h3 h4;have l1:=jX [13,10] _ hpm;have l2:=jX [10] _ hpm;have c1:=n5 [13,10] _ hpm;have e3:qq [13,10] (ps.map (·.cps.toList))= joinR rows:=h3;have e4:qq [10] (ps.map (·.cps.toList))= kn rows:=h4;rw [e3] at l1 c1;rw [e4] at l2;rw [pI rows h] at c1;have l3:=td rows;have hn:(ps.map (·.cps.toList)).length = rows.length+1:=by
  exact Bx l1 l2 l3
 have hc:((ps.map (·.cps.toList)).map (·.count 10)).sum = 0:=by
  have:([13,10]:List Nat).count 10 = 1:=by decide
  rw [this,hn,Nat.one_mul] at c1;exact Nat.add_eq_right.mp c1.symm
 have hfree:∀p∈ps,10∉p.cps.toList:=fun p hp=>by
  have hm:p.cps.toList.count 10∈(ps.map (·.cps.toList)).map (·.count 10):=List.mem_map.mpr ⟨p.cps.toList,List.mem_map.mpr ⟨p,hp,rfl⟩,rfl⟩;have:=List.sum_eq_zero_iff_forall_eq_nat.mp hc _ hm;exact List.count_eq_zero.mp this
 have h5:=gu ps hne hfree;rw [h2,iP rows h] at h5;rw [h5,List.map_map]
 conv=>lhs;rw [← List.map_id ps]
 exact List.map_congr_left fun p Z=>(cR p).symm
theorem nG{rows:List (List Nat)}(h:∀r∈rows,Clean r):Txt.split (S2 (joinR rows)) ⟨#[13,10]⟩=(rows++ [[]]).map S2:=by
 cases rows with
 | nil=>decide
 | cons r rs=>
  refine lC h fun q=>q.elim (fun q=>?_) fun q=>?_
  ·rw [bA] at q;have e:joinR (r::rs)= r++([13,10]++joinR rs):=by simp [joinR]
   rw [e,List.length_append,List.length_append] at q;exact absurd q (Nat.not_lt.mpr (lT (Nat.le_add_right _ _) (Nat.le_add_left _ _)))
  ·have h1:Str.strKind (⟨#[13,10]⟩:Str)= 1:=by decide+kernel
   have h2:1≤Str.strKind (S2 (joinR (r::rs))):=by
    unfold Str.strKind
    split
    ·decide
    ·split <;> decide
   rw [h1] at q;exact absurd q (Nat.not_lt.mpr h2)
theorem pi:∀(rs:List (List Nat)) (ms:List aG) (acc:aG),(rs.map q1).foldl bu (ms,acc)=(ms,acc++rs):=by
 intro zl
 induction zl with
 | nil=>
  intro ms acc;rw [List.append_nil];rfl
 | cons r rs ih=>
  intro ms acc;have e:bu (ms,acc) (q1 r)=(ms,acc++ [r]):=by
   unfold bu q1
   by_cases h:r.head? = some 46
   ·rw [if_pos h,if_neg (fun e=>by cases r with | nil=>cases h | cons a t=>cases e),if_pos (show (46::r).head? = some 46 from rfl)];rfl
   ·rw [if_neg h,if_neg (fun e=>h (by rw [e];rfl)),if_neg h]
  rw [List.map_cons,List.foldl_cons,e,ih,List.append_assoc];rfl
theorem mU:∀(M:List aG) (ms:List aG),(M.flatMap fun rs:aG=>rs.map q1++ [[46]]).foldl bu (ms,[])=(ms++M,[]):=by
 intro zl
 induction zl with
 | nil=>
  intro ms;rw [List.append_nil];rfl
 | cons rs M ih=>
  intro ms;rw [List.flatMap_cons,List.foldl_append,List.foldl_append,pi];have e:([[46]]:aG).foldl bu (ms,[]++rs)=(ms++ [rs],[]):=by
   show bu (ms,[]++rs) [46] = _;unfold bu;rw [if_pos rfl];rfl
  rw [e,ih,List.append_assoc];rfl
theorem qY(M:List aG):((M.flatMap fun rs:aG=>rs.map q1++ [[46]])++ [[]]).foldl bu ([],[])=(M,[[]]):=by
 rw [List.foldl_append,mU,List.nil_append];rfl
theorem uK{M:List aG}:∀r∈(M.flatMap fun rs:aG=>rs.map q1++ [[46]])++ [[]],ul r:=fun r hr hd=>by
 rcases mA hr with hr | hr
 ·obtain ⟨rs,_,hr⟩:=List.mem_flatMap.mp hr;rcases mA hr with hr | hr
  ·obtain ⟨q,_,rfl⟩:=mM hr;unfold q1 at hd ⊢
   by_cases h:q.head? = some 46
   ·rw [if_pos h];cases q with
    | nil=>cases h
    | cons a t=>cases h;exact .inr rfl
   ·rw [if_neg h] at hd;exact absurd hd h
  ·exact .inl (List.mem_singleton.mp hr)
 ·rw [List.mem_singleton.mp hr] at hd;cases hd
end
section
noncomputable def kQ:Bool→List Nat→Bool
 | c,[]=>c
 | _,x::r=>kQ (x == 13) r
theorem oo:∀(a:List Nat) (c:Bool),a≠ []→kQ c a = decide (a.getLast? = some 13)
 | [],_,h=>absurd rfl h
 | [x],c,_=>by
  show (x == 13)= _
  by_cases h:x = 13 <;> simp [h]
 | x::y::r,c,_=>by
  show kQ (x == 13) (y::r)= _;rw [oo (y::r) _ (by simp),List.getLast?_cons_cons]
theorem li:∀(a:List Nat) (c:Bool) (b:List Nat),bk c (a++b)= bk c a++bk (kQ c a) b:=by
 intro zl
 induction zl with
 | nil=>
  intro c b;cases c <;> rfl
 | cons x r ih=>
  intro c b;rw [List.cons_append,kD,kD];show _ = _++bk (kQ (x == 13) r) b
  by_cases h:x = 13
  ·rw [if_pos h,if_pos h,ih true b,h];rfl
  ·rw [if_neg h,if_neg h,beq_false_of_ne h]
   by_cases h2:x = 10
   ·rw [if_pos h2,if_pos h2];cases c with
    | true=>rw [if_pos rfl,if_pos rfl,ih false b]
    | false=>rw [if_neg Bool.false_ne_true,if_neg Bool.false_ne_true,ih false b];rfl
   ·rw [if_neg h2,if_neg h2,ih false b];rfl
noncomputable def gq(q:Int):List Nat:=if q.fmod 3 = 0 then [13,10] else if q.fmod 3 = 1 then [10] else [13]
noncomputable def fR(t row:List Nat)(q:Int):List Nat:=if row = []∧t.getLast? = some 13∧gq q = [10] then [13,10] else gq q
noncomputable def a8(p:List Nat×Int)(row:List Nat):List Nat×Int:=(p.1++(row++fR p.1 row p.2),p.2.fdiv 3+1)
theorem gZ(q:Int):gq q = [13,10]∨gq q = [10]∨gq q = [13]:=by
 unfold gq
 split
 ·exact .inl rfl
 ·split
  ·exact .inr (.inl rfl)
  ·exact .inr (.inr rfl)
theorem tJ{t row:List Nat}(hc:Clean row)(q:Int):bk (kQ false t) (row++fR t row q)= row++ [10]:=by
 have hn:∀c:Bool,bk c [13,10] = [10]∧bk c [13] = [10]:=fun c=>by cases c <;> exact ⟨rfl,rfl⟩
 by_cases hr:row = []
 ·subst hr;rw [List.nil_append,List.nil_append];unfold fR
  by_cases ht:t.getLast? = some 13
  ·rcases gZ q with e | e | e
   ·rw [if_neg (fun z=>by rw [e] at z;cases z.2.2),e];exact (hn _).1
   ·rw [if_pos ⟨rfl,ht,e⟩];exact (hn _).1
   ·rw [if_neg (fun z=>by rw [e] at z;cases z.2.2),e];exact (hn _).2
  ·rw [if_neg (fun z=>ht z.2.1)];have hf:kQ false t = false:=by
    cases t with
    | nil=>rfl
    | cons a r=>rw [oo _ _ (by simp)];exact decide_eq_false ht
   rw [hf];rcases gZ q with e | e | e <;> rw [e] <;> rfl
 ·rw [iJ row _ _ hc (.inl hr)];unfold fR;rw [if_neg (fun z=>hr z.1)];rcases gZ q with e | e | e <;> rw [e] <;> rfl
theorem jm:∀(rows:List (List Nat)) (t:List Nat) (q:Int),(∀r∈rows,Clean r)→bk false (rows.foldl a8 (t,q)).1 = bk false t++kn rows:=by
 intro zl
 induction zl with
 | nil=>
  intro t q _;exact (List.append_nil _).symm
 | cons row rows ih=>
  intro t q h;rw [List.foldl_cons];show bk false (rows.foldl a8 (t++(row++fR t row q),q.fdiv 3+1)).1 = _;rw [ih _ _ fun x hx=>h x (.tail _ hx),li,tJ (h row (.head _)),List.append_assoc];rfl
theorem pa{rows:List (List Nat)}(h:∀r∈rows,Clean r)(q:Int):cn (rows.foldl a8 ([],q)).1 = rows:=by
 unfold cn;rw [jm rows [] q h];show (if (aK (kn rows)).getLast? = some [] then _ else _)= _;rw [show bk false []++kn rows = kn rows from rfl,iP rows h,if_pos (by simp),List.dropLast_concat]
theorem nw:∀(rows:List (List Nat)) (last:List Nat),(∀r∈rows,Clean r)→Clean last→aK (kn rows++last)= rows++ [last]:=by
 intro zl
 induction zl with
 | nil=>
  intro last _ h;show aK last = [last];have key:∀l:List Nat,Clean l→aK l = [l]:=by
   intro l
   induction l with
   | nil=>intro _;rfl
   | cons c r iw=>
    intro hn;rw [dv,if_neg (hn c (.head _)).1,iw fun d hd=>hn d (.tail _ hd)]
  exact key last h
 | cons r rows ih=>
  intro last h hl;have e:kn (r::rows)++last = r++10::(kn rows++last):=by simp [kn]
  rw [e,i4 r _ (h r (.head _)),ih last (fun x hx=>h x (.tail _ hx)) hl];rfl
theorem nu{rows:List (List Nat)}{last:List Nat}(h:∀r∈rows,Clean r)(hl:Clean last)(hn:last≠ [])(q:Int):cn ((rows.foldl a8 ([],q)).1++last)= rows++ [last]:=by
 unfold cn;have e:bk false ((rows.foldl a8 ([],q)).1++last)= kn rows++last:=by
  rw [li,jm rows [] q h];have:=iJ last (kQ false (rows.foldl a8 ([],q)).1) [] hl (.inl hn);rw [List.append_nil] at this;rw [this];show (([]:List Nat)++kn rows)++(last++bk false [])= _;rw [List.nil_append,show bk false [] = [] from rfl,List.append_nil]
 rw [e,nw rows last h hl,if_neg (by simp [hn])]
end
section
open PySem.StrLaws PySem.Builtin PySem.Builtin.Str
theorem mD{g:Nat→Bool}:∀{l:List Nat},(∀c,l.head? = some c→g c = false)→l.takeWhile g = []
 | [],_=>rfl
 | c::r,h=>by rw [List.takeWhile_cons,h c rfl];rfl
theorem pH{a e:List Nat}(ha:∀c,a.getLast? = some c→c≠13∧c≠10)(he:∀c∈e,c = 13∨c = 10):Txt.rstripChars (S2 (a++e)) (S2 [13,10])= S2 a:=by
 have hg1:∀c,c = 13∨c = 10→(S2 [13,10]).cps.contains c = true:=by
  rintro c (rfl | rfl) <;> simp [S2]
 have hg0:∀c,c≠13∧c≠10→(S2 [13,10]).cps.contains c = false:=fun c h=>by
  show (#[13,10]:Array Nat).contains c = false;simp [h.1,h.2]
 unfold Txt.rstripChars;rw [PyProof.Rows.stripBy_eq];generalize (S2 [13,10]).cps.contains = g at *;have e1:(((S2 (a++e)).cps.toList.drop 0).reverse.takeWhile g)= e.reverse:=by
  rw [bP,List.drop_zero,List.reverse_append,List.takeWhile_append_of_pos fun c hc=>hg1 c (he c (List.mem_reverse.mp hc)),mD fun c hc=>hg0 c (ha c (by rw [List.head?_reverse] at hc;exact hc)),List.append_nil]
 have e2:stripHi g true (S2 (a++e)) 0 = a.length:=by
  unfold stripHi;rw [if_pos rfl,e1,bA,List.length_append,List.length_reverse,Nat.add_sub_cancel]
 show strSub (S2 (a++e)) 0 (stripHi g true (S2 (a++e)) 0)= S2 a;rw [e2,← cR (strSub _ _ _),eg,bP];simp
noncomputable def bE(rows:List (List Nat))(q:Int):List Nat:=
 if (rows.foldl a8 ([],q)).2.fmod 2≠0∧rows.getLast?.getD []≠ [] then (rows.dropLast.foldl a8 ([],q)).1++rows.getLast?.getD [] else (rows.foldl a8 ([],q)).1
theorem px(rows:List (List Nat))(x:List Nat)(p:List Nat×Int):(rows++ [x]).foldl a8 p = a8 (rows.foldl a8 p) x:=by
 rw [List.foldl_append];rfl
set_option tactic.hygienic true in
theorem i8{rows:List (List Nat)}(h:∀r∈rows,Clean r)(q:Int):cn (bE rows q)= rows:=by
 unfold bE
 split
 ·rename_i h2;have hne:rows≠ []:=fun e=>h2.2 (by rw [e];rfl)
  have e:=List.dropLast_concat_getLast hne;have e2:rows.getLast?.getD [] = rows.getLast hne:=by rw [List.getLast?_eq_some_getLast hne];rfl
  have hn:=h2.2;rw [e2] at hn ⊢;rw [nu (fun r hr=>h r (List.dropLast_subset _ hr)) (h _ (List.getLast_mem hne)) hn,e]
 ·exact pa h q
theorem rO{rows:List (List Nat)}(h:∀r∈rows,Clean r)(hne:rows≠ [])(q:Int):bE rows q≠ []:=fun e=>by
 have:=i8 h q;rw [e] at this;exact hne this.symm
theorem gX(t row:List Nat)(q:Int):(fR t row q).length≤2∧∀c∈fR t row q,c = 13∨c = 10:=by
 unfold fR;have h2:∀l:List Nat,l = [13,10]∨l = [10]∨l = [13]→l.length≤2∧∀c∈l,c = 13∨c = 10:=by
  rintro l (rfl | rfl | rfl) <;> simp
 split
 ·exact h2 _ (.inl rfl)
 ·exact h2 _ (gZ q)
theorem BF{f t r e n:Nat}(h:f≤t+(r+e)+6 * n)(h1:r≤4)(h2:e≤2):f≤t+6 *(n+1):=by
 rw [Nat.mul_add,Nat.add_comm (6 * n),← Nat.add_assoc];exact lT h (Nat.add_le_add_right (Nat.add_le_add_left (Nat.add_le_add h1 h2) t) _)
theorem f8:∀(rows:List (List Nat)) (t:List Nat) (q:Int),(∀r∈rows,r.length≤4)→(rows.foldl a8 (t,q)).1.length≤t.length+6 * rows.length:=by
 intro zl
 induction zl with
 | nil=>
  intro t q _;exact Nat.le_refl _
 | cons r rows ih=>
  intro t q h;have iw:=ih (t++(r++fR t r q)) (q.fdiv 3+1) fun x hx=>h x (.tail _ hx);have h1:=h r (.head _);have h2:=(gX t r q).1;rw [List.length_append,List.length_append] at iw;rw [List.foldl_cons,List.length_cons];exact (BF iw h1 h2:((rows.foldl a8 (t++(r++fR t r q),q.fdiv 3+1)).1).length≤_)
theorem BE:∀{n:Nat},0 < n→6 *(n - 1)+4≤6 * n
 | n+1,_=>Nat.add_le_add_left (by decide:4≤6) (6 * n)
set_option tactic.hygienic true in
theorem pQ{rows:List (List Nat)}{q:Int}(h:∀r∈rows,r.length≤4):(bE rows q).length≤6 * rows.length:=by
 unfold bE
 split
 ·rename_i h2;have hne:rows≠ []:=fun e=>h2.2 (by rw [e];rfl)
  have e2:rows.getLast?.getD [] = rows.getLast hne:=by rw [List.getLast?_eq_some_getLast hne];rfl
  have h1:=f8 rows.dropLast [] q fun r hr=>h r (List.dropLast_subset _ hr);have h3:=h _ (List.getLast_mem hne);have h4:=List.length_pos_iff.mpr hne;rw [List.length_dropLast] at h1;rw [e2,List.length_append];exact lT (Nat.add_le_add h1 h3) (by rw [List.length_nil,Nat.zero_add];exact BE h4)
 ·have:=f8 rows [] q h;simpa using this
theorem jv:∀(rows:List (List Nat)) (t:List Nat) (q:Int),(∀r∈rows,∀c∈r,c < 256)→(∀c∈t,c < 256)→∀c∈(rows.foldl a8 (t,q)).1,c < 256:=by
 intro zl
 induction zl with
 | nil=>
  intro t q _ h;exact h
 | cons r rows ih=>
  intro t q h ht;exact ih _ _ (fun x hx=>h x (.tail _ hx)) fun c hc=>by
     rcases mA hc with hc | hc
     ·exact ht c hc
     rcases mA hc with hc | hc
     ·exact h r (.head _) c hc
     ·rcases (gX t r q).2 c hc with rfl | rfl <;> decide
set_option tactic.hygienic true in
theorem qj{rows:List (List Nat)}{q:Int}(h:∀r∈rows,∀c∈r,c < 256):∀c∈bE rows q,c < 256:=fun c hc=>by
 unfold bE at hc
 split at hc
 ·rename_i h2;have hne:rows≠ []:=fun e=>h2.2 (by rw [e];rfl)
  have e2:rows.getLast?.getD [] = rows.getLast hne:=by rw [List.getLast?_eq_some_getLast hne];rfl
  rw [e2] at hc;rcases mA hc with hc | hc
  ·exact jv _ _ _ (fun r hr=>h r (List.dropLast_subset _ hr)) (fun Z hc=>absurd hc List.not_mem_nil) c hc
  ·exact h _ (List.getLast_mem hne) c hc
 ·exact jv _ _ _ h (fun Z hc=>absurd hc List.not_mem_nil) c hc
end
section
noncomputable def cj:List Str:= [".","a","..",".a","..a"]
noncomputable def jY:List Str:= ["",".","a","..","\x0b.",".\x85","...a"]
noncomputable def fT:Str:= "..."
theorem kg:∀y∈cj++ [fT]++jY,y.cps.toList.length≤4∧∀c∈y.cps.toList,(c≠10∧c≠13)∧c < 256:=by
 decide+kernel
noncomputable def rowsOf(x:Str)(bf:List Str)(b1 b2:Str):aG:=x.cps.toList::(bf.map (·.cps.toList)++ [[],b1.cps.toList,b2.cps.toList])
theorem nR(bf:List Str):(bf.map (·.cps.toList)).map S2 = bf:=by
 rw [List.map_map]
 conv=>rhs;rw [← List.map_id bf]
 exact List.map_congr_left fun x Z=>cR x
theorem qc(x:Str)(bf:List Str)(b1 b2:Str):AV.lst ([AV.str x]++bf.map AV.str++ [.str (Str.ofString ""),.str b1,.str b2])= aA (rowsOf x bf b1 b2):=by
 unfold aA rowsOf;rw [List.map_cons,List.map_append,nR,cR,List.map_cons,List.map_append];show _ = AV.lst (AV.str x::(bf.map AV.str++ [AV.str (S2 []),AV.str (S2 b1.cps.toList),AV.str (S2 b2.cps.toList)]));rw [cR,cR,show S2 [] = Str.ofString "" by decide];rfl
noncomputable abbrev ba:=Str×List Str×aG×Int
noncomputable def cT(m:ba):AV:= .tup [aA m.2.2.1,.lst (m.2.1.map .str),.int m.2.2.2]
inductive ve(m:ba):Prop
 | mk (b1 b2:Str) (h1:b1∈jY) (h2:b2∈jY) (hl:m.2.1.length≤3) (hp:∀q∈m.2.1,q∈cj++ [fT]) (hr:m.2.2.1 = rowsOf m.1 m.2.1 b1 b2)
structure gP(M:List ba):Prop where
 nm:M.map (·.1)= cj
 on:∀m∈M,ve m
inductive BP(hp0:Nat→Option AO)(ns:List Int)(rings:Bool)(i:Nat)(k:Nat)(st':St):Prop
 | mk (M:List ba) (h1:M.map (·.1)= cj.take k) (h2:∀m∈M,ve m) (h5:st'.hp i = some (.list (M.map cT))) (h6:∀k,k≠i→st'.hp k = hp0 k) (h7:st'.loc "numbers" = some (.lst (ns.map .int))) (h8:st'.loc "rings" = some (.bool rings)) (h9:st'.loc "names" = some (.lst (cj.map .str))) (h10:st'.loc "bodies" = some (.lst (jY.map .str))) (h11:st'.loc "mails" = some (.ref i))
inductive Bu(hp0:Nat→Option AO)(ns:List Int)(rings:Bool)(i j k:Nat)(M:List ba)(pl:List Str)(k':Nat)(st₂:St):Prop
 | mk (ps:List Str) (q:Int) (h1:ps.length = k') (h2:∀x∈ps,x∈cj++ [fT]) (h3:st₂.hp j = some (.list (ps.map .str))) (h4:st₂.hp i = some (.list (M.map cT))) (h5:∀k,k≠i→k≠j→st₂.hp k = hp0 k) (h6:st₂.loc "numbers" = some (.lst (ns.map .int))) (h7:st₂.loc "rings" = some (.bool rings)) (h8:st₂.loc "names" = some (.lst (cj.map .str))) (h9:st₂.loc "bodies" = some (.lst (jY.map .str))) (h10:st₂.loc "mails" = some (.ref i)) (h11:st₂.loc "i" = some (.int k)) (h12:st₂.loc "pool" = some (.lst ((pl++ [fT]).map .str))) (h13:st₂.loc "before" = some (.ref j)) (h14:st₂.loc "q" = some (.int q))
variable {w:World}{h₀:Heap}{os:OsState}{mg mb:Str→Option Value}{cx:Cx}{fm:Fm}{X:Value→St→Prop}{st:St}{Q:AV→St→Prop}
theorem Ev.det{G:Gd}{e:PySem.Expr}{x:AV}(h:Ev G cx fm X e st fun v st₁=>v = x∧st₁ = st)(hq:Q x st):Ev G cx fm X e st Q:=
 J.mono h (fun v st₁ z=>by obtain ⟨rfl,rfl⟩:=z;exact hq) fun Z Y z=>z
theorem Bj(n:Nat):((n:Int)+1)≠0:=fun e=>Nat.succ_ne_zero n (Int.ofNat.inj e)
theorem qu{ns:List Int}{rings:Bool}{n:Nat}(O:(gd w h₀ os mg mb).Ok)(hc:cx.calm = true)(hn:n+1≤cx.n)(h5:ns.length = 5)
  (h:∀M,gP M→Q (.lst (M.map cT)) st):
  aH (gd w h₀ os mg mb) cx fm X q7 [.lst (ns.map .int),.bool rings] st Q:=by
 have zl:(1000000:Nat)≤sizeLine:=by rw [sizeLine_eq];decide
 refine Fun.go (n:=n) O (cA.of O rfl rfl rfl) hn (Bind.p2 (fun Z Y=>rfl)) fun env he=>?_;clear he
 with_reducible refine Ex.cons ?_
 with_reducible refine an.assignSwap2 hc ?a ?b ?c ?d ?e
 case a=>exact .inl rfl
 case b=>exact .inl rfl
 case c=>decide
 case e=>kernel_rfl
 with_reducible refine Ev.tuple ?_
 refine ah.cons ?_;refine Ev.listF (ah.cons (Ev.cstr (ah.cons (Ev.cstr (ah.cons (Ev.cstr (ah.cons (Ev.cstr (ah.cons (Ev.cstr (ah.nil ⟨oS (Nat.le_refl 5) zl rfl,?_⟩)))))))))));refine ah.cons (Ev.listF (ah.cons (Ev.cstr (ah.cons (Ev.cstr (ah.cons (Ev.cstr (ah.cons (Ev.cstr (ah.cons (Ev.cstr (ah.cons (Ev.cstr (ah.cons (Ev.cstr (ah.nil ⟨oS (Nat.le_refl 7) zl rfl,ah.nil ⟨oS (Nat.le_refl 2) zl rfl,_,_,rfl,?_⟩⟩))))))))))))))));refine Ex.cons (an.asg (Ev.listM (ah.nil ⟨Nat.zero_le _,fun i hi=>Asg.name (.inl rfl) ?_⟩)) rfl rfl rfl);refine Ex.cons (an.for_ hc ?_);refine Ev.call (Ev.boot (v:= .type "range") O ⟨_,rfl,aa.type _,aU.cons (ah.cons (Ev.cint (ah.nil (Cal.range1 ?_))))⟩ (by kernel_rfl) (by kernel_rfl))
 refine ⟨_,_,Iter.rng (a:=0) (b:=5) (by decide) (by decide) (by decide) (by decide),BP st.hp ns rings i,⟨[],rfl,fun Z hm=>absurd hm List.not_mem_nil,if_pos rfl,fun k hk=>if_neg hk,rfl,rfl,?_,?_,rfl⟩,fun Z Y V=>trivial,fun k x st' hx hI=>?_,fun st' hI=>?_⟩
 ·show some (AV.lst _)= _;unfold cj;rfl
 ·show some (AV.lst _)= _;unfold jY;rfl
 ·obtain ⟨M,hM,b1,g1,g2,l1,l2,l3,l4,l5⟩:=hI;obtain ⟨hk,rfl⟩:=eb hx;rw [Int.zero_add];have hk5:k < 5:=hk;have hnm:cj.length = 5:=by decide+kernel
  have hMl:M.length≤5:=by have:=congrArg List.length hM;rw [lN,List.length_take,hnm] at this;exact lT (qE this) (Nat.min_le_right _ _)
  have en:=gE (show k < ns.length from h5.symm▸hk5);generalize ns[k] = num at en;refine Asg.name (.inl rfl) ?_;refine Ex.cons (an.assignSwap3 hc (.inl rfl) (.inl rfl) (.inl rfl) (Ev.tuple (ah.cons (Ev.binop ?_))) (by kernel_rfl))
  obtain ⟨pl,hpl,hpl2,hpl3⟩:∃pl:List Str,(pl = if rings = true then cj else cj.take k)∧pl.length≤5∧∀x∈pl,x∈cj:=⟨_,rfl,by split;exact qE hnm;rw [List.length_take];exact lT (Nat.min_le_right _ _) (qE hnm),by split;exact fun x hx=>hx;exact fun x hx=>List.mem_of_mem_take hx⟩
  refine Ev.det (x:= .lst (pl.map .str)) (Ev.ifexp (bj.plain (Ev.loc l2 (Tru.bool ?_)))) ?_
  ·cases rings with
   | true=>exact bH rfl (Ev.loc l3 ⟨by rw [hpl];rfl,rfl⟩)
   | false=>
    refine bN rfl (Ev.sub (Ev.loc l3 (Ev.slice (b4.none (b4.some (Ev.loc rfl ⟨_,rfl,b4.none ?_⟩))))));exact Sub.sliceE (l:=cj.map .str) rfl (by simp) (lM (oS (qE hnm) zl rfl)) (gm _ _) ⟨by rw [hpl,← List.map_take];rfl,rfl⟩ (fun Z Y=>rfl)
  refine Ev.listF (ah.cons (Ev.cstr (ah.nil ⟨oS (Nat.le_refl 1) zl rfl,?_⟩)));refine Bin.addListF (l:=pl.map .str) (l':= [.str fT]) rfl rfl (lT (Nat.add_le_add (lM hpl2) (Nat.le_refl 1)) (oS (Nat.le_refl 6) zl rfl)) ?_;have epl:pl.map AV.str++ [.str fT] =(pl++ [fT]).map AV.str:=by rw [List.map_append];rfl
  rw [epl];have hpm:∀x∈pl++ [fT],x∈cj++ [fT]:=fun x hx=>by
   rcases mA hx with hx | hx
   ·exact aL _ (hpl3 x hx)
   ·exact aR _ hx
  have hpln:(pl++ [fT]).length = pl.length+1:=List.length_append;clear hpl;refine ah.cons (Ev.listM (ah.nil ⟨Nat.zero_le _,fun j hj=>?_⟩));have hj':st'.hp j = Option.none:=hj;have hji:j≠i:=fun e=>by subst e;rw [g1] at hj';cases hj'
  refine ah.cons (Ev.binop (Ev.sub (Ev.loc l1 (Ev.loc rfl (Sub.intAt (ns:=ns) (j:=k) rfl rfl en (oL (qE h5) rfl) (Ev.cint (Bin.divInt O (by decide) ?_)))))))
  refine ah.nil ⟨oS (Nat.le_refl 3) zl rfl,_,_,_,rfl,?_⟩;refine Ex.cons (an.for_ hc ?_);refine Ev.call (Ev.boot (v:= .type "range") O ⟨_,rfl,aa.type _,aU.cons (ah.cons (Ev.binop (Ev.sub (Ev.loc l1 (Ev.loc rfl (Sub.intAt (ns:=ns) (j:=k) rfl rfl en (oL (qE h5) rfl) (Ev.cint (Bin.modInt (by decide) (ah.nil (Cal.range1 ?_))))))))))⟩ (by kernel_rfl) (by kernel_rfl))
  have e0:=Int.fmod_nonneg_of_pos num (show (0:Int) < 4 by decide)
  have e1:=Int.fmod_lt_of_pos num (show (0:Int) < 4 by decide)
  have h34:(num.fmod 4 - 0).toNat≤3:=Int.toNat_le.mpr (by rw [Int.sub_zero];exact Int.le_of_lt_add_one e1)
  refine ⟨_,_,Iter.rng (a:=0) (b:=num.fmod 4) (by decide) (by decide) e0 (Int.le_trans (Int.le_of_lt e1) (by decide)),Bu st.hp ns rings i j k M pl,⟨[],_,rfl,fun Z hm=>absurd hm List.not_mem_nil,if_pos rfl,(if_neg (Ne.symm hji)).trans g1,fun k hk hk2=>(if_neg hk2).trans (g2 k hk),l1,l2,l3,l4,l5,rfl,rfl,rfl,rfl⟩,fun Z Y V=>trivial,fun k' x st₂ hx hI=>?_,fun st₂ hI=>?_⟩
  ·obtain ⟨hk',rfl⟩:=eb hx;obtain ⟨ps,q,hpsl,hpsn,g3,g4,g5,m1,m2,m3,m4,m5,m6,m7,m8,m9⟩:=hI;have hk4:k' < 4:=Nat.lt_of_lt_of_le hk' (Nat.le_succ_of_le h34);have elen:(((pl++ [fT]).map AV.str).length:Int)=(pl.length:Int)+1:=by rw [lN,hpln];rfl
   refine Asg.name (.inl rfl) ?_;refine Ex.cons (an.expr (Ev.mcall (Ev.loc m8 ⟨.builtin "list.append",_,aa.builtin _,Mth.list PySem.F.slot_list_append PySem.F.type_list_append (ai g3),aU.cons (ah.cons (Ev.sub (Ev.loc m7 (Ev.binop (Ev.loc m9 (Ev.call (Ev.boot (v:= .builtin "len") O ⟨_,rfl,aa.builtin _,aU.cons (ah.cons (Ev.loc m7 (ah.nil (Cal.len (l:=(pl++ [fT]).map .str) rfl (lM (lT (qE hpln) (oS (Nat.succ_le_succ hpl2) zl rfl))) ?_))))⟩ (by kernel_rfl) (by kernel_rfl))))))))⟩)))
   refine Bin.modIntE (c:=q.fmod ((pl.length:Int)+1)) (by rw [elen];exact Bj _) (by rw [elen]) (Sub.memM (ys:=pl++ [fT]) rfl hpln (Nat.lt_of_le_of_lt hpl2 (by decide)) fun y hy=>ah.nil (Cal.append g3 (lM (oS (lT (qE hpsl) (Nat.le_of_lt hk4)) zl rfl)) ?_))
   refine Ex.cons (an.asg (Ev.binop (Ev.loc m9 (Ev.call (Ev.boot (v:= .builtin "len") O ⟨_,rfl,aa.builtin _,aU.cons (ah.cons (Ev.loc m7 (ah.nil (Cal.len (l:=(pl++ [fT]).map .str) rfl (lM (lT (qE hpln) (oS (Nat.succ_le_succ hpl2) zl rfl))) ?_))))⟩ (by kernel_rfl) (by kernel_rfl))))) rfl rfl rfl)
   refine Bin.divInt O (by rw [elen];exact Bj _) (Asg.name (.inl rfl) (Ex.nil ⟨ps++ [y],_,by rw [List.length_append,hpsl];rfl,fun x hx=>?_,?_,?_,fun k hk hk2=>?_,m1,m2,m3,m4,m5,m6,m7,m8,rfl⟩))
   ·rcases mA hx with hx | hx
    ·exact hpsn x hx
    ·rw [List.mem_singleton] at hx;subst hx;exact hpm _ hy
   ·show (if j = j then _ else _)= _;rw [if_pos rfl,List.map_append];rfl
   ·exact (if_neg (Ne.symm hji)).trans g4
   ·exact (if_neg hk2).trans (g5 k hk hk2)
  ·obtain ⟨ps,q,hpsl,hpsn,g3,g4,g5,m1,m2,m3,m4,m5,m6,m7,m8,m9⟩:=hI;have hps3:ps.length≤3:=by
    rw [show (intsFrom 0 (num.fmod 4 - 0).toNat).length =(num.fmod 4 - 0).toNat by simp [intsFrom]] at hpsl
    exact lT (qE hpsl) h34
   refine Ex.nil (Ex.freezeLoc (.inl rfl) m8 g3 ?_);have g4':(st₂.del j).hp i = some (.list (M.map cT)):=by
    exact (if_neg (Ne.symm hji)).trans g4
   have g5':∀k,k≠i→(st₂.del j).hp k = st.hp k:=fun k hk=>by
    show (if k = j then _ else st₂.hp k)= _
    by_cases hkj:k = j
    ·subst hkj;rw [if_pos rfl,← g2 k hk];exact hj'.symm
    ·exact (if_neg hkj).trans (g5 k hk hkj)
   have hkn:k < cj.length:=Nat.lt_of_lt_of_le hk5 (qE hnm.symm);have hxk:=gE hkn;generalize cj[k] = x at hxk;refine Ex.cons (an.asg (Ev.binop (Ev.binop (Ev.listF (ah.cons (Ev.sub (Ev.loc m3 (Ev.loc m6 (Sub.strAt (ys:=cj) rfl rfl hxk (by rw [hnm];decide) (ah.nil ⟨oS (Nat.le_refl 1) zl rfl,Ev.loc rfl ?_⟩))))))))) rfl rfl rfl)
   refine Bin.addListF (l:= [.str x]) (l':=ps.map .str) rfl rfl (lT (Nat.add_le_add (Nat.le_refl 1) (lM hps3)) (oS (Nat.le_refl 4) zl rfl)) ?_;refine Ev.listF (ah.cons (Ev.cstr (ah.cons (Ev.sub (Ev.loc m4 (Ev.binop (Ev.loc m9 (Ev.cint (Bin.modInt (by decide) (Sub.memM (ys:=jY) (n:=6) rfl rfl (by decide) fun y1 hy1=>?_))))))))))
   refine ah.cons (Ev.sub (Ev.loc m4 (Ev.binop (Ev.binop (Ev.loc m9 (Ev.cint (Bin.divInt O (by decide) (Ev.cint (Bin.modInt (by decide) (Sub.memM (ys:=jY) (n:=6) rfl rfl (by decide) fun y2 hy2=>ah.nil ⟨oS (Nat.le_refl 3) zl rfl,?_⟩))))))))))
   refine Bin.addListF (l:= [.str x]++ps.map .str) (l':= [.str (Str.ofString ""),.str y1,.str y2]) rfl rfl (by rw [List.length_append,lN];exact oS (Nat.add_le_add (Nat.add_le_add (Nat.le_refl 1) hps3) (Nat.le_refl 3)) zl rfl) ?_
   rw [qc];refine Asg.name (.inl rfl) ?_;refine Ex.cons (an.expr (Ev.mcall (Ev.loc m5 ⟨.builtin "list.append",_,aa.builtin _,Mth.list PySem.F.slot_list_append PySem.F.type_list_append (ai g4'),aU.cons (ah.cons (Ev.tuple (ah.cons (Ev.loc rfl (ah.cons (Ev.loc rfl (ah.cons (Ev.binop (Ev.loc m9 (Ev.cint (Bin.divInt O (by decide) (ah.nil ⟨oS (Nat.le_refl 3) zl rfl,ah.nil ?_⟩))))))))))))⟩)))
   refine Cal.append g4' (lM (oL hMl rfl)) (Ex.nil ⟨M++ [(x,ps,rowsOf x ps y1 y2,q.fdiv 49)],?_,fun m hm=>?_,?_,fun k' hk'=>?_,m1,m2,m3,m4,m5⟩)
   ·rw [List.map_append,hM,List.take_add_one,hxk];rfl
   ·rcases mA hm with hm | hm
    ·exact b1 m hm
    ·rw [List.mem_singleton] at hm;subst hm;exact ⟨y1,y2,hy1,hy2,hps3,hpsn,rfl⟩
   ·show (if i = i then _ else _)= _;rw [if_pos rfl,List.map_append];rfl
   ·exact (if_neg hk').trans (g5' k' hk')
 ·obtain ⟨M,hM,b1,g1,g2,l1,l2,l3,l4,l5⟩:=hI;refine Ex.nil (Ex.cons (an.ret (J.forget (J.freeze (Ev.loc l5 ⟨i,_,rfl,g1,st.hp,fun k ao e=>?_,h M ⟨hM,b1⟩⟩)))));have hi':st.hp i = Option.none:=hi;have hki:k≠i:=fun e'=>by subst e';rw [hi'] at e;cases e
  show (if k = i then _ else st'.hp k)= _;rw [if_neg hki,g2 k hki];exact e
end
section
noncomputable def look(M:List ba)(x:Str):ba:=(M.find? fun m=>decide (m.1 = x)).getD (x,[],[],0)
theorem ki:∀{M:List ba},(M.map (·.1)).Nodup→∀{m:ba},m∈M→look M m.1 = m:=by
 intro zl
 induction zl with
 | nil=>
  intro _ m h;cases h
 | cons a M ih=>
  intro hnd m h;rw [List.map_cons,List.nodup_cons] at hnd;unfold look;rw [List.find?_cons];rcases mC h with rfl | h
  ·rw [show decide (m.1 = m.1)= true from decide_eq_true rfl];rfl
  ·rw [show decide (a.1 = m.1)= false from decide_eq_false fun e=>hnd.1 (by rw [e];exact List.mem_map_of_mem h)]
   exact ih hnd.2 h
noncomputable def ic(M:List ba)(x:Str):aG:=(look M x).2.2.1
noncomputable def sV(M:List ba)(x:Str):List Str:=(look M x).2.1
noncomputable def yI(M:List ba)(x:Str):Str:=S2 (bE (ic M x) (look M x).2.2.2)
theorem eF:cj.Nodup:=by decide+kernel
theorem j7:cj.length = 5:=by decide+kernel
theorem tM:fT∉cj:=by decide+kernel
theorem qr:∀x∈cj++ [fT],x≠S2 []:=by decide+kernel
theorem gP.nodup{M:List ba}(h:gP M):(M.map (·.1)).Nodup:=by rw [h.nm];exact eF
theorem gP.len{M:List ba}(h:gP M):M.length = 5:=by rw [← List.length_map (f:=(·.1)),h.nm];exact j7
theorem gP.at{M:List ba}(h:gP M){x:Str}(hx:x∈cj):look M x∈M∧(look M x).1 = x:=by
 rw [← h.nm] at hx;obtain ⟨m,hm,rfl⟩:=mM hx;rw [ki h.nodup hm];exact ⟨hm,rfl⟩
inductive fZ(rs:aG):Prop
 | mk (ne:rs≠ []) (cl:∀r∈rs,Clean r) (le:∀r∈rs,r.length≤4) (ln:rs.length≤10) (sm:∀r∈rs,∀c∈r,c < 256)
theorem oh{m:ba}(h:ve m)(hx:m.1∈cj):fZ m.2.2.1:=by
 obtain ⟨b1,b2,h1,h2,hl,hp,hr⟩:=h;rw [hr];have key:∀r∈rowsOf m.1 m.2.1 b1 b2,∃y∈cj++ [fT]++jY,r = y.cps.toList:=fun r hr=>by
  rcases mC hr with rfl | hr
  ·exact ⟨_,aL _ (aL _ hx),rfl⟩
  rcases mA hr with hr | hr
  ·obtain ⟨y,hy,rfl⟩:=mM hr;exact ⟨y,aL _ (hp y hy),rfl⟩
  rcases mC hr with rfl | hr
  ·exact ⟨"",aR _ (.head _),by decide+kernel⟩
  rcases mC hr with rfl | hr
  ·exact ⟨b1,aR _ h1,rfl⟩
  ·exact ⟨b2,aR _ h2,List.mem_singleton.mp hr⟩
 refine ⟨by unfold rowsOf;exact List.cons_ne_nil _ _,fun r hr=>?_,fun r hr=>?_,?_,fun r hr=>?_⟩
 ·obtain ⟨y,hy,rfl⟩:=key r hr;exact fun c hc=>((kg y hy).2 c hc).1
 ·obtain ⟨y,hy,rfl⟩:=key r hr;exact (kg y hy).1
 ·unfold rowsOf;rw [List.length_cons,List.length_append,lN];exact Nat.succ_le_succ (lT (Nat.add_le_add hl (Nat.le_refl 3)) (by decide))
 ·obtain ⟨y,hy,rfl⟩:=key r hr;exact fun c hc=>((kg y hy).2 c hc).2
theorem tB{rs:aG}(h:fZ rs)(q:Int):(S2 (bE rs q)).length≤60∧(∀c∈(S2 (bE rs q)).cps.toList,c < 256)∧(S2 (bE rs q)).cps.toList≠ []∧cn (S2 (bE rs q)).cps.toList = rs:=by
 obtain ⟨ne,cl,le,ln,sm⟩:=h;rw [bA,bP];exact ⟨lT (pQ le) (Nat.mul_le_mul_left 6 ln),qj sm,rO cl ne q,i8 cl q⟩
theorem gP.rows{M:List ba}(h:gP M){x:Str}(hx:x∈cj):fZ (ic M x):=by
 have:=h.at hx;exact oh (h.on _ this.1) (this.2.symm▸hx)
theorem gP.bf{M:List ba}(h:gP M){x:Str}(hx:x∈cj):(sV M x).length≤3∧(∀q∈sV M x,q∈cj++ [fT])∧∃b1 b2,ic M x = rowsOf x (sV M x) b1 b2:=by
 have:=h.at hx;obtain ⟨b1,b2,h1,h2,hl,hp,hr⟩:=h.on _ this.1;rw [this.2] at hr;exact ⟨hl,hp,b1,b2,hr⟩
inductive oQ(T:Told):Prop
 | mk (nd:(T.map (·.1)).Nodup) (sub:∀p∈T,p.1∈cj) (len:∀p∈T,p.2.length≤3) (cl:∀p∈T,∀q∈p.2,q = fT∨q∈T.map (·.1))
theorem nB{N:Nat}:∀T:Told,(∀p∈T,p.2.length≤N)→(az T).length≤T.length *(N+1):=by
 intro zl
 induction zl with
 | nil=>
  intro _;exact Nat.zero_le _
 | cons p T ih=>
  intro h;have iw:=ih fun q hq=>h q (.tail _ hq);have h1:=h p (.head _);unfold az at iw ⊢;rw [List.flatMap_cons,List.length_append,List.length_cons,List.length_cons,Nat.succ_mul,Nat.add_comm];exact Nat.add_le_add iw (Nat.succ_le_succ h1)
theorem oQ.len5{T:Told}(h:oQ T):T.length≤5:=by
 obtain ⟨nd,sub,_,_⟩:=h;rw [← List.length_map (f:=(·.1)),← j7];refine bw nd fun x hx=>?_;obtain ⟨p,hp,rfl⟩:=mM hx;exact sub p hp
theorem oQ.flat{T:Told}(h:oQ T):(az T).length≤20:=by
 have hl:=h.len5;obtain ⟨_,_,len,_⟩:=h;exact lT (nB T len) (Nat.mul_le_mul_right 4 hl)
theorem oQ.ment{T:Told}(h:oQ T){x:Str}(hx:x∈ag T):x = fT∨x∈T.map (·.1):=by
 obtain ⟨_,_,_,cl⟩:=h;obtain ⟨p,hp,rfl | hq⟩:=bq.mp hx
 ·exact .inr (List.mem_map_of_mem hp)
 ·exact cl p hp x hq
theorem oQ.ext{T:Told}(h:oQ T):∃T',Ext T fT T'∧(az T').length≤21∧(ag T').length≤6:=by
 have hf:=h.flat;have hm:(ag T).length≤6:=by
  have e:(cj++ [fT]).length = 6:=by rw [List.length_append,j7];rfl
  rw [← e];refine bw (cg T) fun x hx=>?_;rcases h.ment hx with rfl | hx
  ·exact aR _ (.head _)
  ·obtain ⟨_,sub,_,_⟩:=h;obtain ⟨p,hp,rfl⟩:=mM hx;exact aL _ (sub p hp)
 by_cases hd:fT∈ag T∧fT∉T.map (·.1)
 ·refine ⟨_,.one hd.1 hd.2 fun x hx=>h.ment hx,by rw [iQ,List.length_append];exact Nat.succ_le_succ hf,?_⟩
  rw [Ext.mention (.one hd.1 hd.2 fun x hx=>h.ment hx)];exact hm
 ·refine ⟨T,.same fun x hx=>?_,Nat.le_succ_of_le hf,hm⟩;rcases h.ment hx with rfl | h1
  ·exact Classical.byContradiction fun hn=>hd ⟨hx,hn⟩
  ·exact h1
noncomputable def fQ(M:List ba):Told:=M.map fun m=>(m.1,m.2.1)
theorem iF{M:List ba}{s:Nat}(h:gP M):oQ (fQ (M.drop s++M.take s)):=by
 have hp:(M.drop s++M.take s).Perm M:=List.perm_append_comm.trans (by rw [List.take_append_drop])
 have e:(fQ (M.drop s++M.take s)).map (·.1)=(M.drop s++M.take s).map (·.1):=by unfold fQ;rw [List.map_map];rfl
 have hpm:=hp.map (·.1);rw [h.nm] at hpm;refine ⟨by rw [e];exact hpm.nodup_iff.mpr eF,fun p hq=>?_,fun p hq=>?_,fun p hq q hq2=>?_⟩
 all_goals
  obtain ⟨m,hm,rfl⟩:=mM hq;have hm':=hp.mem_iff.mp hm
 ·rw [← h.nm];exact List.mem_map_of_mem hm'
 ·obtain ⟨_,_,_,_,hl,_,_⟩:=h.on m hm';exact hl
 ·obtain ⟨_,_,_,_,_,hq3,_⟩:=h.on m hm';rcases mA (hq3 q hq2) with h1 | h1
  ·right;rw [e];exact hpm.mem_iff.mpr h1
  ·exact .inl (List.mem_singleton.mp h1)
theorem mO{M:List ba}{s:Nat}(h:gP M){x:Str}(hx:x∈cj):partsOf (fQ (M.drop s++M.take s)) x = sV M x:=by
 have hp:(M.drop s++M.take s).Perm M:=List.perm_append_comm.trans (by rw [List.take_append_drop])
 obtain ⟨nd,_,_,_⟩:=iF (s:=s) h;have h1:=h.at hx;have h2:((look M x).1,(look M x).2.1)∈fQ (M.drop s++M.take s):=List.mem_map_of_mem (f:=fun m:ba=>(m.1,m.2.1)) (hp.mem_iff.mpr h1.1);have:=bG nd h2;rw [h1.2] at this;exact this
noncomputable def jL(b:Bool)(T':Told):List Str:=(bU b T').filter fun x=>decide (x∈cj)
noncomputable def cX(M:List ba)(l:List Str):Told:=l.map fun x=>(x,sV M x)
theorem c5(M:List ba)(l:List Str):(cX M l).map (·.1)= l:=by
 unfold cX;rw [List.map_map];exact List.map_id l
theorem qJ{M:List ba}{s:Nat}{b:Bool}{T':Told}(h:gP M)(E:Ext (fQ (M.drop s++M.take s)) fT T'):oQ (cX M (jL b T'))∧(jL b T').Nodup∧∀x∈jL b T',x∈cj:=by
 obtain ⟨nd,sub,len,cl⟩:=iF (s:=s) h;have ok:=kh (E.tok nd) (b:=b);have hsub:∀x∈jL b T',x∈cj:=fun x hx=>of_decide_eq_true (List.mem_filter.mp hx).2;have hnd:(jL b T').Nodup:=by
  have:=ok.nd;rw [List.append_nil] at this;exact this.filter _
 refine ⟨⟨by rw [c5];exact hnd,fun p hp=>?_,fun p hp=>?_,fun p hp q hq=>?_⟩,hnd,hsub⟩
 all_goals obtain ⟨x,hx,rfl⟩:=mM hp
 ·exact hsub x hx
 ·exact (h.bf (hsub x hx)).1
 ·rcases mA ((h.bf (hsub x hx)).2.1 q hq) with h1 | h1
  ·right
   rw [c5];refine List.mem_filter.mpr ⟨?_,decide_eq_true h1⟩;have h2:=ok.done x (aL _ (List.mem_filter.mp hx).1) q;rw [E.parts,mO h (hsub x hx)] at h2;exact h2 hq
  ·exact .inl (List.mem_singleton.mp h1)
theorem qK{M:List ba}{l:List Str}{b:Bool}{T':Told}(h:oQ (cX M l))(hs:∀x∈l,x∈cj)(E:Ext (cX M l) fT T'):∀x∈bU b T',(x∈cj ↔x∈l):=fun x hx=>by
 have nd:((cX M l).map (·.1)).Nodup:=by obtain ⟨nd,_,_,_⟩:=h;exact nd
 have hm:=(kh (E.tok nd) (b:=b)).mem x (aL _ hx);rw [E.mention] at hm;rcases h.ment hm with rfl | h1
 ·exact ⟨fun e=>absurd e tM,fun e=>hs _ e⟩
 ·rw [c5] at h1;exact ⟨fun Z=>h1,fun Z=>hs x h1⟩
theorem nC{M:List ba}(h:gP M):ax (M.map fun m:ba=>(m.1,AV.str (S2 (bE m.2.2.1 m.2.2.2))))=(cj,cj.map fun x=>AV.str (yI M x)):=by
 have e1:(M.map fun m:ba=>(m.1,AV.str (S2 (bE m.2.2.1 m.2.2.2)))).map (·.1)= cj:=by rw [List.map_map];exact h.nm
 rw [bQ _ (by rw [e1];exact eF),e1]
 refine congrArg (Prod.mk cj) ?_;rw [← h.nm,List.map_map,List.map_map];exact List.map_congr_left fun m hm=>by
  show _ = AV.str (yI M m.1);unfold yI ic;rw [ki h.nodup hm];rfl
theorem nJ{M:List ba}(h:gP M):ax (M.map fun m:ba=>(m.1,aA m.2.2.1))=(cj,cj.map fun x=>aA (ic M x)):=by
 have e1:(M.map fun m:ba=>(m.1,aA m.2.2.1)).map (·.1)= cj:=by rw [List.map_map];exact h.nm
 rw [bQ _ (by rw [e1];exact eF),e1]
 refine congrArg (Prod.mk cj) ?_;rw [← h.nm,List.map_map,List.map_map];exact List.map_congr_left fun m hm=>by
  show _ = aA (ic M m.1);unfold ic;rw [ki h.nodup hm];rfl
theorem mX{l:List Str}{f:Str→AV}(h:l.Nodup):ax (l.map fun x=>(x,f x))=(l,l.map f):=by
 have e1:(l.map fun x=>(x,f x)).map (·.1)= l:=by rw [List.map_map];exact List.map_id l
 rw [bQ _ (by rw [e1];exact h),e1,List.map_map];rfl
theorem mV{x:Str}{bf:List Str}{b1 b2:Str}(hx:x≠S2 [])(hb:∀q∈bf,q≠S2 []):((rowsOf x bf b1 b2).map S2)[bf.length+1]? = some (S2 [])∧∀m,m < bf.length+1→((rowsOf x bf b1 b2).map S2)[m]?≠some (S2 []):=by
 have e:(rowsOf x bf b1 b2).map S2 =(x::bf)++ [S2 [],b1,b2]:=by
  unfold rowsOf;rw [List.map_cons,List.map_append,nR,cR,List.map_cons,List.map_cons,List.map_cons,cR,cR];rfl
 rw [e];refine ⟨by rw [List.getElem?_append_right (by rw [List.length_cons];exact Nat.le_refl _),List.length_cons,Nat.sub_self];rfl,fun m hm=>?_⟩
 rw [List.getElem?_append_left (by rw [List.length_cons];exact hm)]
 intro h;rcases mC (mG h) with h | h
 ·exact hx h.symm
 ·exact hb _ h rfl
theorem mf{x:Str}{bf:List Str}{b1 b2:Str}:pick (((rowsOf x bf b1 b2).map S2).map AV.str) (some 1) (some ((bf.length+1:Nat):Int)) Option.none = bf.map AV.str:=by
 have e:(rowsOf x bf b1 b2).map S2 = x::(bf++ [S2 [],b1,b2]):=by
  unfold rowsOf;rw [List.map_cons,List.map_append,nR,cR,List.map_cons,List.map_cons,List.map_cons,cR,cR];rfl
 rw [e,List.map_cons,List.map_append,bD];have hl:(AV.str x::(bf.map AV.str++ [S2 [],b1,b2].map AV.str)).length = bf.length+4:=by
  rw [List.length_cons,List.length_append,lN];rfl
 show List.take (clipAt _ _ - clipAt _ 1) (List.drop (clipAt _ 1) _)= _;rw [hl];have h1:clipAt (bf.length+4) 1 = 1:=(clipAt_nat (bf.length+4) 1).trans (Nat.min_eq_left (Nat.le_add_left 1 _));have h2:clipAt (bf.length+4) ((bf.length+1:Nat):Int)= bf.length+1:=(clipAt_nat _ _).trans (Nat.min_eq_left (Nat.add_le_add_left (by decide) _))
 rw [h1,h2];show List.take (bf.length+1 - 1) ((bf.map AV.str)++_)= _;rw [Nat.add_sub_cancel];exact List.take_left' (by rw [lN])
end
section
theorem rT(t:List Nat):cut (S2 t) (some (-1)) Option.none = S2 (t.drop (t.length - 1)):=by
 unfold cut;rw [bP,bD];have hc:clipAt t.length (-1)= t.length - 1:=clipAt_neg t.length 1 (Nat.le_refl _);simp only [Option.elim,hc];rw [List.take_of_length_le (by simp)]
 rfl
theorem oF(t:List Nat):(S2 (t.drop (t.length - 1))= Str.ofString "\r") ↔t.getLast? = some 13:=by
 rw [show Str.ofString "\r" = S2 [13] by decide]
 refine ⟨fun e=>?_,fun e=>?_⟩
 ·have e:=gg e;have:=congrArg List.getLast? e;rw [List.getLast?_drop] at this
  split at this
  ·cases this
  ·exact this
 ·obtain ⟨l,rfl⟩:∃l,t = l++ [13]:=⟨t.dropLast,by
   have hne:t≠ []:=fun q=>by rw [q] at e;cases e
   rw [List.getLast?_eq_some_getLast hne] at e;rw [← Option.some.inj e];exact (List.dropLast_concat_getLast hne).symm⟩
  simp
noncomputable def uf:List Str:= ["\r\n","\n","\r"]
theorem u6(q:Int):∃j:Nat,q.fmod 3 =(j:Int)∧uf[j]? = some (S2 (gq q)):=by
 have h0:=Int.fmod_nonneg_of_pos q (show (0:Int) < 3 by decide)
 have h1:=Int.fmod_lt_of_pos q (show (0:Int) < 3 by decide)
 have e:q.fmod 3 = 0∨q.fmod 3 = 1∨q.fmod 3 = 2:=by
  obtain ⟨j,hj⟩:=Int.eq_ofNat_of_zero_le h0;rw [hj] at h1 ⊢
  match j,Int.ofNat_lt.mp h1 with
  | 0,_=>exact .inl rfl
  | 1,_=>exact .inr (.inl rfl)
  | 2,_=>exact .inr (.inr rfl)
  | k+3,h=>exact absurd h (Nat.not_lt.mpr (Nat.le_add_left 3 k))
 unfold gq;rcases e with e | e | e
 ·exact ⟨0,e,by rw [if_pos e];decide+kernel⟩
 ·exact ⟨1,e,by rw [if_neg (by rw [e];decide),if_pos e];decide+kernel⟩
 ·exact ⟨2,e,by rw [if_neg (by rw [e];decide),if_neg (by rw [e];decide)];decide+kernel⟩
theorem o3(q:Int):(S2 (gq q)= Str.ofString "\n") ↔gq q = [10]:=by
 rw [show Str.ofString "\n" = S2 [10] by decide]
 exact ⟨gg,fun e=>by rw [e]⟩
theorem rC(init:aG)(last:List Nat)(q:Int):bE (init++ [last]) q = if ((init++ [last]).foldl a8 ([],q)).2.fmod 2≠0∧last≠ [] then (init.foldl a8 ([],q)).1++last else ((init++ [last]).foldl a8 ([],q)).1:=by
 unfold bE;simp
inductive BR(hp0:Nat→Option AO)(rows:aG)(row:List Nat)(p:List Nat×Int)(f:AF)(st':St):Prop
 | mk (h0:f = .next) (h1:st'.hp = hp0) (h2:st'.loc "rows" = some (aA rows)) (h3:st'.loc "q" = some (.int p.2)) (h4:st'.loc "text" = some (.str (S2 p.1))) (h5:st'.loc "row" = some (.str (S2 row))) (h6:st'.loc "end" = some (.str (S2 (fR p.1 row p.2))))
inductive BA(hp0:Nat→Option AO)(rows:aG)(q:Int)(k:Nat)(st':St):Prop
 | mk (h1:st'.hp = hp0) (h2:st'.loc "rows" = some (aA rows)) (h3:st'.loc "q" = some (.int ((rows.take k).foldl a8 ([],q)).2)) (h4:st'.loc "text" = some (.str (S2 ((rows.take k).foldl a8 ([],q)).1)))
variable {w:World}{h₀:Heap}{os:OsState}{mg mb:Str→Option Value}{cx:Cx}{fm:Fm}{X:Value→St→Prop}{st:St}{Q:AV→St→Prop}
theorem tZ{n:Nat}{rows:aG}{q:Int}(O:(gd w h₀ os mg mb).Ok)(hc:cx.calm = true)(hn:n+1≤cx.n)(hne:rows≠ [])(hcl:∀r∈rows,Clean r)(hr4:∀r∈rows,r.length≤4)(hl:rows.length≤10)
  (h:Q (.str (S2 (bE rows q))) st):
  aH (gd w h₀ os mg mb) cx fm X fText [aA rows,.int q] st Q:=by
 have zl:(1000000:Nat)≤sizeLine:=by rw [sizeLine_eq];decide
 have hfl:∀k,((rows.take k).foldl a8 ([],q)).1.length≤60:=fun k=>by
  have h1:=f8 (rows.take k) [] q fun r hr=>hr4 r (List.mem_of_mem_take hr);rw [List.length_take] at h1;exact lT h1 (lT (qE (Nat.zero_add _)) (Nat.mul_le_mul_left 6 (lT (Nat.min_le_right _ _) hl)))
 refine Fun.go (n:=n) O (cA.of O rfl rfl rfl) hn (Bind.p2 (fun Z Y=>rfl)) fun env he=>?_;clear he;refine Ex.cons (an.asg (Ev.cstr (Asg.name (.inl rfl) ?_)) rfl rfl rfl);refine Ex.cons (an.for_ hc (Ev.loc rfl ?_));refine ⟨_,_,Iter.lst (xs:=(rows.map S2).map .str) (lM (lM (oS hl zl rfl))),BA st.hp rows q,⟨rfl,rfl,rfl,rfl⟩,fun Z Y V=>rfl,fun k y st' hy hI=>?_,fun st' hI=>?_⟩
 ·obtain ⟨h1,l1,l2,l3⟩:=hI;rw [gM,gM,Option.map_map] at hy;obtain ⟨row,hrow,rfl⟩:=oM hy;have hrm:=mG hrow;have hr4':=hr4 row hrm;have es:(rows.take (k+1)).foldl a8 ([],q)= a8 ((rows.take k).foldl a8 ([],q)) row:=by
   rw [List.take_add_one,hrow,List.foldl_append];rfl
  have hp1:=hfl k;generalize (rows.take k).foldl a8 ([],q)= p at *;refine Asg.name (.inl rfl) ?_;refine Ex.cons (an.asg (Ev.sub (Ev.listF (ah.cons (Ev.cstr (ah.cons (Ev.cstr (ah.cons (Ev.cstr (ah.nil ⟨oS (Nat.le_refl 3) zl rfl,?_⟩))))))))) rfl rfl rfl);obtain ⟨j,hj,hje⟩:=u6 p.2;refine Ev.binop (Ev.loc l2 (Ev.cint (Bin.modIntE (by decide) hj (Sub.strAt (ys:=uf) rfl rfl hje (by decide) (Asg.name (.inl rfl) ?_)))))
  refine Ex.cons (an.mono (Q':=BR st.hp rows row p) ?_ ?_)
  ·have hno:(row = []∧p.1.getLast? = some 13∧gq p.2 = [10]→False)→fR p.1 row p.2 = gq p.2:=fun hq=>if_neg hq;refine an.if_ (bj.boolop (aE.and (bj.cmp (Ev.loc rfl (Ev.cstr (Cmp.eqStr (Tru.bool ?_)))))));have e0:(S2 row = Str.ofString "") ↔row = []:=by
    rw [show Str.ofString "" = S2 [] by decide]
    exact ⟨gg,fun e=>by rw [e]⟩
   by_cases a1:row = []
   ·refine bH (decide_eq_true (e0.mpr a1)) (aE.and (bj.cmp (Ev.sub (Ev.loc l3 (Ev.slice (b4.some (Ev.neg (Ev.cint ⟨1,rfl,_,rfl,b4.none (b4.none ?_)⟩))))))));refine Sub.sliceStr (by rw [bA];exact oS hp1 zl rfl) (Ev.cstr (Cmp.eqStr (Tru.bool ?_))) (fun Z Y=>rfl)
    rw [show cut (S2 p.1) (some (-((1:Int)))) Option.none = S2 (p.1.drop (p.1.length - 1)) from rT p.1]
    by_cases a2:p.1.getLast? = some 13
    ·refine bH (decide_eq_true ((oF _).mpr a2)) (aE.and (bj.cmp (Ev.loc rfl (Ev.cstr (Cmp.eqStr (Tru.bool ?_))))))
     by_cases a3:gq p.2 = [10]
     ·refine bH (decide_eq_true ((o3 _).mpr a3)) (aE.andNil (bH rfl (Ex.cons (an.asg (Ev.cstr (Asg.name (.inl rfl) (Ex.nil ?_))) rfl rfl rfl))));refine ⟨rfl,h1,l1,l2,l3,rfl,?_⟩;unfold fR;rw [if_pos ⟨a1,a2,a3⟩];show some (AV.str (Str.ofString "\r\n"))= _;rw [show Str.ofString "\r\n" = S2 [13,10] by decide]
     ·exact bN (decide_eq_false fun e=>a3 ((o3 _).mp e)) (bN rfl (Ex.nil ⟨rfl,h1,l1,l2,l3,rfl,by rw [hno fun z=>a3 z.2.2];rfl⟩))
    ·exact bN (decide_eq_false fun e=>a2 ((oF _).mp e)) (bN rfl (Ex.nil ⟨rfl,h1,l1,l2,l3,rfl,by rw [hno fun z=>a2 z.2.1];rfl⟩))
   ·exact bN (decide_eq_false fun e=>a1 (e0.mp e)) (bN rfl (Ex.nil ⟨rfl,h1,l1,l2,l3,rfl,by rw [hno fun z=>a1 z.1];rfl⟩))
  ·rintro f st₁ ⟨rfl,h1,l1,l2,l3,l4,l5⟩;have hel:=(gX p.1 row p.2).1;refine Ex.cons (an.augName (.inl rfl) (eW rfl l3 (Ev.binop (Ev.loc l4 (Ev.loc l5 (Bin.addStr ?_ (IBin.addStr ?_ ?_)))))))
   ·rw [bA,bA];exact oS (Nat.add_le_add hr4' hel) zl rfl
   ·rw [cq,bA,bA,bA];exact oS (Nat.add_le_add hp1 (Nat.add_le_add hr4' hel)) zl rfl
   rw [e8,e8];refine Ex.cons (an.asg (Ev.binop (Ev.binop (Ev.loc l2 (Ev.cint (Bin.divInt O (by decide) (Ev.cint (Bin.addInt (Asg.name (.inl rfl) (Ex.nil ?_))))))))) rfl rfl rfl)
   refine ⟨h1,l1,?_,?_⟩
   ·rw [es];rfl
   ·rw [es];rfl
 ·obtain ⟨h1,l1,l2,l3⟩:=hI;rw [lN,lN,List.take_length] at l2 l3;have hw:Q (.str (S2 (bE rows q))) ⟨st.loc,st'.hp⟩:=by rw [h1];exact h
  have hfl0:=hfl rows.length;rw [List.take_length] at hfl0;obtain ⟨init,last,rfl⟩:∃init last,rows = init++ [last]:=⟨_,_,(List.dropLast_concat_getLast hne).symm⟩;have hll:=hr4 last (aR _ (.head _));have hcll:=hcl last (aR _ (.head _));rw [rC] at hw;have el:aA (init++ [last])= .lst ((init.map S2).map AV.str++ [.str (S2 last)]):=by
   unfold aA;rw [List.map_append,List.map_append];rfl
  rw [el] at l1;have hil:init.length≤10:=by rw [List.length_append] at hl;exact lT (Nat.le_add_right _ _) hl
  refine Ex.nil (Ex.cons (an.ret (Ev.ifexp (bj.boolop (aE.and (bj.plain (Ev.binop (Ev.loc l2 (Ev.cint (Bin.modInt (by decide) (Tru.int ?_)))))))))))
  by_cases a1:((init++ [last]).foldl a8 ([],q)).2.fmod 2 = 0
  ·refine bN (by rw [a1];rfl) (bN rfl (Ev.loc l3 ?_))
   rw [if_neg fun z=>z.1 a1] at hw;exact hw
  ·refine bH (bne_iff_ne.mpr a1) (aE.and (bj.plain (Ev.sub (Ev.loc l1 (Ev.neg (Ev.cint ⟨1,rfl,Sub.lastL rfl rfl (lM (lM (oL hil rfl))) (Tru.str (by rw [bA];exact oS hll zl rfl) ?_)⟩))))))
   by_cases a2:last = []
   ·refine bN (by rw [bA,a2];rfl) (bN rfl (Ev.loc l3 ?_))
    rw [if_neg fun z=>z.2 a2] at hw;exact hw
   ·refine bH (by rw [bA];exact bne_iff_ne.mpr fun e=>a2 (List.length_eq_zero_iff.mp e)) (aE.andNil (bH rfl ?_))
    rw [if_pos ⟨a1,a2⟩] at hw;refine Ev.mcall (Ev.loc l3 ⟨.builtin "str.rstrip",_,aa.builtin _,Mth.str PySem.F.slot_str_rstrip PySem.F.type_str_rstrip,aU.cons (ah.cons (Ev.cstr (ah.nil (Cal.rstripC (z:=S2 ((init.foldl a8 ([],q)).1++last)) (by rw [bA];exact oS hfl0 zl rfl) ?_ hw))))⟩)
    rw [show Str.ofString "\r\n" = S2 [13,10] by decide,px]
    show Txt.rstripChars (S2 ((init.foldl a8 ([],q)).1++(last++fR (init.foldl a8 ([],q)).1 last (init.foldl a8 ([],q)).2))) _ = _;rw [← List.append_assoc];refine pH (fun c hc'=>?_) (gX _ _ _).2;rw [List.getLast?_append] at hc';have hm:c∈last:=by
     rw [List.getLast?_eq_some_getLast a2] at hc';have e:last.getLast a2 = c:=Option.some.inj hc';rw [← e];exact List.getLast_mem a2
    have:=hcll c hm;exact ⟨this.2,this.1⟩
end
section
theorem rZ{x:List Nat}(h:x≠ []):dT (S2 x)= S2 (sy x):=by
 have e1:Str.ofString "\r\n" = S2 [13,10]:=by decide
 have e2:Str.ofString ".\r\n" = S2 [46,13,10]:=by decide
 have e3:Str.ofString "" = S2 []:=by decide
 have e4:fc (cP (S2 x))= S2 (aZ true (fixF false x)):=by
  unfold fc cP;rw [bP];simp [S2]
 have e5:∀l:List Nat,cut (S2 l) (some (-2)) Option.none = S2 (l.drop (l.length - 2)):=fun l=>by
  unfold cut;rw [bP,bD];have hc:clipAt l.length (-2)= l.length - 2:=clipAt_neg l.length 2 (by decide)
  simp only [Option.elim,hc];rw [List.take_of_length_le (by simp)]
  rfl
 rw [← qU h];unfold dT;rw [e4,e5,e1,e2,e3]
 by_cases hd:(aZ true (fixF false x)).drop ((aZ true (fixF false x)).length - 2)= [13,10]
 ·rw [if_pos hd,if_pos (by rw [hd]),e8,e8]
 ·rw [if_neg hd,if_neg (fun q=>hd (gg q)),e8,e8]
theorem ng{α:Type}(f:α→List (List Nat)):∀l:List α,(l.flatMap fun x=>joinR (f x))= joinR (l.flatMap f):=by
 intro zl
 induction zl with
 | nil=>
  exact rfl
 | cons x l ih=>
  have iw:=ih;rw [List.flatMap_cons,List.flatMap_cons,iw];unfold joinR;rw [List.flatMap_append]
theorem sE{ks:List Str}{tx:Str→Str}(h:∀x∈ks,(tx x).cps.toList≠ [])(l:List Str):
  fu ks tx l = joinR ((l.filter fun x=>decide (x∈ks)).flatMap fun x=>(cn (tx x).cps.toList).map q1++ [[46]]):=by
 unfold fu;rw [← ng];have:∀x∈l.filter fun x=>decide (x∈ks),(dT (tx x)).cps.toList = joinR ((cn (tx x).cps.toList).map q1++ [[46]]):=fun x hx=>by
  have hk:x∈ks:=of_decide_eq_true (List.mem_filter.mp hx).2;have e:=rZ (h x hk);rw [cR] at e;rw [e,bP];rfl
 generalize l.filter (fun x=>decide (x∈ks))= m at *
 induction m with
 | nil=>rfl
 | cons x m iw=>rw [List.flatMap_cons,List.flatMap_cons,this x (.head _),iw fun y hy=>this y (.tail _ hy)]
theorem sq{r:List Nat}(h:Clean r):Clean (q1 r):=by
 unfold q1
 split
 ·intro c hc;rcases mC hc with rfl | hc
  ·decide
  ·exact h c hc
 ·exact h
theorem mz{ks:List Str}{tx:Str→Str}(l:List Str):∀r∈(l.filter fun x=>decide (x∈ks)).flatMap fun x=>(cn (tx x).cps.toList).map q1++ [[46]],Clean r:=fun r hr=>by
 obtain ⟨x,_,hr⟩:=List.mem_flatMap.mp hr;rcases mA hr with hr | hr
 ·obtain ⟨q,hq,rfl⟩:=mM hr;exact sq (nF _ q hq)
 ·rw [List.mem_singleton.mp hr];intro c hc;rw [List.mem_singleton.mp hc];decide
end
section
section
variable {G:Gd}{cx:Cx}{fm:Fm}{X:Value→St→Prop}{st:St}{Q:AV→St→Prop}
theorem an.asgComp2F{x:Str}{p spos:Pos}{elt target iter t1 i1:PySem.Expr}{ifs ifs1:List PySem.Expr}{scope:Scope}{pos:Pos}{Q:AF→St→Prop}(hc:cx.calm = true)(hl:aX fm x)(hnd:(scope.names.map (·.1)).Nodup)(hfree:∀n∈freeNames scope.names,n∈fm.own∨(fm.out n).isSome = true)
  (h:Ev G cx fm cO iter st fun a st₁=>c6 G cx fm (bx G) (.ListComp elt [⟨target,iter,ifs,0⟩,⟨t1,i1,ifs1,0⟩] scope pos) scope target ifs (wm (.ListComp elt [⟨target,iter,ifs,0⟩,⟨t1,i1,ifs1,0⟩] scope pos) i1) [] a st₁ fun b hp=>Q .next ((⟨st₁.loc,hp⟩:St).setLoc x (.lst b)))
  (h1:swapsWith (.ListComp elt [⟨target,iter,ifs,0⟩,⟨t1,i1,ifs1,0⟩] scope pos) (some (.Name x p)) spos.line (dY fm.names)= Pure.pure true:=by rfl)
  (hk:scope.kind = .function:=by rfl) (hs:∀env x,foldedSetIterable iter env x = Pure.pure x:=by intro _ _;rfl):an G cx fm X (.Assign [.Name x p] (.ListComp elt [⟨target,iter,ifs,0⟩,⟨t1,i1,ifs1,0⟩] scope pos) spos) st Q:=by
 intro W s A hA hW hR hT;rw [ek hR h1];refine wpAny_bind (wpAny_standAt (wpAny_bind ?_));refine (wpAny_bind ?_:wpAny _ _ (comprehension _ _ _ _ _ _ _ _ >>= fun Z=>Pure.pure ()) _ _ _);refine cc (K:=bx G) (Q:=fun b st'=>Q .next (st'.setLoc x (.lst b))) hc rfl (cN _ _ _ _) hs hk hnd hfree ct rfl (fun W=>⟨[],⟨rfl,rfl,rfl,0,rfl⟩,au.nil⟩) (fun env it ad=>sz _ _ _ _ _ _ _ _ _ _ _ _) h hA hR hT ?_;intro W' st' b ad C s' le ce hq;refine wpAny_mono (fE (t:= .Name x p) (Q:=Q) (P:=fun a st''=>Q .next (st''.setLoc x a)) hA ce le (fun W R fr ho=>uO R fr ho hq) (fun a st'' hp=>Asg.name hl hp)) (fun Z s'' z=>?_) fun Z Y z=>z;obtain ⟨m,hm,hz⟩:=z;exact ⟨m,hm,fun h' hsb=>wpAny_pure (wpAny_pure (hz h' hsb))⟩
end
end
section
noncomputable def dj(ks:List Str)(rw:Str→aG)(l:List Str):List AV:=(l.filter fun x=>decide (x∈ks)).map fun x=>aA (rw x)
noncomputable def dE(ks:List Str)(rw:Str→aG):AV:= .dct ks (ks.map fun x=>aA (rw x))
theorem kO(ks:List Str)(rw:Str→aG)(a b:List Str):dj ks rw (a++b)= dj ks rw a++dj ks rw b:=by
 unfold dj;rw [List.filter_append,List.map_append]
theorem me(ks:List Str)(rw:Str→aG)(l:List Str):(dj ks rw l).length≤l.length:=by
 unfold dj;rw [lN];exact List.length_filter_le _ _
noncomputable def dg(ks:List Str)(rw:Str→aG)(l:List Str):List aG:=(l.filter fun x=>decide (x∈ks)).map rw
noncomputable def i0(M:List aG):List (List Nat):=M.flatMap fun rs:aG=>rs.map q1++ [[46]]
theorem sB{ks:List Str}{tx:Str→Str}{rw:Str→aG}(hne:∀x∈ks,(tx x).cps.toList≠ [])(hrw:∀x∈ks,cn (tx x).cps.toList = rw x)(l:List Str):
  fu ks tx l = joinR (i0 (dg ks rw l))∧∀r∈i0 (dg ks rw l),Clean r:=by
 have e:i0 (dg ks rw l)=(l.filter fun x=>decide (x∈ks)).flatMap fun x=>(cn (tx x).cps.toList).map q1++ [[46]]:=by
  unfold i0 dg;rw [List.flatMap_map];have:∀x∈l.filter fun x=>decide (x∈ks),cn (tx x).cps.toList = rw x:=fun x hx=>hrw x (of_decide_eq_true (List.mem_filter.mp hx).2);generalize l.filter (fun x=>decide (x∈ks))= m at *
  induction m with
  | nil=>rfl
  | cons x m iw=>rw [List.flatMap_cons,List.flatMap_cons,iw fun y hy=>this y (.tail _ hy),this x (.head _)]
 rw [e];exact ⟨sE hne l,mz l⟩
theorem BM{n j a:Nat}(h:n≤j):n+1≤a+2+j:=lT (Nat.add_le_add_right h 1) (by rw [Nat.add_comm];exact Nat.add_le_add_right (Nat.le_add_left 1 (a+1)) j)
theorem p8(rows:List (List Nat)):rows.length≤(joinR rows).length∧∀r∈rows,r.length≤(joinR rows).length:=by
 induction rows with
 | nil=>exact ⟨Nat.le_refl _,fun r h=>absurd h List.not_mem_nil⟩
 | cons a rows iw=>
  have e:(joinR (a::rows)).length = a.length+2+(joinR rows).length:=by
   unfold joinR;rw [List.flatMap_cons,List.length_append,List.length_append];rfl
  rw [e,List.length_cons];refine ⟨BM iw.1,fun r hr=>?_⟩;rcases mC hr with rfl | hr
  ·exact lT (Nat.le_add_right _ 2) (Nat.le_add_right _ _)
  ·exact lT (iw.2 r hr) (Nat.le_add_left _ _)
theorem q8{ks ks':List Str}{rw:Str→aG}{l:List Str}(h:∀x∈l,(x∈ks ↔x∈ks')):dj ks rw l = dj ks' rw l:=by
 unfold dj;rw [List.filter_congr fun x hx=>decide_eq_decide.mpr (h x hx)]
theorem qm(ks:List Str)(rw:Str→aG)(l:List Str):(dg ks rw l).map aA = dj ks rw l:=by
 unfold dg dj;rw [List.map_map];rfl
theorem lY(rs:aG):ff 1 (aA rs):= .lst ff.strs
theorem qw{l:List AV}{x:AV}:pick (l++ [x]) Option.none (some (-1)) Option.none = l:=(fM _).trans List.dropLast_concat
variable {w:World}{h₀:Heap}{os:OsState}{mg mb:Str→Option Value}{cx:Cx}{fm:Fm}{X:Value→St→Prop}{st:St}{Q:AV→St→Prop}
theorem Bind.p5{G:Gd}{fd:FuncData}{x y z w v:Str}{a b c d e:AV}(h:∀o u t r q,bindArgs fd ⟨[o,u,t,r,q],[]⟩= Pure.pure [(x,o),(y,u),(z,t),(w,r),(v,q)]):fS G fd [a,b,c,d,e] [(x,a),(y,b),(z,c),(w,d),(v,e)]:=by
 intro fm st W s A E vs Q R rs hQ;have rs':=rs;obtain ⟨o,_,rfl,rv,u,_,rfl,ru,t,_,rfl,rt,r,_,rfl,rr,q,_,rfl,rq,rfl⟩:=rs;rw [h];exact wpAny_pure (hQ W s [(x,o),(y,u),(z,t),(w,r),(v,q)] (.refl _) R rfl rs')
theorem Sub.drawn{G:Gd}{value slice:PySem.Expr}{ks:List Str}{rw:Str→aG}{x:Str}(hx:x∈ks)(h:Q (aA (rw x)) st)
  (hs:∀o i,subscripted slice false o i = PySem.operate [o,i] (getItem o i):=by intro _ _;with_unfolding_all rfl):cZ G cx fm X value slice (dE ks rw) (.str x) st Q:=by
 obtain ⟨i,hi⟩:=List.getElem?_of_mem hx;exact Sub.dct (ks:=ks) (l:=ks.map fun x=>aA (rw x)) (i:=i) rfl hi (by rw [gM,hi];rfl) h hs
theorem qx{T T':Told}{dn:Str}{b:Bool}{ks dks:List Str}{tx:Str→Str}{rw:Str→aG}{oc:Bool}{n:Nat}(O:(gd w h₀ os mg mb).Ok)(hc:cx.calm = true)(hn:n+7≤cx.n)(E:Ext T dn T')(hnd:(T.map (·.1)).Nodup)(hz0:(az T).length≤50)(hz:(az T').length≤50)(hzT:T.length≤6)(hm6:(ag T').length≤6)(htx:∀x∈ks,(tx x).length≤60∧∀c∈(tx x).cps.toList,c < 256)
  (hne:∀x∈ks,(tx x).cps.toList≠ []) (hrw:∀x∈ks,cn (tx x).cps.toList = rw x) (hkd:∀x∈bU b T',(x∈dks ↔x∈ks))
  (h:Q (.lst (dj ks rw (bU b T'))) st):
  aH (gd w h₀ os mg mb) cx fm X fX [.lst (T.map aD),cK ks tx,dE dks rw,.int (aY b),.bool oc] st Q:=by
 have ok:=E.tok hnd;have zl:(1000000:Nat)≤sizeLine:=by rw [sizeLine_eq];decide
 have hMl:(bU b T').length≤6:=by
  have:=(kh ok (b:=b)).len;rw [List.append_nil] at this;exact lT this hm6
 refine Fun.go (n:=n+6) O (cA.of O rfl rfl rfl) hn (Bind.p5 (fun Z Y V U N=>rfl)) fun env he=>?_;clear he;refine Ex.cons (an.assignSwap2 hc (.inl rfl) (.inl rfl) (by decide) (Ev.tuple (ah.cons (Ev.call (Ev.globR (v:= .ref oK) O ⟨_,rfl,aa.of O (by kernel_rfl),aU.cons (ah.cons (Ev.loc rfl (ah.cons (Ev.own rfl (ah.nil (aH.cal ?_))))))⟩ (by kernel_rfl))))) (by kernel_rfl))
 refine qk (T:=T) (b:=b) (n:=n+5) O hc (Nat.le_refl _) E hnd (oL hz0 rfl) (oL hzT rfl) (by rw [← E.mention];exact hm6) ?_
 refine ah.cons (Ev.call (Ev.globR (v:= .ref sC) O ⟨_,rfl,aa.of O (by kernel_rfl),aU.cons (ah.cons (Ev.loc rfl (ah.nil (aH.cal (pf (T:=T) (n:=n+5) O hc (Nat.le_refl _) (oL hz0 rfl) (oL hzT rfl) fun rv R=>?_)))))⟩ (by kernel_rfl)))
 refine ah.nil ⟨oS (Nat.le_refl 2) zl rfl,_,_,rfl,?_⟩;refine Ex.cons (an.asg (Ev.call (Ev.globR (v:= .ref uk) O ⟨_,rfl,aa.of O (by kernel_rfl),aU.cons (ah.cons (Ev.loc rfl (ah.cons (Ev.loc rfl (ah.cons (Ev.own rfl (ah.cons (Ev.loc rfl (ah.nil (aH.cal ?_))))))))))⟩ (by kernel_rfl))) rfl rfl rfl)
 refine tW (T:=T) (b:=b) (n:=n) O hc (Nat.le_refl _) E hnd hz0 hz hzT hm6 R htx ?_;refine Asg.tuple hc rfl rfl (Asg.name (.inl rfl) (Asg.name (.inl rfl) ?_));have hrl6:(allR b T').length≤7:=lT (mI _ _ _) (Nat.succ_le_succ hm6);refine Ex.cons (an.asgComp2F hc (.inl rfl) (by decide) br (Ev.loc rfl ?_) rfl)
 refine ⟨(allR b T').map tupS,_,Iter.lst (lM (oS hrl6 zl rfl)),fun k hp b'=>hp = st.hp∧b' = dj dks rw (dy b ((allR b T').take k)),⟨rfl,rfl⟩,fun k loc hp b Z=>rfl,fun cenv it ad k x loc hp b' hs hx hI=>?_,fun hp b' hI=>?_⟩
 ·obtain ⟨rfl,rfl⟩:=hI;rw [gM] at hx;obtain ⟨u,hu,rfl⟩:=oM hx;have hul:u.length≤6:=lT (jy (b:=b) (mG hu)) hMl;have htk:(dy b ((allR b T').take k)).length≤6:=by
   refine lT ?_ hMl;show _≤(dy b (allR b T')).length
   conv=>rhs;rw [← List.take_append_drop k (allR b T')]
   unfold dy;rw [List.flatMap_append,List.length_append];exact Nat.le_add_right _ _
  refine Asg.name (.inl rfl) (dq.nil (bH rfl ?_));refine Aft.nest hc (cN _ _ _ _) rfl (fun Z Y=>rfl) (fun Z Y V=>r6 _ _ _ _ _ _ _ _ _ _ _ _) (aft:=x3 _ _) ?_;refine Ev.sub (Ev.loc rfl (Ev.slice (b4.none (b4.none (b4.some (Ev.outer (a:= .int (aY b)) (di rfl rfl rfl) ⟨_,rfl,?_⟩))))));have hdl:(ib b u).length = u.length:=(dk b u).length_eq;refine Sub.tupDir (lM (oS hul zl rfl)) ?_ (fun Z Y=>rfl);rw [iX];refine ⟨_,_,Iter.tup,fun m st₂ b'=>st₂.hp = st.hp∧b' = dj dks rw (dy b ((allR b T').take k)++(ib b u).take m),⟨rfl,by rw [List.take_zero,List.append_nil]⟩,fun Z Y V U=>trivial,fun it' m z st₂ b' hz hI=>?_,fun st₂ b' hI=>?_⟩
  ·obtain ⟨h2,rfl⟩:=hI;rw [gM] at hz;obtain ⟨z',hz',rfl⟩:=oM hz;have ez:(ib b u).take (m+1)=(ib b u).take m++ [z']:=by rw [List.take_add_one,hz'];rfl
   refine Asg.name (.inl rfl) (dq.one (bj.cmp (Ev.loc rfl (Ev.outer (a:=dE dks rw) (di rfl rfl rfl) (Cmp.inDict O (ks:=dks) (l:=dks.map fun x=>aA (rw x)) rfl (Tru.bool ?_))))))
   by_cases hzd:z'∈dks
   ·refine bH (decide_eq_true hzd) (Aft.emitL rfl (Ev.sub (Ev.outer (a:=dE dks rw) (di rfl rfl rfl) (Ev.loc rfl (Sub.drawn hzd ⟨?_,h2,?_⟩)))))
    ·have h1:=me dks rw (dy b ((allR b T').take k)++(ib b u).take m);rw [List.length_append,List.length_take,hdl] at h1;exact lT h1 (oS (Nat.add_le_add htk (lT (Nat.min_le_right _ _) hul)) zl rfl)
    ·rw [ez,← List.append_assoc,kO _ _ _ [z']];unfold dj;rw [List.filter_cons,if_pos (decide_eq_true hzd)];rfl
   ·refine bN (decide_eq_false hzd) ⟨h2,?_⟩;rw [ez,← List.append_assoc,kO _ _ _ [z']];unfold dj;rw [List.filter_cons,if_neg fun q=>hzd (of_decide_eq_true q),List.filter_nil,List.map_nil,List.append_nil]
  ·obtain ⟨h2,rfl⟩:=hI;refine ⟨h2,?_⟩;rw [lN,List.take_length,List.take_add_one,hu,Option.toList_some];unfold dy;rw [List.flatMap_append,List.flatMap_singleton];rfl
 obtain ⟨rfl,rfl⟩:=hI;rw [lN,List.take_length];show Ex _ _ _ _ _ (St.setLoc _ _ (AV.lst (dj dks rw (bU b T')))) _;rw [q8 hkd];obtain ⟨hst,hcl⟩:=sB hne hrw (bU b T');have hsl:=kP (ks:=ks) (tx:=tx) (fun x hx=>(htx x hx).1) (bU b T');have hsz:(fu ks tx (bU b T')).length≤2000:=lT hsl (oL (Nat.mul_le_mul_left 245 hMl) rfl);have hjl:=p8 (i0 (dg ks rw (bU b T')));rw [← hst] at hjl;refine Ex.cons (an.asg (Ev.call (Ev.globR (v:= .ref sI) O ⟨_,rfl,aa.of O (by kernel_rfl),aU.cons (ah.cons (Ev.loc rfl (ah.nil (aH.cal ?_))))⟩ (by kernel_rfl))) rfl rfl rfl)
 refine rm (n:=n+5) (Rw:=i0 (dg ks rw (bU b T'))++ [[]]) O hc (Nat.le_refl _) (by rw [bA];exact oL hsz rfl) (by rw [hst];exact nG hcl) (by rw [List.length_append];exact lT (Nat.add_le_add hjl.1 (Nat.le_refl 1)) (oL (Nat.succ_le_succ hsz) rfl)) (fun r hr=>?_) uK ?_
 ·rcases mA hr with hr | hr
  ·exact lT (hjl.2 r hr) (oL hsz rfl)
  ·rw [List.mem_singleton.mp hr];exact Nat.zero_le _
 have eh:List.foldl bu ([],[]) (i0 (dg ks rw (bU b T'))++ [[]])=(dg ks rw (bU b T'),[[]]):=qY _;rw [eh];dsimp only;rw [qm];refine Asg.name (.inl rfl) ?_;have hdl6:(dj ks rw (bU b T')).length≤6:=lT (me _ _ _) hMl;have hde:∀x∈dj ks rw (bU b T'),ff 1 x:=fun x hx=>by
  obtain ⟨z,_,rfl⟩:=mM hx;exact lY _
 generalize dj ks rw (bU b T')= D at *;refine Ex.cons (an.if_ (bj.boolop (aE.or (bj.cmp (Ev.loc rfl (Ev.tuple (ah.cons (Ev.loc rfl (ah.cons (Ev.loc rfl (ah.cons (Ev.cmp (Ev.loc rfl (Ev.cnone (Cmp.notNoneRing R (ah.cons (Ev.cbool (ah.nil ⟨oS (Nat.le_refl 4) zl rfl,?_⟩))))))))))))))))));refine Cmp.neTup (n:=2) (fun x hx=>?_) (by decide) (Tru.bool (bN rfl (aE.or (bj.cmp (Ev.loc rfl (Ev.binop (Ev.loc rfl (Ev.listF (ah.cons (Ev.listF (ah.cons (Ev.cstr (ah.nil ⟨oS (Nat.le_refl 1) zl rfl,ah.nil ⟨oS (Nat.le_refl 1) zl rfl,?_⟩⟩)))))))))))))
 ·rcases mC hx with rfl | hx
  ·exact mJ _
  rcases mC hx with rfl | hx
  ·exact R.eqd.mono (by decide)
  rcases mC hx with rfl | hx
  ·exact .bool _
  ·rw [List.mem_singleton] at hx;subst hx;exact .bool _
 have e1:AV.lst [.str (Str.ofString "")] = aA [[]]:=by
  rw [show Str.ofString "" = S2 [] by decide];rfl
 refine Bin.addListF (l:=D) (l':= [.lst [.str (Str.ofString "")]]) rfl rfl (oS (Nat.add_le_add hdl6 (Nat.le_refl 1)) zl rfl) ?_;rw [e1];refine Cmp.neLst (n:=1) (fun x hx=>?_) (by decide) (Tru.bool (bN rfl (aE.orNil (bN rfl (Ex.nil ?_)))))
 ·rcases mA hx with hx | hx
  ·exact hde x hx
  ·rw [List.mem_singleton.mp hx];exact lY _
 refine Ex.cons (an.ret (Ev.sub (Ev.loc rfl (Ev.slice (b4.none (b4.some (Ev.neg (Ev.cint ⟨1,rfl,_,rfl,b4.none ?_⟩))))))));exact Sub.sliceE (l:=D++ [aA [[]]]) rfl (by simp) (by rw [List.length_append];exact oS (Nat.add_le_add hdl6 (Nat.le_refl 1)) zl rfl) qw h (fun Z Y=>rfl)
end
section
theorem rR{α β:Type}(f:α→β)(l:List α)(lo hi t:Option Int):pick (l.map f) lo hi t =(pick l lo hi t).map f:=by
 unfold pick;rw [lN,List.map_filterMap]
 congr 1
 funext i
 rw [gM]
noncomputable def yK:List Int:= [29292,641270,197989,4128090,68261803]
noncomputable def tq(ns:List Int)(k:Nat):Int:=yK[k]?.getD 0+(pick ns (some (k:Int)) Option.none (some 5)).sum
noncomputable def ub(ns:List Int):List Int:= [0,1,2,3,4].map (tq ns)
noncomputable def u0(ns:List Int):AV→AV
 | .int k=> .int (tq ns k.toNat)
 | _=> .none
theorem sJ(ns:List Int):(intsFrom 0 (5 - 0:Int).toNat).map (u0 ns)=(ub ns).map AV.int:=by
 simp [intsFrom,ub,List.range_succ,u0]
theorem rH{x:Str}{bf:List Str}{b1 b2:Str}:((rowsOf x bf b1 b2).map S2)[0]? = some x:=by
 unfold rowsOf;rw [List.map_cons,cR];rfl
theorem Ev.ifStep{G:Gd}{cx:Cx}{fm:Fm}{X:Value→St→Prop}{st:St}{test:PySem.Expr}{k k':Nat}{p1 p2 p3 pos:Pos}{Q:AV→St→Prop}(h:bj G cx fm X test st fun b st₁=>Q (.int (aY b)) st₁):
  Ev G cx fm X (.IfExp test (.UnaryOp .USub (.Constant (.int 1) k p1) p2) (.Constant (.int 1) k' p3) pos) st Q:=
 Ev.ifexp (J.mono h (fun b st₁ q=>by
  cases b with
  | true=>exact bH rfl (Ev.neg (Ev.cint ⟨1,rfl,q⟩))
  | false=>exact bN rfl (Ev.cint q)) fun Z Y z=>z)
theorem sU(b:Bool): -(aY b)= aY (! b):=by cases b <;> rfl
section
variable {w:World}{h₀:Heap}{os:OsState}{mg mb:Str→Option Value}{cx:Cx}{fm:Fm}{X:Value→St→Prop}{st:St}{Q:AV→St→Prop}
theorem sv{G:Gd}{value slice:PySem.Expr}{x:Str}{bf:List Str}{b1 b2:Str}{rs:aG}(hr:rs = rowsOf x bf b1 b2)(hk:fZ rs)(h:Q (.str x) st)
  (hs:∀o i,subscripted slice false o i = PySem.operate [o,i] (getItem o i):=by intro _ _;with_unfolding_all rfl):cZ G cx fm X value slice (aA rs) (.int 0) st Q:=
 Sub.strAt (ys:=rs.map S2) (j:=0) rfl rfl (by rw [hr];exact rH) (by rw [lN];obtain ⟨_,_,_,ln,_⟩:=hk;exact lT ln (by decide)) h hs
theorem gP.rows1{M:List ba}{m:ba}(h:gP M)(hm:m∈M):fZ m.2.2.1:=oh (h.on m hm) (by rw [← h.nm];exact List.mem_map_of_mem hm)
theorem iN{G:Gd}{value slice:PySem.Expr}{M:List ba}{m:ba}(h:gP M)(hm:m∈M)(k:Q (.str m.1) st)
  (hs:∀o i,subscripted slice false o i = PySem.operate [o,i] (getItem o i):=by intro _ _;with_unfolding_all rfl):cZ G cx fm X value slice (aA m.2.2.1) (.int 0) st Q:=by
 obtain ⟨b1,b2,_,_,_,_,hr⟩:=h.on m hm;exact sv hr (h.rows1 hm) k hs
theorem rS{G:Gd}{value slice:PySem.Expr}{M:List ba}{x:Str}(h:gP M)(hx:x∈cj)(k:Q (.str x) st)
  (hs:∀o i,subscripted slice false o i = PySem.operate [o,i] (getItem o i):=by intro _ _;with_unfolding_all rfl):cZ G cx fm X value slice (aA (ic M x)) (.int 0) st Q:=by
 obtain ⟨_,_,b1,b2,hr⟩:=h.bf hx;exact sv hr (h.rows hx) k hs
theorem k8{n:Nat}{rows:aG}{q:Int}(O:(gd w h₀ os mg mb).Ok)(hc:cx.calm = true)(hn:n+1≤cx.n)(hk:fZ rows)(h:Q (.str (S2 (bE rows q))) st):
  aH (gd w h₀ os mg mb) cx fm X fText [aA rows,.int q] st Q:=by
 obtain ⟨ne,cl,le,ln,_⟩:=hk;exact tZ O hc hn ne cl le ln h
theorem jR{T:Told}{b:Bool}{M:List ba}{ks:List Str}{q:Str→Int}{oc:Bool}{n:Nat}(O:(gd w h₀ os mg mb).Ok)(hc:cx.calm = true)(hn:n+7≤cx.n)(hM:gP M)(hG:oQ T)(hs:∀x∈ks,x∈cj)
  (hd:∀T',Ext T fT T'→∀x∈bU b T',(x∈cj ↔x∈ks)) (h:∀T',Ext T fT T'→Q (.lst (dj ks (ic M) (bU b T'))) st):
  aH (gd w h₀ os mg mb) cx fm X fX [.lst (T.map aD),cK ks fun x=>S2 (bE (ic M x) (q x)),dE cj (ic M),.int (aY b),.bool oc] st Q:=by
 obtain ⟨T',E,hf,hm6⟩:=hG.ext;have hnd:(T.map (·.1)).Nodup:=by obtain ⟨nd,_,_,_⟩:=hG;exact nd
 have htx:∀x∈ks,_:=fun x hx=>tB (hM.rows (hs x hx)) (q x);exact qx O hc hn E hnd (lT hG.flat (by decide)) (lT hf (by decide)) (Nat.le_succ_of_le hG.len5) hm6 (fun x hx=>⟨(htx x hx).1,(htx x hx).2.1⟩) (fun x hx=>(htx x hx).2.2.1) (fun x hx=>(htx x hx).2.2.2) (hd T' E) (h T' E)
theorem pk{b:Bool}{M:List ba}{s:Nat}{n:Nat}(O:(gd w h₀ os mg mb).Ok)(hc:cx.calm = true)(hn:n+7≤cx.n)(hM:gP M)
  (h:∀L,oQ (cX M L)→L.Nodup→(∀x∈L,x∈cj)→L.length≤5→Q (.lst (L.map fun x=>aA (ic M x))) st):
  aH (gd w h₀ os mg mb) cx fm X fX [.lst ((fQ (M.drop s++M.take s)).map aD),cK cj (yI M),dE cj (ic M),.int (aY b),.bool false] st Q:=
 jR O hc hn hM (iF hM) (fun Z hx=>hx) (fun Z Y V U=>Iff.rfl) fun T' E=>by
  have z:=qJ (b:=b) hM E;have hl:=z.1.len5;rw [← List.length_map (f:=(·.1)),c5] at hl;exact h (jL b T') z.1 z.2.1 z.2.2 hl
theorem qg{b:Bool}{M:List ba}{L:List Str}{q:Int}{n:Nat}(O:(gd w h₀ os mg mb).Ok)(hc:cx.calm = true)(hn:n+7≤cx.n)(hM:gP M)(hG:oQ (cX M L))(hs:∀x∈L,x∈cj)
  (h:∀l,Q (.lst l) st):
  aH (gd w h₀ os mg mb) cx fm X fX [.lst ((cX M L).map aD),cK L (fun x=>S2 (bE (ic M x) q)),dE cj (ic M),.int (-(aY b)),.bool true] st Q:=by
 rw [sU];exact jR (q:=fun Z=>q) O hc hn hM hG hs (fun T' E=>qK hG hs E) fun Z Y=>h _
theorem mR{x:Str}{M:List ba}(hM:gP M)(hx:x∈cj)(h:Q (.int ((sV M x).length+1:Nat)) st):bB (gd w h₀ os mg mb) cx fm X (.builtin "list.index") [aA (ic M x),.str (Str.ofString "")] st Q:=by
 obtain ⟨hb3,hbn,b1,b2,hr⟩:=hM.bf hx;obtain ⟨_,_,_,ln,_⟩:=hM.rows hx;have hix:=mV (b1:=b1) (b2:=b2) (qr x (aL _ hx)) fun q hq=>qr q (hbn q hq);rw [← hr] at hix;exact Cal.index (ys:=(ic M x).map S2) (k:=S2 []) rfl hix.1 hix.2 (by rw [lN,sizeLine_eq];exact lT ln (by decide)) h
theorem nS{G:Gd}{value slice:PySem.Expr}{x:Str}{M:List ba}{ops:Value→Value→List Value}(hM:gP M)(hx:x∈cj)(h:Q (.lst ((sV M x).map .str)) st)
  (hs:∀o i,subscripted slice false o i = PySem.operate (ops o i) (getItem o i)):cZ G cx fm X value slice (aA (ic M x)) (.slc (some 1) (some ((sV M x).length+1:Nat)) Option.none) st Q:=by
 obtain ⟨hb3,hbn,b1,b2,hr⟩:=hM.bf hx;obtain ⟨_,_,_,ln,_⟩:=hM.rows hx;exact Sub.sliceE (l:=((ic M x).map S2).map .str) (l':=(sV M x).map .str) rfl (by simp) (by rw [lN,lN,sizeLine_eq];exact lT ln (by decide)) (by rw [hr];exact mf) h hs
end
theorem jO(M:List ba)(s:Nat):(M.drop s++M.take s).Perm M:=List.perm_append_comm.trans (by rw [List.take_append_drop])
theorem tF{G:Gd}{cx:Cx}{fm:Fm}{X:Value→St→Prop}{st:St}{α:Type}{f:α→AV}{l l':List α}{Q:AV→St→Prop}(hz:(l++l').length≤sizeLine)(h:Q (.lst ((l++l').map f)) st):ji G cx fm X .Add (.lst (l.map f)) (.lst (l'.map f)) st Q:=
 Bin.addListF rfl rfl (by rw [← List.length_append,← List.map_append,lN];exact hz) (by rw [← List.map_append];exact h)
theorem tt{G:Gd}{cx:Cx}{fm:Fm}{X:Value→St→Prop}{st:St}{a:Int}{m:Nat}{Q:AV→St→Prop}(hm:(0:Int) < m)(h:∀k:Nat,Q (.int k) st):ji G cx fm X .Mod (.int a) (.int m) st Q:=by
 obtain ⟨k,hk⟩:∃k:Nat,a.fmod m =(k:Int):=⟨_,(Int.toNat_of_nonneg (Int.fmod_nonneg_of_pos a hm)).symm⟩;exact Bin.modIntE (Int.ne_of_gt hm) hk (h k)
theorem qy{w:World}{h₀:Heap}{os:OsState}{mg mb:Str→Option Value}{W:Wd}{s:Shared}{A:Around}{env:Env}{ns:List Int}{fd:FuncData}{body:List Stmt}(O:(gd w h₀ os mg mb).Ok)(hfd:fnAt (gd w h₀ os mg mb).K 245 = some fd)(hb:fd.body = .stmts body)(he:env.scope = fd.scope)
  (hA:(⟨30,true⟩:Cx).In (kR env) A) (hR:Rep (gd w h₀ os mg mb) W (kR env) ⟨bZ [("script",.lst (ns.map .int))],fun Z=>Option.none⟩ s) (hz:ns.length≤63):
  wpAny (gd w h₀ os mg mb).M A (execs body env) (dZ (gd w h₀ os mg mb) W (kR env) (RF (gd w h₀ os mg mb)) fun f Z=>f = .ret (.bool true)) (QE (gd w h₀ os mg mb) W (kR env) cO) s:=by
 have hfm:kR env =⟨env,ak fd.scope.names,fd.scope.names,fun Z=>Option.none,[env]⟩:=by unfold kR;rw [he]
 rw [hfm] at hA hR ⊢;clear hfm he;have e1:fnAt (gd w h₀ os mg mb).K 245 = some _:=rfl;rw [e1] at hfd;cases hfd;cases hb;clear e1;dsimp only at hA hR ⊢;have zl:(1000000:Nat)≤sizeLine:=by rw [sizeLine_eq];decide
 suffices key:Bb (gd w h₀ os mg mb) ⟨30,true⟩ ⟨env,_,_,fun Z=>Option.none,[env]⟩ cO _ ⟨bZ [("script",.lst (ns.map .int))],fun Z=>Option.none⟩ (fun f Z=>f = .ret (.bool true)) by exact key W s A hA hR
 clear hA hR;refine lQ (x:= "fixed") (y:= "turn") rfl f9 f9 ?_ rfl;refine ah.cons (Ev.cint (ah.cons (Ev.cint (ah.cons (Ev.cint (ah.cons (Ev.cint (ah.nil ⟨oS (Nat.le_refl 5) zl rfl,?_⟩))))))));refine Ev.binop (Ev.cint (Ev.call (Ev.boot (v:= .builtin "sum") O ⟨_,rfl,aa.builtin _,aU.cons (ah.cons (Ev.own rfl (ah.nil (Cal.sum (ns:=ns) rfl rfl (Bin.addInt ?_)))))⟩ (by kernel_rfl) (by kernel_rfl))))
 generalize (12+ns.sum)= turn;refine Ex.cons (an.asg (Ev.call (Ev.globR (v:= .ref q7) O ⟨_,rfl,aa.of O (by kernel_rfl),aU.cons (ah.cons (Ev.listCompF rfl (by decide) br ?_))⟩ (by kernel_rfl))) rfl rfl rfl)
 refine Ev.call (Ev.boot (v:= .type "range") O ⟨_,rfl,aa.type _,aU.cons (ah.cons (Ev.cint (ah.nil (Cal.range1 ?_))))⟩ (by kernel_rfl) (by kernel_rfl))
 refine Comp.mapE (f:=u0 ns) (Iter.rng (a:=0) (b:=5) (by decide) (by decide) (by decide) (by decide)) (fun Z=>trivial) (by show (intsFrom 0 5).length≤_;unfold intsFrom;rw [lN,List.length_range];exact oS (Nat.le_refl 5) zl rfl) (sJ ns) (fun cenv' k' a' loc' hs' ha'=>?_) ?_
 ·obtain ⟨hk',rfl⟩:=eb ha';have hk6:k' < yK.length:=hk';rw [Int.zero_add];refine Asg.name (.inl rfl) (Ev.binop (Ev.sub (Ev.outer (a:= .lst (yK.map .int)) (di rfl rfl rfl) (Ev.loc rfl (Sub.intAt (ns:=yK) (j:=k') rfl rfl (gE hk6) (by decide) ?_)))))
  refine Ev.call (Ev.boot (v:= .builtin "sum") O ⟨_,rfl,aa.builtin _,aU.cons (ah.cons (Ev.sub (Ev.outer (a:= .lst (ns.map .int)) (di rfl rfl rfl) (Ev.slice (b4.some (Ev.loc rfl ⟨_,rfl,b4.none (b4.some (Ev.cint ⟨_,rfl,?_⟩))⟩))))))⟩ (by kernel_rfl) (by kernel_rfl))
  refine Sub.sliceE (l:=ns.map .int) rfl (by simp) (lM (oS hz zl rfl)) (rR _ _ _ _ _) ?_ (fun Z Y=>rfl)
  refine ah.nil (Cal.sum (ns:=pick ns (some (k':Int)) Option.none (some 5)) rfl rfl (Bin.addInt ⟨?_,rfl⟩));show _ = AV.int (tq ns (k':Int).toNat);unfold tq;rw [Int.toNat_natCast,gE hk6];rfl
 refine ah.cons (Ev.cmp (Ev.binop (Ev.own rfl (Ev.cint (Bin.modInt (by decide) (Ev.cint (Cmp.eqInt (ah.nil (aH.cal ?_)))))))))
 refine qu (n:=20) O rfl (by decide) rfl fun M hM=>Asg.name (.inl rfl) ?_
 have hMl:M.length≤5:=qE hM.len;refine Ex.cons (an.assignSwap2 rfl (.inl rfl) (.inl rfl) (by decide) (Ev.tuple (ah.cons ?_)) (by kernel_rfl))
 refine Ev.ifStep (bj.plain (Ev.binop (Ev.binop (Ev.own rfl (Ev.cint (Bin.divInt O (by decide) (Ev.cint (Bin.modInt (by decide) (Tru.int ?_)))))))))
 generalize ((turn.fdiv 3).fmod 2 != 0)= b;refine ah.cons (Ev.binop (Ev.binop (Ev.own rfl (Ev.cint (Bin.divInt O (by decide) (Ev.cint (tt (m:=5) (by decide) fun s5=>?_)))))))
 refine ah.nil ⟨oS (Nat.le_refl 2) zl rfl,_,_,rfl,?_⟩;refine Ex.cons (an.asgCompF rfl (.inl rfl) (by decide) br (Ev.binop (Ev.sub (Ev.loc rfl (Ev.slice (b4.some (Ev.loc rfl ⟨_,rfl,b4.none (b4.none ?_)⟩)))))) rfl)
 refine Sub.sliceE (l:=M.map cT) (l':=(M.drop s5).map cT) rfl (by simp) (lM (oS hMl zl rfl)) (by rw [pick_from,List.map_drop]) ?_ (fun Z Y=>rfl)
 refine Ev.sub (Ev.loc rfl (Ev.slice (b4.none (b4.some (Ev.loc rfl ⟨_,rfl,b4.none ?_⟩)))));refine Sub.sliceE (l:=M.map cT) (l':=(M.take s5).map cT) rfl (by simp) (lM (oS hMl zl rfl)) (by rw [gm,List.map_take]) ?_ (fun Z Y=>rfl)
 have hMs:(M.drop s5++M.take s5).length≤5:=lT (qE (jO M s5).length_eq) hMl;refine tF (oS hMs zl rfl) ?_;refine Comp.mapI (src:=M.drop s5++M.take s5) (g:=cT) (f:=fun m=>aD (m.1,m.2.1)) (ys:=(fQ (M.drop s5++M.take s5)).map aD) (Iter.lst (lM (oS hMs zl rfl))) (fun Z=>rfl) (oS hMs zl rfl) (by unfold fQ;rw [List.map_map];rfl) (fun cenv m loc hs hm=>?_) ?_
 ·refine Asg.tuple rfl rfl rfl (Asg.name (.inl rfl) (Asg.name (.inl rfl) (Asg.name (.inl rfl) (Ev.tuple (ah.cons (Ev.sub (Ev.loc rfl (Ev.cint ?_))))))));exact iN hM ((jO M s5).mem_iff.mp hm) (ah.cons (Ev.loc rfl (ah.nil ⟨oS (Nat.le_refl 2) zl rfl,rfl,rfl⟩)))
 refine Ex.cons (an.asgCompD O rfl (.inl rfl) (by decide) br (Ev.loc rfl ?_))
 refine Comp.mapDI (src:=M) (g:=cT) (kf:=fun m=>m.1) (vf:=fun m=>AV.str (S2 (bE m.2.2.1 m.2.2.2))) (Iter.lst (lM (oS hMl zl rfl))) (fun Z=>rfl) (oS hMl zl rfl) (nC hM) (fun cenv m loc hs hm=>?_) ?_
 ·refine Asg.tuple rfl rfl rfl (Asg.name (.inl rfl) (Asg.name (.inl rfl) (Asg.name (.inl rfl) (Ev.sub (Ev.loc rfl (Ev.cint ?_))))));refine iN hM hm ⟨_,rfl,?_⟩;refine Ev.call (Ev.globR (v:= .ref fText) O ⟨_,rfl,aa.of O (by kernel_rfl),aU.cons (ah.cons (Ev.loc rfl (ah.cons (Ev.loc rfl (ah.nil (aH.cal ?_))))))⟩ (by kernel_rfl))
  exact k8 (n:=20) (rows:=m.2.2.1) O rfl (by decide) (hM.rows1 hm) ⟨rfl,rfl,rfl⟩
 refine Ex.cons (an.asgCompD O rfl (.inl rfl) (by decide) br (Ev.loc rfl ?_))
 refine Comp.mapDI (src:=M) (g:=cT) (kf:=fun m=>m.1) (vf:=fun m=>aA m.2.2.1) (Iter.lst (lM (oS hMl zl rfl))) (fun Z=>rfl) (oS hMl zl rfl) (nJ hM) (fun cenv m loc hs hm=>?_) ?_
 ·refine Asg.tuple rfl rfl rfl (Asg.name (.inl rfl) (Asg.name (.inl rfl) (Asg.name (.inl rfl) (Ev.sub (Ev.loc rfl (Ev.cint ?_))))));exact iN hM hm ⟨_,rfl,Ev.loc rfl ⟨rfl,rfl,rfl⟩⟩
 refine Ex.cons (an.asg (Ev.call (Ev.globR (v:= .ref fX) O ⟨_,rfl,aa.of O (by kernel_rfl),aU.cons (ah.cons (Ev.loc rfl (ah.cons (Ev.loc rfl (ah.cons (Ev.loc rfl (ah.cons (Ev.loc rfl (ah.cons (Ev.cbool (ah.nil (aH.cal ?_))))))))))))⟩ (by kernel_rfl))) rfl rfl rfl)
 refine pk (n:=20) (s:=s5) (b:=b) (M:=M) O rfl (by decide) hM fun L hG2 hndL hsL hL5=>Asg.name (.inl rfl) ?_
 refine Ex.cons (an.if_ (bj.cmp (Ev.loc rfl (Ev.cnone (Cmp.isNone (b:=false) rfl (Tru.bool (bN rfl (Ex.nil ?_))))))));refine Ex.cons (an.asgCompF rfl (.inl rfl) (by decide) br (Ev.loc rfl ?_) rfl)
 refine Comp.mapI (src:=L) (g:=fun x=>aA (ic M x)) (f:=fun x=>aD (x,sV M x)) (ys:=(cX M L).map aD) (Iter.lst (lM (oS hL5 zl rfl))) (fun Z=>rfl) (oS hL5 zl rfl) (by unfold cX;rw [List.map_map];rfl) (fun cenv x loc hs hx=>?_) ?_
 ·refine Asg.name (.inl rfl) (Ev.tuple (ah.cons (Ev.sub (Ev.loc rfl (Ev.cint ?_)))));refine rS hM (hsL x hx) ?_;refine ah.cons (Ev.sub (Ev.loc rfl (Ev.slice (b4.some (Ev.cint ⟨_,rfl,b4.some (Ev.mcall (Ev.loc rfl ⟨.builtin "list.index",_,aa.builtin _,Mth.list PySem.F.slot_list_index PySem.F.type_list_index rfl,aU.cons (ah.cons (Ev.cstr (ah.nil ?_)))⟩))⟩)))));refine mR hM (hsL x hx) ⟨_,rfl,b4.none ?_⟩;exact nS hM (hsL x hx) (ah.nil ⟨oS (Nat.le_refl 2) zl rfl,rfl,rfl⟩) (fun Z Y=>rfl)
 refine Ex.cons (an.asgCompD O rfl (.inl rfl) (by decide) br (Ev.loc rfl ?_))
 refine Comp.mapDI (src:=L) (g:=fun x=>aA (ic M x)) (kf:=fun x=>x) (vf:=fun x=>AV.str (S2 (bE (ic M x) (5000+turn)))) (Iter.lst (lM (oS hL5 zl rfl))) (fun Z=>rfl) (oS hL5 zl rfl) (mX hndL) (fun cenv x loc hs hx=>?_) ?_
 ·refine Asg.name (.inl rfl) (Ev.sub (Ev.loc rfl (Ev.cint ?_)));refine rS hM (hsL x hx) ⟨_,rfl,?_⟩;refine Ev.call (Ev.globR (v:= .ref fText) O ⟨_,rfl,aa.of O (by kernel_rfl),aU.cons (ah.cons (Ev.loc rfl (ah.cons (Ev.binop (Ev.cint (Ev.outer (a:= .int turn) (di rfl rfl rfl) (Bin.addInt (ah.nil (aH.cal ?_)))))))))⟩ (by kernel_rfl))
  exact k8 (n:=20) (rows:=ic M x) O rfl (by decide) (hM.rows (hsL x hx)) ⟨rfl,rfl,rfl⟩
 refine Ex.cons (an.ret (Ev.cmp (Ev.call (Ev.globR (v:= .ref fX) O ⟨_,rfl,aa.of O (by kernel_rfl),aU.cons (ah.cons (Ev.loc rfl (ah.cons (Ev.loc rfl (ah.cons (Ev.loc rfl (ah.cons (Ev.neg (Ev.loc rfl ⟨aY b,rfl,ah.cons (Ev.cbool (ah.nil (aH.cal ?_)))⟩)))))))))⟩ (by kernel_rfl)))))
 exact qg (n:=20) (M:=M) (L:=L) (q:=5000+turn) O rfl (by decide) hM hG2 hsL fun l=>Ev.cnone (Cmp.isNotNone (b:=true) rfl rfl)
end
end Mine
set_option tactic.hygienic true
local macro_rules | `(tactic| k_qdec) => `(tactic| decide +kernel)
set_option pp.deepTerms false in
set_option pp.deepTerms.threshold 3 in
theorem PySem.Challenge.cw_mr0286_01_holds : PySem.Challenge.rw_mr0286_01.Holds := by
 refine Mine.hd ?_
 w_strict k_go0
 rename_i w s₀ s₁ mg mb G Y fa o pm doc ho hg KX X V GL T B TE TW w14 w13 M w12 w11 hcd ns hs hlay0 hL1 hr1 hl2 w9 w8 w7 w6 w5 hL ra w1 r0 hI hr hlen hcond K0 hD h₁ tk₁ F c2 c1 c0 l1 l0 rr N0 X0
 have O : (Mine.gd w s₁.heap s₁.os mg mb).Ok := ⟨GL.g, GL.b, GL.builtins, KX, GL.nolimit, GL.seer, rfl⟩
 have hz : ns.length ≤ 63 := by omega
 refine wpAny_mono (Mine.qy (ns := ns) (h₀ := s₁.heap) (os := s₁.os) (W := Mine.W0 s₁.heap) O rfl rfl rfl (Mine.rD (Nat.le_refl _) rfl rfl) (Mine.qb (G := Mine.gd w s₁.heap s₁.os mg mb) F N0 X0 rfl (by decide) hg rfl ?_ ?_) hz) (fun f s' z => ?_) fun e s' z => z.no.elim
 ·intro x av hx e
  have : x = "script" := by
   unfold Mine.bZ at e
   simp only [List.reverse_cons, List.reverse_nil, List.nil_append, List.lookup_cons] at e
   split at e
   ·rename_i h; exact beq_iff_eq.mp h
   ·cases e
  subst this
  exact absurd hx (by decide)
 ·intro x av hx e
  have : x = "script" ∧ av = .lst (ns.map .int) := by
   unfold Mine.bZ at e
   simp only [List.reverse_cons, List.reverse_nil, List.nil_append, List.lookup_cons] at e
   split at e
   ·rename_i h; cases e; exact ⟨beq_iff_eq.mp h, rfl⟩
   ·cases e
  obtain ⟨rfl, rfl⟩ := this
  exact ⟨.ref w7, rfl, Mine.tw rfl w1⟩
 ·obtain ⟨W', st', af, le, R', rf, rfl⟩ := z
  obtain ⟨v, rfl, rv⟩ := rf
  simp only [Mine.df] at rv
  subst rv
  refine ⟨.inl ⟨.bool true, .bool true, [], rfl, ?_, ?_, ?_, ?_⟩, R'.keep, R'.os, R'.gens⟩
  ·exact fun _ => rfl
  ·exact .bool _
  ·exact Mine.pO _ _ _
  ·exact fun _ => ⟨List.nodup_nil, fun a ha => nomatch ha⟩
