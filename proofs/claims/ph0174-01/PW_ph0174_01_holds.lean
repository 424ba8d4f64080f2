import PyProof.Rows.All
import Wide.All
import OpenK.AllK
import Wide.FinOn
import PySem.Challenge.RW_ph0174_01
open PySem PySem.W PyProof.Rows
set_option Elab.async false
set_option linter.all false
set_option maxRecDepth 100000
set_option maxHeartbeats 8000000
set_option compiler.extract_closed false
set_option genSizeOf false
set_option genSizeOfSpec false
set_option genInjectivity false
set_option bootstrap.genMatcherCode false
local macro_rules | `(tactic| o_law) => `(tactic| refine PySem.W.holds_law (by decide +kernel) fun said => ?_)
namespace Mine
open_top hd for PySem.Challenge.rw_ph0174_01
end Mine
namespace Mine
def af : Lean.Syntax := Lean.Unhygienic.run `(Lean.Parser.Tactic.tacticSeq| rfl)
def b7 : Lean.Syntax := Lean.Unhygienic.run `(Lean.Parser.Tactic.tacticSeq| kernel_rfl)
def tC : Lean.Syntax := Lean.Unhygienic.run `(Lean.Parser.Tactic.tacticSeq| first | exact Nat.le_refl _ | exact Nat.le_succ _ | exact Mine.ω79 | omega)
def ua : Lean.Syntax := Lean.Unhygienic.run `(Lean.Parser.Tactic.tacticSeq| intro _; rfl)
def wN : Lean.Syntax := Lean.Unhygienic.run `(Lean.Parser.Tactic.tacticSeq| exact fun ν h => nomatch h)
def ym : Lean.Syntax := Lean.Unhygienic.run `(Lean.Parser.Tactic.tacticSeq| decide +kernel)
def zW : Lean.Syntax := Lean.Unhygienic.run `(Lean.Parser.Tactic.tacticSeq| with_unfolding_all rfl)
def A6 : Lean.Syntax := Lean.Unhygienic.run `(Lean.Parser.Tactic.tacticSeq| decide)
def B8 : Lean.Syntax := Lean.Unhygienic.run `(Lean.Parser.Tactic.tacticSeq| first | exact Nat.le_refl _ | exact Nat.le_succ _ | exact Mine.ω79 | lia)
def B3 : Lean.Syntax := Lean.Unhygienic.run `(Lean.Parser.Tactic.tacticSeq| exact Nat.le_of_ble_eq_true (by kernel_rfl))
def Cc : Lean.Syntax := Lean.Unhygienic.run `(Lean.Parser.Tactic.tacticSeq| exact Nat.le_of_ble_eq_true rfl)
theorem Aq{A B P:Prop}(h:A∧B)(k:A→B→P):P:=k h.1 h.2
theorem ny{A B C P:Prop}(h:A∧B∧C)(k:A→B→C→P):P:=Aq h.2 (k h.1)
theorem j9{A B C D P:Prop}(h:A∧B∧C∧D)(k:A→B→C→D→P):P:=ny h.2 (k h.1)
theorem kO{A B C D E P:Prop}(h:A∧B∧C∧D∧E)(k:A→B→C→D→E→P):P:=j9 h.2 (k h.1)
theorem xQ{A B C D E F P:Prop}(h:A∧B∧C∧D∧E∧F)(k:A→B→C→D→E→F→P):P:=kO h.2 (k h.1)
theorem BR{α:Sort _}{A:α→Prop}{P:Prop}(h:∃x,A x)(k:∀x,A x→P):P:=h.elim k
theorem aj{α:Sort _}{A B:α→Prop}{P:Prop}(h:∃x,A x∧B x)(k:∀x,A x→B x→P):P:=h.elim fun x h=>Aq h (k x)
theorem bL{α:Sort _}{A B C:α→Prop}{P:Prop}(h:∃x,A x∧B x∧C x)(k:∀x,A x→B x→C x→P):P:=h.elim fun x h=>ny h (k x)
theorem iy{α:Sort _}{A B C D:α→Prop}{P:Prop}(h:∃x,A x∧B x∧C x∧D x)(k:∀x,A x→B x→C x→D x→P):P:=h.elim fun x h=>j9 h (k x)
theorem gb{α:Sort _}{A B C D E:α→Prop}{P:Prop}(h:∃x,A x∧B x∧C x∧D x∧E x)(k:∀x,A x→B x→C x→D x→E x→P):P:=h.elim fun x h=>kO h (k x)
theorem z8{α:Sort _}{A B C D E F:α→Prop}{P:Prop}(h:∃x,A x∧B x∧C x∧D x∧E x∧F x)(k:∀x,A x→B x→C x→D x→E x→F x→P):P:=h.elim fun x h=>xQ h (k x)
theorem fZ{α:Sort _}{β:Sort _}{A:α→β→Prop}{P:Prop}(h:∃x y,A x y)(k:∀x y,A x y→P):P:=h.elim fun x h=>BR h (k x)
theorem aB{α:Sort _}{β:Sort _}{A B:α→β→Prop}{P:Prop}(h:∃x y,A x y∧B x y)(k:∀x y,A x y→B x y→P):P:=h.elim fun x h=>aj h (k x)
theorem av{α:Sort _}{β:Sort _}{A B C:α→β→Prop}{P:Prop}(h:∃x y,A x y∧B x y∧C x y)(k:∀x y,A x y→B x y→C x y→P):P:=h.elim fun x h=>bL h (k x)
theorem fO{α:Sort _}{β:Sort _}{A B C D:α→β→Prop}{P:Prop}(h:∃x y,A x y∧B x y∧C x y∧D x y)(k:∀x y,A x y→B x y→C x y→D x y→P):P:=h.elim fun x h=>iy h (k x)
theorem Bb{α:Sort _}{β:Sort _}{A B C D E:α→β→Prop}{P:Prop}(h:∃x y,A x y∧B x y∧C x y∧D x y∧E x y)(k:∀x y,A x y→B x y→C x y→D x y→E x y→P):P:=h.elim fun x h=>gb h (k x)
theorem vj{α:Sort _}{β:Sort _}{A B C D E F:α→β→Prop}{P:Prop}(h:∃x y,A x y∧B x y∧C x y∧D x y∧E x y∧F x y)(k:∀x y,A x y→B x y→C x y→D x y→E x y→F x y→P):P:=h.elim fun x h=>z8 h (k x)
theorem AA{α:Sort _}{β:Sort _}{γ:Sort _}{A:α→β→γ→Prop}{P:Prop}(h:∃x y z,A x y z)(k:∀x y z,A x y z→P):P:=h.elim fun x h=>fZ h (k x)
theorem gJ{α:Sort _}{β:Sort _}{γ:Sort _}{A B:α→β→γ→Prop}{P:Prop}(h:∃x y z,A x y z∧B x y z)(k:∀x y z,A x y z→B x y z→P):P:=h.elim fun x h=>aB h (k x)
theorem gh{α:Sort _}{β:Sort _}{γ:Sort _}{A B C:α→β→γ→Prop}{P:Prop}(h:∃x y z,A x y z∧B x y z∧C x y z)(k:∀x y z,A x y z→B x y z→C x y z→P):P:=h.elim fun x h=>av h (k x)
theorem tV{α:Sort _}{β:Sort _}{γ:Sort _}{A B C D:α→β→γ→Prop}{P:Prop}(h:∃x y z,A x y z∧B x y z∧C x y z∧D x y z)(k:∀x y z,A x y z→B x y z→C x y z→D x y z→P):P:=h.elim fun x h=>fO h (k x)
theorem jH{α:Sort _}{β:Sort _}{γ:Sort _}{A B C D E:α→β→γ→Prop}{P:Prop}(h:∃x y z,A x y z∧B x y z∧C x y z∧D x y z∧E x y z)(k:∀x y z,A x y z→B x y z→C x y z→D x y z→E x y z→P):P:=h.elim fun x h=>Bb h (k x)
theorem tD{α:Sort _}{β:Sort _}{γ:Sort _}{A B C D E F:α→β→γ→Prop}{P:Prop}(h:∃x y z,A x y z∧B x y z∧C x y z∧D x y z∧E x y z∧F x y z)(k:∀x y z,A x y z→B x y z→C x y z→D x y z→E x y z→F x y z→P):P:=h.elim fun x h=>vj h (k x)
theorem zx{α:Sort _}{β:Sort _}{γ:Sort _}{δ:Sort _}{A:α→β→γ→δ→Prop}{P:Prop}(h:∃x y z u,A x y z u)(k:∀x y z u,A x y z u→P):P:=h.elim fun x h=>AA h (k x)
theorem sP{α:Sort _}{β:Sort _}{γ:Sort _}{δ:Sort _}{A B:α→β→γ→δ→Prop}{P:Prop}(h:∃x y z u,A x y z u∧B x y z u)(k:∀x y z u,A x y z u→B x y z u→P):P:=h.elim fun x h=>gJ h (k x)
theorem BC{α:Sort _}{β:Sort _}{γ:Sort _}{δ:Sort _}{A B C:α→β→γ→δ→Prop}{P:Prop}(h:∃x y z u,A x y z u∧B x y z u∧C x y z u)(k:∀x y z u,A x y z u→B x y z u→C x y z u→P):P:=h.elim fun x h=>gh h (k x)
theorem fK{α:Sort _}{β:Sort _}{γ:Sort _}{δ:Sort _}{A B C D:α→β→γ→δ→Prop}{P:Prop}(h:∃x y z u,A x y z u∧B x y z u∧C x y z u∧D x y z u)(k:∀x y z u,A x y z u→B x y z u→C x y z u→D x y z u→P):P:=h.elim fun x h=>tV h (k x)
theorem Br{α:Sort _}{β:Sort _}{γ:Sort _}{δ:Sort _}{A B C D E:α→β→γ→δ→Prop}{P:Prop}(h:∃x y z u,A x y z u∧B x y z u∧C x y z u∧D x y z u∧E x y z u)(k:∀x y z u,A x y z u→B x y z u→C x y z u→D x y z u→E x y z u→P):P:=h.elim fun x h=>jH h (k x)
theorem zE{α:Sort _}{β:Sort _}{γ:Sort _}{δ:Sort _}{ε:Sort _}{A:α→β→γ→δ→ε→Prop}{P:Prop}(h:∃x y z u v,A x y z u v)(k:∀x y z u v,A x y z u v→P):P:=h.elim fun x h=>zx h (k x)
theorem Bj{α:Sort _}{β:Sort _}{γ:Sort _}{δ:Sort _}{ε:Sort _}{A B C:α→β→γ→δ→ε→Prop}{P:Prop}(h:∃x y z u v,A x y z u v∧B x y z u v∧C x y z u v)(k:∀x y z u v,A x y z u v→B x y z u v→C x y z u v→P):P:=h.elim fun x h=>BC h (k x)
theorem Bx{α:Sort _}{β:Sort _}{γ:Sort _}{δ:Sort _}{ε:Sort _}{A B C D:α→β→γ→δ→ε→Prop}{P:Prop}(h:∃x y z u v,A x y z u v∧B x y z u v∧C x y z u v∧D x y z u v)(k:∀x y z u v,A x y z u v→B x y z u v→C x y z u v→D x y z u v→P):P:=h.elim fun x h=>fK h (k x)
theorem ω0{k m:Nat}(e:Nat.ble k m=true):k≤m:=Nat.le_of_ble_eq_true e
theorem ω1{a k m:Nat}(h:a≤k)(e:Nat.ble k m=true):a≤m:=Nat.le_trans h (ω0 e)
theorem ω2{a k m:Nat}(h:a≤k)(e:Nat.ble (k+1) m=true):a<m:=ω1 (Nat.succ_le_succ h) e
theorem ω3{a k m:Nat}(h:a<k)(e:Nat.ble k m=true):a≤m:=Nat.le_of_lt (ω1 h e)
theorem ω4{a b k m:Nat}(h:a≤b)(g:b≤k)(e:Nat.ble k m=true):a≤m:=Nat.le_trans h (ω1 g e)
theorem ω5{a b k m:Nat}(h:a<b)(g:b≤k)(e:Nat.ble k m=true):a≤m:=ω4 (Nat.le_of_lt h) g e
theorem ω6{a b k m:Nat}(h:a=b)(g:b≤k)(e:Nat.ble k m=true):a≤m:=ω1 (h▸g) e
theorem ω7{a b k m:Nat}(h:b=a)(g:b≤k)(e:Nat.ble k m=true):a≤m:=ω6 h.symm g e
theorem ω8{a b k m:Nat}(h:a=b)(g:b<k)(e:Nat.ble k m=true):a≤m:=ω3 (h▸g) e
theorem ω9{a b k l m:Nat}(h:a≤k)(g:b≤l)(e:Nat.ble (k+l) m=true):a+b≤m:=ω1 (Nat.add_le_add h g) e
theorem ω10{a k m c:Nat}(h:a≤k)(e:Nat.ble (c+k) m=true):c+a≤m:=ω1 (Nat.add_le_add_left h c) e
theorem ω11{a k m c:Nat}(h:a≤k)(e:Nat.ble (k+c) m=true):a+c≤m:=ω1 (Nat.add_le_add_right h c) e
theorem ω12{a k m c:Nat}(h:a≤k)(e:Nat.ble (c*k) m=true):c*a≤m:=ω1 (Nat.mul_le_mul_left c h) e
theorem ω13{a b k m c:Nat}(h:a≤k)(g:b≤c*a)(e:Nat.ble (c*k) m=true):b≤m:=Nat.le_trans g (ω12 h e)
theorem ω15{a k:Nat}{m:Int}(h:a≤k)(e:decide ((k:Int)<m)=true):(a:Int)<m:=Int.lt_of_le_of_lt (Int.ofNat_le.2 h) (of_decide_eq_true e)
theorem ω16{a k m:Nat}(h:a≤k)(e:Nat.ble (k+1) m=true):(a:Int).natAbs <m:=ω2 h e
theorem ω18{a b c k m:Nat}(h:a<b)(g:b=c)(f:c≤k)(e:Nat.ble k m=true):(a:Int).natAbs <m:=Nat.lt_of_lt_of_le (g▸h) (ω1 f e)
theorem ω19(a:Nat):(0:Int)≤a:=Int.natCast_nonneg a
theorem ω20{t a b:Nat}(h:t-a=b+1):b=t-(a+1):=(congrArg Nat.pred h).symm
theorem ω21{a:Nat}{i:Int}(h:decide ((a:Int)≤i)=true):(i+1).toNat -a=(i+1).toNat -a-1+1:=
 (Nat.succ_pred_eq_of_pos (Nat.sub_pos_of_lt (Int.lt_toNat.2 (Int.lt_add_one_of_le (of_decide_eq_true h))))).symm
theorem ω22{a:Nat}{i:Int}(h:decide ((a:Int)≤i)=false):(i+1).toNat -a=0:=
 Nat.sub_eq_zero_of_le (Int.toNat_le.2 (Int.add_one_le_of_lt (Int.not_le.1 (of_decide_eq_false h))))
theorem ω23{n a b:Nat}(h:n=a+b):((n:Int)+1).toNat -a=b+1:=h▸Nat.add_sub_cancel_left a (b+1)
theorem ω24{a b:Nat}(h:a<b):((a:Int)+1).toNat -b=0:=Nat.sub_eq_zero_of_le h
theorem ω25{t a b:Nat}(h:t-a=b+1):b<t-a:=h▸Nat.lt_succ_self b
theorem ω26{l r:Nat}(h:l≤r):l≤(l+r)/2:=(Nat.le_div_iff_mul_le Nat.two_pos).2 (Nat.mul_two l▸Nat.add_le_add_left h l)
theorem ω27{l r:Nat}(h:¬l≥r):(l+r)/2<r:=Nat.div_lt_of_lt_mul (Nat.two_mul r▸Nat.add_lt_add_right (Nat.not_le.1 h) r)
theorem ω28{l r f:Nat}(g:¬l≥r)(h:r-l≤f+1):r-((l+r)/2+1)≤f:=
 Nat.le_of_lt_succ (Nat.lt_of_lt_of_le (Nat.sub_lt_sub_left (Nat.not_le.1 g) (Nat.lt_succ_of_le (ω26 (Nat.le_of_lt (Nat.not_le.1 g))))) h)
theorem ω29{l r f:Nat}(g:¬l≥r)(h:r-l≤f+1):(l+r)/2-l≤f:=
 Nat.le_of_lt_succ (Nat.lt_of_lt_of_le (Nat.sub_lt_sub_right (ω26 (Nat.le_of_lt (Nat.not_le.1 g))) (ω27 g)) h)
theorem ω30{l r k:Nat}(h:r≤k)(g:¬l≥r):(l+r)/2<k:=Nat.lt_of_lt_of_le (ω27 g) h
theorem ω31{l r:Nat}(h:l≤r)(e:r-l≤0):l=r:=Nat.le_antisymm h (Nat.le_of_sub_eq_zero (Nat.le_zero.1 e))
theorem ω32{a b c:Nat}(h:a≤b)(e:b-a≤0)(g:a≤c):b≤c:=ω31 h e▸g
theorem ω33{l r:Nat}(g:¬l≥r):(l+r)/2+1≤r:=ω27 g
theorem ω35{a b c:Nat}:min (a-b) (c-b)≤c:=Nat.le_trans (Nat.min_le_right _ _) (Nat.sub_le _ _)
theorem ω36{a b c:Nat}(h:a≤b):a-c=min (a-c) (b-c):=(Nat.min_eq_left (Nat.sub_le_sub_right h c)).symm
theorem ω37{a b:Nat}{i:Int}(h:(a:Int)=max 0 (min i b)):a≤b:=Int.ofNat_le.1 (h▸Int.max_le.2 ⟨Int.natCast_nonneg b,Int.min_le_right i b⟩)
theorem ω38{a b:Nat}{i:Int}(g:0≤i)(h:(a:Int)=max 0 (min i b)):a≤i.toNat:=(Int.le_toNat g).2 (h▸Int.max_le.2 ⟨g,Int.min_le_left i b⟩)
theorem ω39{a b c:Nat}(h:a≤c):min a b≤c:=Nat.le_trans (Nat.min_le_left a b) h
theorem ω40{a b c:Nat}(h:(a:Int)=max 0 (min (b:Int) c)):a=min b c:=Int.ofNat.inj (h.trans ((Int.max_eq_right (Int.le_min.2 ⟨Int.natCast_nonneg b,Int.natCast_nonneg c⟩)).trans (Lean.Omega.Int.ofNat_min b c).symm))
theorem ω41{a b c:Nat}(h:min (a-b) (c-b)=c):c-b≤a-b:=Nat.le_trans (Nat.sub_le c b) (h▸Nat.min_le_left _ _)
theorem ω42{a b:Nat}(h:a-b=a)(g:b>0):a=0:=Nat.eq_zero_of_not_pos fun k=>Nat.ne_of_lt (Nat.sub_lt k g) h
theorem ω43{a b:Nat}(h:a<b):b-a=b-(a+1)+1:=(Nat.succ_pred_eq_of_pos (Nat.sub_pos_of_lt h)).symm
theorem ω45{a b:Nat}(h:a≤b):b-(b-a)=a:=Nat.sub_sub_self h
theorem ω46{a b:Nat}:a-b≤a:=Nat.sub_le a b
theorem ω47{a b:Nat}(h:a≤b):b+1-a=b-a+1:=Nat.succ_sub h
theorem ω48{a b c:Nat}(h:a≤b):c+1+b-a-c=b-a+1:=by
 rw[Nat.add_assoc,Nat.add_sub_assoc (Nat.le_trans h (Nat.le_add_left b 1)),Nat.add_sub_cancel_left,Nat.add_comm 1 b];exact ω47 h
theorem ω49{a b c:Nat}(h:a≤b):c≤c+1+b-a:=by
 rw[Nat.add_assoc,Nat.add_sub_assoc (Nat.le_trans h (Nat.le_add_left b 1))];exact Nat.le_add_right _ _
theorem ω50{a b c:Nat}(h:a+(b+1-1)+1=c):c-(b+1)=a:=h▸Nat.add_sub_cancel a (b+1)
theorem ω51{a b:Nat}:a+1+b-(b+1)=a:=(congrArg (·-(b+1)) (Nat.add_right_comm a 1 b)).trans (Nat.add_sub_cancel (n:=a) (m:=b+1))
theorem ω52{a b:Nat}:a≤b+(a+1)-(b+1):=Nat.le_sub_of_add_le (Nat.le_of_eq (Nat.add_left_comm a b 1))
theorem ω54{a k:Nat}(h:k≤a)(e:Nat.ble 2 k=true):1≤a-1:=Nat.le_sub_of_add_le (Nat.le_trans (ω0 e) h)
theorem ω55{a b c:Nat}(h:a=b+c):a-c=b:=h▸Nat.add_sub_cancel b c
theorem ω56{a:Nat}(h:0<a):a-1<a:=Nat.sub_lt h Nat.one_pos
theorem ω57{a b c:Nat}(h:1≤a)(g:a+(c+1)≤b):a-1<b:=Nat.lt_of_lt_of_le (ω56 h) (Nat.le_trans (Nat.le_add_right a _) g)
theorem ω58{a:Nat}(h:1≤a):¬a=a-1:=fun e=>Nat.ne_of_lt (ω56 h) e.symm
theorem ω59{a:Nat}(h:0<a):a=a-1+1:=(Nat.succ_pred_eq_of_pos h).symm
theorem ω60{a b c:Nat}(g:0<a)(h:a=min a (b-c)):c+a≤b:=by
 have k:a≤b-c:=h▸Nat.min_le_right a (b-c)
 exact Nat.add_comm a c▸Nat.add_le_of_le_sub (Nat.le_of_lt (Nat.lt_of_sub_pos (Nat.lt_of_lt_of_le g k))) k
theorem ω61{i j k:Nat}(h:i<j)(g:j<k):0+k-1-j<0+k-1-i:=by
 rw[Nat.zero_add];exact Nat.sub_lt_sub_left (Nat.lt_of_lt_of_le h (Nat.le_pred_of_lt g)) h
theorem ω62{i j k:Nat}(h:i<j)(g:j<k):0+k-1-i<k:=by
 rw[Nat.zero_add];exact Nat.lt_of_le_of_lt (Nat.sub_le _ i) (ω56 (Nat.lt_of_le_of_lt (Nat.zero_le j) g))
theorem ω66{i j l:Nat}(h:i<j)(g:¬i<l)(g':¬i=l):i-1<j-1:=by
 have k:l<i:=Nat.lt_of_le_of_ne (Nat.not_lt.1 g) (Ne.symm g')
 exact Nat.sub_lt_sub_right (Nat.lt_of_le_of_lt (Nat.zero_le l) k) h
theorem ω67{j l:Nat}(g:¬j<l)(g':¬j=l):l≤j-1:=Nat.le_pred_of_lt (Nat.lt_of_le_of_ne (Nat.not_lt.1 g) (Ne.symm g'))
theorem ω68{i j l:Nat}(g:¬j<l)(g':¬j=l)(h:i<l):i<j-1:=Nat.lt_of_lt_of_le h (ω67 g g')
theorem ω69{j l k:Nat}(h:j<k+1)(g:¬j<l)(g':¬j=l):j-1<k:=by
 have p:l<j:=Nat.lt_of_le_of_ne (Nat.not_lt.1 g) (Ne.symm g')
 exact Nat.lt_of_lt_of_le (ω56 (Nat.lt_of_le_of_lt (Nat.zero_le l) p)) (Nat.le_of_lt_succ h)
theorem ω70{a b:Nat}(h:a<b)(g:¬a=b-1):a<b-1:=Nat.lt_of_le_of_ne (Nat.le_pred_of_lt h) g
theorem ω71{a b c d:Nat}(h:a≤b*c)(g:d≤c):d+a≤b*c+c:=Nat.add_comm d a▸Nat.add_le_add h g
theorem ω72{a b c d:Nat}(h:a≤b+c)(g:b≤d+1):a≤d+(c+1):=Nat.le_trans h (Nat.le_trans (Nat.add_le_add_right g c) (Nat.le_of_eq (Nat.add_assoc d 1 c▸congrArg _ (Nat.add_comm 1 c))))
theorem ω73{a b c:Nat}(h:a+(b+1)=c):a+1+b=c:=(Nat.add_right_comm a 1 b).trans h
theorem ω74{a b c:Nat}(h:a+(b+1)=c):a<c:=h▸Nat.lt_add_of_pos_right (Nat.succ_pos b)
theorem ω75{a b c:Nat}(h:a+(b+1)≤c):a<c:=Nat.lt_of_lt_of_le (Nat.lt_add_of_pos_right (Nat.succ_pos b)) h
theorem ω76{a b c:Nat}(h:a+(b+1)≤c):a+1+b≤c:=Nat.add_right_comm a 1 b▸h
theorem ω77{a b c:Nat}(h:a+(b+1)<c):a+1+b<c:=Nat.add_right_comm a 1 b▸h
theorem ω79{a:Nat}:a≤a+1+1:=Nat.le_add_right a 2
theorem ω80{a b c:Nat}(h:a≤b)(g:c≤a+1):c≤b+1:=Nat.le_trans g (Nat.succ_le_succ h)
theorem ω81{a b c m k:Nat}(h:a≤b)(g:c+k*b<m):c+k*a<m:=Nat.lt_of_le_of_lt (Nat.add_le_add_left (Nat.mul_le_mul_left k h) c) g
theorem ω82{a b c m:Nat}(h:a≤b)(g:c+b<m):c+a<m:=Nat.lt_of_le_of_lt (Nat.add_le_add_left h c) g
theorem ω83{a b c m k:Nat}(h:a≤k)(g:c+k*(b+1)<m):c+a<m:=ω82 (Nat.le_trans h (Nat.le_mul_of_pos_right k (Nat.succ_pos b))) g
theorem ω84{a b m k d:Nat}(h:a+k*(b+1)<m)(e:Nat.ble d k=true):a+d+k*b<m:=by
 refine Nat.lt_of_le_of_lt ?_ h
 rw[Nat.add_assoc,Nat.mul_succ,Nat.add_comm d]
 exact Nat.add_le_add_left (Nat.add_le_add_left (ω0 e) _) a
theorem ω87{a b m:Nat}(h:a+b≤m):b≤m:=Nat.le_trans (Nat.le_add_left b a) h
theorem ω88{a b m:Nat}(h:a+b≤m):a≤m:=Nat.le_trans (Nat.le_add_right a b) h
theorem ω90{a b c d:Nat}(h:a≤c*(b+d))(g:e≤b):e+d+a≤c*(b+d)+(b+d):=Nat.add_comm _ a▸Nat.add_le_add h (Nat.add_le_add_right g d)
theorem ω91{a b c:Nat}(h:a≤5*b)(g:c≤5):c+a≤5*(b+1):=Nat.mul_succ 5 b▸Nat.add_comm c a▸Nat.add_le_add h g
theorem ω93{a b c:Nat}(h:a≤b+1+c):a≤b+(c+1):=Nat.add_right_comm b 1 c▸h
theorem ω94{a b c:Nat}(h:a<b+1+c):a<b+(c+1):=Nat.add_right_comm b 1 c▸h
theorem ω95{a b c:Nat}(h:¬a<b):b≤a+1+c:=Nat.le_trans (Nat.not_lt.1 h) (Nat.le_trans (Nat.le_succ a) (Nat.le_add_right _ c))
theorem ω96{a b:Nat}(h:¬a<b):b≤a+1:=Nat.le_succ_of_le (Nat.not_lt.1 h)
theorem ω97{a b:Nat}(h:¬a<b)(g:¬a=b):b<a:=Nat.lt_of_le_of_ne (Nat.not_lt.1 h) (Ne.symm g)
theorem ω98{a b:Nat}(h:a+0≤b):a+(b-a)=b:=Nat.add_sub_cancel' h
theorem ω99{a b c:Nat}(h:a+0≤b)(g:c<a+(b-a)):c<b:=Nat.add_sub_cancel' h▸g
theorem ω100{a b:Nat}(h:a<b):a+(b-a)=b:=Nat.add_sub_cancel' (Nat.le_of_lt h)
theorem ω101{a b c d e:Nat}(h:a+(b+1)=c):d+(b+e)+1=d+(c-a+e):=by
 rw[←h,Nat.add_sub_cancel_left,Nat.add_assoc,Nat.add_right_comm b]
theorem ω102{n:Nat}(h:n<4):n=0∨n=1∨n=2∨n=3:=(show∀n:Fin 4,n.1=0∨n.1=1∨n.1=2∨n.1=3 by decide) ⟨n,h⟩
theorem ω103{i j:Int}{n:Nat}(h:0≤i∧i<4)(g:0≤j∧j<2)(k:n≤i.toNat):n+(j+1).toNat≤5:=
 Nat.add_le_add (b:=3) (d:=2) (Nat.le_trans k (Int.toNat_le.2 (Int.le_of_lt_add_one h.2))) (Int.toNat_le.2 g.2)
theorem ω104{a b c:Nat}{i:Int}(h:(a:Int)=max 0 (min i b))(g:i=c)(l:c≤b):a=c:=
 Int.ofNat.inj (h.trans (g▸(Int.max_eq_right (Int.le_min.2 ⟨Int.natCast_nonneg c,Int.natCast_nonneg b⟩)).trans (Int.min_eq_left (Int.ofNat_le.2 l))))
theorem ω105{a b n:Nat}(h:(a:Int)=max 0 (min (-2+(b:Int)) b))(g:b=n+2):a=n:=
 by subst g;exact ω104 h ((Int.add_comm (-2) (n+2)).trans (Int.add_neg_cancel_right n 2)) (Nat.le_add_right n 2)
theorem ω106{n:Nat}:(-1+(n:Int)).toNat =n-1:=(congrArg Int.toNat (Int.add_comm (-1) n)).trans (Int.toNat_sub n 1)
theorem ω107{a b k:Nat}{i m:Int}(h:b≤k)(g:a≤b)(q:0≤i∧i<a+1)(e:decide ((k:Int)+1≤m)=true):i<m:=
 Int.lt_of_lt_of_le q.2 (Int.le_trans (Int.add_le_add_right (Int.ofNat_le.2 (Nat.le_trans g h)) 1) (of_decide_eq_true e))
theorem ω109{a n:Nat}(h:(a:Int)=max 0 (min (-1+((n+1:Nat):Int)) ((n+1:Nat):Int))):a=n:=
 ω104 h ((Int.add_comm (-1) (n+1)).trans (Int.add_neg_cancel_right n 1)) (Nat.le_succ n)
theorem ω110{n:Nat}(h:1≤n)(g:¬(1==n)=true):1+1≤n:=Nat.lt_of_le_of_ne h fun e=>g (e▸rfl)
theorem ω111{a b c d e f g:Nat}(h:a≤b)(h2:c=d+e)(h3:d≤f+g)(h4:a=g+(f+e)):c≤b:=
 h2▸Nat.le_trans (Nat.add_le_add_right h3 e) (Nat.le_trans (Nat.le_of_eq (Nat.add_comm f g▸(Nat.add_assoc g f e).trans h4.symm)) h)
theorem ω112{a b c d e f:Nat}(h:a≤b+c+d+e*(f+d))(g:c≤f):a≤b+(e+1)*(f+d):=by
 rw[Nat.succ_mul,Nat.add_comm (e*_),←Nat.add_assoc,←Nat.add_assoc]
 exact Nat.le_trans h (Nat.add_le_add_right (Nat.add_le_add_right (Nat.add_le_add_left g b) d) _)
theorem ω113{a b:Nat}{P:Prop}(h:0≤a∧a<0+b∧P):a<b:=Nat.zero_add b▸h.2.1
theorem ω115{a b:Nat}(h:a=b+1):a≤a-1+1:=h▸Nat.le_refl (b+1)
theorem ω116{n:Nat}{i:Int}(h:0≤i∧i<2):¬n+(i+1).toNat =0:=fun e=>Int.not_lt.2 (Int.toNat_eq_zero.1 (Nat.eq_zero_of_add_eq_zero_left e)) (Int.lt_add_one_of_le h.1)
theorem ω117{n:Nat}:(2*(n:Int)+1).toNat =2*n+1:=rfl
theorem ω118{i:Int}{k:Nat}(h:i≤k):i.toNat≤k:=Int.toNat_le.2 h
theorem ω119{a b:Nat}(h:a≤b+1):a-1≤b:=Nat.pred_le_pred h
theorem ω120{i:Int}{k:Nat}(h:0≤i∧i<k):i.toNat<k:=(Int.toNat_lt h.1).2 h.2
theorem ω121{a b c d i:Int}(h:a≤i∧i<b)(e:decide (c≤a∧b≤d)=true):c≤i∧i<d:=
 ⟨Int.le_trans (of_decide_eq_true e).1 h.1,Int.lt_of_lt_of_le h.2 (of_decide_eq_true e).2⟩
theorem ω122{a b k m:Nat}(g:b≤k)(h:a=b)(e:Nat.ble k m=true):a+1≤m+1:=Nat.succ_le_succ (ω6 h g e)
theorem ω124{a b k m:Nat}(h:b≤k)(e:Nat.ble k m=true):min a b≤m:=Nat.le_trans (Nat.min_le_right a b) (ω1 h e)
theorem ω127{a b c d e k m:Nat}(h:a≤0+b)(h1:b=c+1)(h2:c≤k)(h3:d≤e)(h4:e≤a+1)(r:Nat.ble (k+2) m=true):d≤m:=
 ω1 (Nat.le_trans h3 (Nat.le_trans h4 (Nat.succ_le_succ (Nat.le_trans h (h1▸(Nat.zero_add (c+1)).symm▸Nat.succ_le_succ h2))))) r
theorem ω130{a b c d:Nat}(h:a≤b)(g:c≤d):c+a≤b+d:=Nat.add_comm c a▸Nat.add_le_add h g
theorem ω131{n m:Nat}(h:¬(m:Int)<n):n≤m:=Int.ofNat_le.1 (Int.not_lt.1 h)
theorem ω132{i k c d:Int}(h:0≤i)(g:i≤k)(e:decide (c≤0∧k<d)=true):c≤i∧i<d:=
 ⟨Int.le_trans (of_decide_eq_true e).1 h,Int.lt_of_le_of_lt g (of_decide_eq_true e).2⟩
theorem ω133{n k:Nat}{m:Int}(h:n≤k)(e:decide ((k:Int)<m)=true):(n:Int)<m∧(n=0∨(n:Int)<m):=⟨ω15 h e,.inr (ω15 h e)⟩
theorem ω134{n k:Nat}{m c:Int}(h:n≤k)(e:decide (c≤0∧((2*k+1:Nat):Int)<m)=true):((c≤2*(n:Int)∧2*(n:Int)<m)∧(n:Int)<m)∧(n=0∨c≤2*(n:Int)+1∧2*(n:Int)+1<m):=by
 have g {x:Nat} (q:x≤2*n+1):c≤(x:Int)∧(x:Int)<m:=⟨Int.le_trans (of_decide_eq_true e).1 (Int.natCast_nonneg x),Int.lt_of_le_of_lt (Int.ofNat_le.2 (Nat.le_trans q (Nat.succ_le_succ (Nat.mul_le_mul_left 2 h)))) (of_decide_eq_true e).2⟩
 exact⟨⟨g (Nat.le_succ (2*n)),(g (Nat.le_succ_of_le (Nat.le_mul_of_pos_left n Nat.two_pos))).2⟩,.inr (g (Nat.le_refl _))⟩
theorem ω136{a b c k l m:Nat}(h:a≤k)(g:b≤l)(e:Nat.ble (l+c+k) m=true):b+c+a≤m:=ω9 (Nat.add_le_add_right g c) h e
theorem ω137{a b c d k m:Nat}(h:a≤k)(g:b≤0+c*(d+a))(e:Nat.ble (0+c*(d+k)) m=true):b≤m:=Nat.le_trans g (ω1 (Nat.add_le_add_left (Nat.mul_le_mul_left c (Nat.add_le_add_left h d)) 0) e)
theorem ω138{a b c d:Nat}(h:a<b)(g:c<a)(k:d<c+1):d<b:=Nat.lt_of_le_of_lt (Nat.le_of_lt_succ k) (Nat.lt_trans g h)
theorem ω139{n:Nat}{i j k:Int}(h:i≤k*n)(g:j≤k):j+i≤k*((n+1:Nat):Int):=by
 show j+i≤k*((n:Int)+1)
 rw[Int.mul_add,Int.mul_one,Int.add_comm];exact Int.add_le_add h g
theorem ω141{a b k l m:Nat}(h:a≤k)(g:b≤l)(e:Nat.ble (0+(0+1)+k+(0+1+1)+l+(0+1)) m=true):0+(0+1)+a+(0+1+1)+b+(0+1)≤m:=
 ω11 (Nat.add_le_add (Nat.add_le_add_right (Nat.add_le_add_left h _) _) g) e
theorem ω142{n a k:Nat}{i c m:Int}(h:n≤k)(q:i≤c*a)(g:a≤n)(e:decide (0≤c∧c*k<m)=true):i<m:=
 Int.lt_of_le_of_lt (Int.le_trans q (Int.mul_le_mul_of_nonneg_left (Int.ofNat_le.2 (Nat.le_trans g h)) (of_decide_eq_true e).1)) (of_decide_eq_true e).2
theorem ω144{a b k m:Nat}(h:b<k)(e:Nat.ble k m=true):min a b≤m:=ω124 (Nat.le_of_lt h) e
theorem ω145{a c d e:Nat}(g:a+1<c)(h:d=a+1)(k:e=d):e<c:=k▸h▸g
theorem ω147{a c:Nat}(g:a+1<c):a<c:=Nat.lt_of_succ_lt g
theorem ω148{a k m:Nat}(h:a≤k)(e:Nat.ble (k+(k+1)) m=true):a+(a+1)≤m:=ω9 h (Nat.succ_le_succ h) e
theorem ω149{a b c:Nat}(h:a<b)(g:c<a):c<b:=Nat.lt_trans g h
theorem ω150{a k m:Nat}{P:Prop}(h:a≤k∧P)(e:Nat.ble k m=true):a≤m:=ω1 h.1 e
theorem ω154{a b c:Nat}(h:a<b)(g:c=b):a<c:=g▸h
theorem ω156{n:Nat}: -((n+1:Nat):Int)≤-1:=Int.neg_le_neg (Int.ofNat_le.2 (Nat.succ_pos n))
theorem ω161{i:Int}(h:¬i<1):1≤i:=Int.not_lt.1 h
theorem ω163{a:Nat}{P:Prop}(h:0=2*a)(g:2≤a):P:=absurd (h▸Nat.mul_le_mul_left 2 g) (Nat.not_succ_le_zero 3)
theorem ω165{a b c:Nat}(h:a<b+1)(g:c=0+1*a):c≤b:=g▸(Nat.zero_add (1*a)).symm▸(Nat.one_mul a).symm▸Nat.le_of_lt_succ h
theorem ω166{a b c m:Nat}(h:a<b)(g:b=c)(k:c≤m):a<m:=Nat.lt_of_lt_of_le h (g▸k)
theorem ω167{a b c m:Nat}(h:a<b)(g:b=c)(k:c≤m):a≤m:=Nat.le_of_lt (ω166 h g k)
theorem ω168{a b k:Nat}(h:b<k)(g:a=b):a<k:=g▸h
theorem ω169{a b c k m:Nat}(h:a≤k)(g:b=c+1)(q:c≤a)(e:Nat.ble (k+1) m=true):b≤m:=g▸ω2 (Nat.le_trans q h) e
theorem ω172{i:Int}(h:0≤i):i=(i.toNat:Int):=(Int.toNat_of_nonneg h).symm
theorem ω173{a b c k:Nat}(h:a≤k)(g:a+(0+1)=b+(c+1)):b≤k+1:=Nat.le_trans (Nat.le_add_right b (c+1)) (g▸Nat.succ_le_succ h)
theorem ω175{x j k l:Nat}(e:x=l)(h:l<j)(g:j≤k):x<j∧j≤k:=⟨e▸h,g⟩
theorem ω176{x j k l:Nat}(e:x=l)(h:j<l):¬(x<j∧j≤k):=fun q=>Nat.lt_asymm h (e▸q.1)
theorem ω177{x j l:Nat}(e:x=l)(h:l<j):¬j=x:=fun q=>Nat.ne_of_lt h (q.trans e).symm
theorem ω180{a b c:Nat}(h:a<b)(g:b<c+1):a≤c:=Nat.le_of_lt (Nat.lt_of_lt_of_le h (Nat.le_of_lt_succ g))
theorem ω181{i j k:Int}(h:i+j=i+k):j=k:=Int.add_left_cancel h
theorem ω183{n:Nat}(h:1≤n):max n 1=n:=Nat.max_eq_left h
theorem ω184{a b c d k m:Nat}(h:a≤k)(g:b+(c+1)=a)(q:d=b)(e:Nat.ble k m=true):d≤m:=q▸ω4 (g▸Nat.le_add_right b (c+1)) h e
theorem ω185{a b:Nat}(h:a=b+1):a-1<a:=h▸Nat.lt_succ_self b
theorem ω186{a b k l m:Nat}(h:a≤k)(g:b≤l)(e:Nat.ble (k+(0+1)+l+(0+1)) m=true):a+(0+1)+b+(0+1)≤m:=ω11 (Nat.add_le_add (Nat.add_le_add_right h _) g) e
theorem ω189{a b c k m:Nat}(h:a=b)(g:c=b)(q:b≤k)(e:Nat.ble (k+k) m=true):a+c≤m:=ω9 (h▸q) (g▸q) e
theorem ω190{a c k m:Nat}(h:a≤k)(e:Nat.ble ((1+k)*c+1) m=true):(1+a)*c<m:=ω2 (Nat.mul_le_mul_right c (Nat.add_le_add_left h 1)) e
theorem ω191{a k m:Nat}(h:a≤k)(e:Nat.ble k m=true):¬m<a:=Nat.not_lt.2 (ω1 h e)
theorem ω193{a k m:Nat}(h:a<k)(e:Nat.ble k m=true):a<m:=Nat.lt_of_lt_of_le h (ω0 e)
theorem ω195{a b c d:Nat}(h:a≤b)(g:c≤a+d):c≤b+d:=Nat.le_trans g (Nat.add_le_add_right h d)
theorem ω196{a b k m:Nat}(h:a≤k)(g:b+1+1≤a)(e:Nat.ble k m=true):b≤m:=ω4 (Nat.le_trans (Nat.le_add_right b 2) g) h e
theorem ω197{a b k m:Nat}(h:b≤k)(g:a=b)(e:Nat.ble (k+2) m=true):a+1<m:=ω2 (Nat.succ_le_succ (g▸h)) e
theorem ω198{a b c:Nat}(h:a≤b)(g:b≤c):a≤c:=Nat.le_trans h g
theorem ω199{a b c:Nat}(h:a≤b)(g:c=a):c≤b:=g▸h
theorem ω200{a b c:Nat}(h:a=b)(g:c≤b):c≤a:=h▸g
theorem ω201{n:Nat}(h:1≤n)(g:¬(1==n)=true):1+1+(n-(1+1))=n:=Nat.add_sub_cancel' (ω110 h g)
theorem ω202{n k:Nat}(h:1≤n)(g:¬(1==n)=true)(q:k≤1+1+(n-(1+1))):k≤n:=ω201 h g▸q
theorem ω203{n k:Nat}(h:1≤n)(g:¬(1==n)=true)(q:k≤1+1+(n-(1+1))):k+(n-k)≤n:=Nat.le_of_eq (Nat.add_sub_cancel' (ω202 h g q))
theorem ω204{n k j:Nat}(h:1≤n)(g:¬(1==n)=true)(q:k≤1+1+(n-(1+1)))(r:j≤k+(n-k)):j≤n:=Nat.le_trans r (ω203 h g q)
theorem ω205{n k:Nat}(h:1≤n)(g:k≤1+(n-1))(q:¬(k==n)=true):k<n:=Nat.lt_of_le_of_ne (Nat.add_sub_cancel' h▸g) fun e=>q (beq_iff_eq.2 e)
theorem ω206{n:Nat}{P:Prop}(h:1≤n)(g:¬(1==n)=true)(q:1=1+(n-1)):P:=absurd (Nat.add_sub_cancel' h▸q) fun e=>g (beq_iff_eq.2 e)
theorem ω207{n:Nat}(h:n>1):¬0=n-1:=fun e=>Nat.ne_of_lt (Nat.sub_pos_of_lt h) e
theorem ω208{a b:Nat}(h:a≤b)(g:¬a<b):a=b:=Nat.le_antisymm h (Nat.not_lt.1 g)
theorem ω209{a b:Nat}{P:Prop}(h:a≤b)(g:b<a):P:=absurd g (Nat.not_lt.2 h)
theorem ω210{a b:Nat}(h:a<b):a≤b:=Nat.le_of_lt h
theorem ω215{i j:Int}(h:0≤i)(g:0≤j):0≤j+i:=Int.add_nonneg g h
theorem ω216{a b:Nat}(h:0<a)(g:a≤b):¬b=0:=Nat.ne_of_gt (Nat.lt_of_lt_of_le h g)
theorem ω217{a b:Nat}(h:a=b+1):¬a=0:=h▸Nat.succ_ne_zero b
theorem ω218{a b:Nat}(h:a=b+1):¬b=a:=fun e=>Nat.ne_of_lt (Nat.lt_succ_self b) (e.trans h)
theorem ω219{n:Nat}:(0:Int)<((n+1:Nat):Int):=Int.ofNat_lt.2 (Nat.succ_pos n)
theorem ω220{a b:Nat}(h:a<b):0<(b:Int)-a:=Int.sub_pos_of_lt (Int.ofNat_lt.2 h)
theorem ω221{a k:Nat}{m:Int}(h:a≤k)(e:decide ((k:Int)<m)=true):¬m≤(a:Int):=Int.not_le.2 (ω15 h e)
theorem ω222{i k m:Int}(h:k≤i)(e:decide (m≤k)=true):m≤i:=Int.le_trans (of_decide_eq_true e) h
theorem ω226{a b:Nat}(h:a<b+1)(g:a≥b):a=b:=Nat.le_antisymm (Nat.le_of_lt_succ h) g
theorem ω227{a b:Nat}(h:a<b+1)(g:¬a=b):a<b:=Nat.lt_of_le_of_ne (Nat.le_of_lt_succ h) g
theorem ω228{a b:Nat}(h:a≤b)(g:¬b=a):a<b:=Nat.lt_of_le_of_ne h (Ne.symm g)
theorem ω229{a b c k l m:Nat}(h:a≤k)(g:b≤l)(e:Nat.ble (k+c+1+l) m=true):a+c+1+b≤m:=ω9 (Nat.add_le_add_right h (c+1)) g e
theorem ω233{a:Nat}{P:Prop}(h:(a:Int)<0):P:=absurd (Int.natCast_nonneg a) (Int.not_le.2 h)
theorem ω234{a b c k m:Nat}(h:a≤b)(g:b+c≤k)(e:Nat.ble k m=true):a≤m:=ω4 (Nat.le_trans h (Nat.le_add_right b c)) g e
theorem ω235{a b c k m:Nat}(h:a≤k)(g:a=b+c)(e:Nat.ble k m=true):b≤m:=ω4 (g▸Nat.le_add_right b c) h e
theorem ω236{a b c k m:Nat}(h:a≤k)(g:b≤c)(q:c=a)(e:Nat.ble k m=true):b≤m:=ω4 (q▸g) h e
theorem ω237{a b c k m:Nat}(h:a≤k)(g:b≤c)(q:c=a+1)(e:Nat.ble (k+1) m=true):b≤m:=by subst q;exact ω4 g (Nat.succ_le_succ h) e
theorem ω238{a b k m:Nat}(h:a≤k)(g:b<a)(e:Nat.ble k (m+1)=true):b≤m:=Nat.le_of_lt_succ (Nat.lt_of_lt_of_le g (ω1 h e))
theorem ω239{a b k m:Nat}(h:a+1≤b)(g:b≤k)(e:Nat.ble k m=true):a≤m:=ω5 h g e
theorem ω240{a:Nat}(h:a=110∨48≤a∧a≤57):48≤a∧a≠60:=h.elim (fun e=>e▸by decide) fun g=>⟨g.1,Nat.ne_of_lt (ω2 g.2 rfl)⟩
theorem ω244{l:List Nat}{a c:Nat}(h:a∈l)(e:decide (c∈l)=false):a≠c:=fun q=>of_decide_eq_false e (q▸h)
theorem ω245{a d c:Nat}(h:a=d∨48≤a∧a≤57)(e:decide (c=d∨48≤c∧c≤57)=false):a≠c:=fun q=>of_decide_eq_false e (q▸h)
theorem ω246{a b c d f x:Nat}(h:a=b∨a=c∨a=d∨a=f)(e:decide (x=b∨x=c∨x=d∨x=f)=false):a≠x:=fun q=>of_decide_eq_false e (q▸h)
theorem ω247{n:Nat}:(if(0:Int)<2*(n:Int) then(2*(n:Int)-1)/2+1 else 0)=n:=by
 cases n with
 |zero=>rfl
 |succ m=>
  rw[if_pos (show(0:Int)<2*((m+1:Nat):Int) from Int.natCast_pos.2 (Nat.succ_pos (2*m+1))),show 2*((m+1:Nat):Int)-1=1+2*m from(Int.add_sub_cancel (2*(m:Int)+1) 1).trans (Int.add_comm (2*m) 1),Int.add_mul_ediv_left 1 m (by decide)]
  exact congrArg (·+1) (Int.zero_add (m:Int))
theorem ω248{a b c k:Nat}(h:a≤0+b)(h1:b=c+1)(h2:c≤k):a≤k+1:=Nat.le_trans h ((Nat.zero_add b).symm▸h1▸Nat.succ_le_succ h2)
theorem ω250{n a b:Nat}(e:Nat.ble a b=true):n+a≤n+b:=Nat.add_le_add_left (ω0 e) n
theorem ω251{n a b c:Nat}(e:Nat.ble (a+b) c=true):n+a+b≤n+c:=(Nat.add_assoc n a b).symm▸ω250 e
end Mine
set_option tactic.hygienic false
namespace Mine
noncomputable abbrev Mem:=Addr→Option Obj
noncomputable def Le(B B':Mem):Prop:=∀b o,B b=some o→B' b=some o
structure MP where
 p:Mem→Prop
 up:∀{B B'},Le B B'→p B→p B'
structure Ty(α:Type) where
 rel:Mem→Value→α→Prop
 up:∀{B B' v x},Le B B'→rel B v x→rel B' v x
structure Tb(α:Type) where
 rel:Mem→Obj→α→Prop
 up:∀{B B' o x},Le B B'→rel B o x→rel B' o x
 live:∀{B o x},rel B o x→o.isFreed=false
noncomputable def is{α:Type}(T:Ty α)(v:Value)(x:α):MP:=⟨fun B=>T.rel B v x,fun h=>T.up h⟩
noncomputable def held(a:Addr)(o:Obj):MP:=⟨fun B=>B a=some o,fun h e=>h a o e⟩
noncomputable def Ty.ref{α:Type}(T:Tb α):Ty α:=
 ⟨fun B v x=>∃a o,v= .ref a∧a≠sysModules∧B a=some o∧T.rel B o x,fun h ⟨a,o,e,n,e',r⟩=>⟨a,o,e,n,h a o e',T.up h r⟩⟩
structure Ow where
 a:Addr
 p:Mem→Obj→Prop
 up:∀{B B' o},Le B B'→p B o→p B' o
 live:∀{B o},p B o→o.isFreed=false
noncomputable def own{α:Type}(a:Addr)(T:Tb α)(x:α):Ow:=⟨a,fun B o=>T.rel B o x,fun h=>T.up h,fun h=>T.live h⟩
@[simp] theorem kc {α : Type} (a : Addr) (T : Tb α) (x : α) : (own a T x).a = a := rfl
noncomputable def vf(o:Obj)(m:Str→Option Value):Prop:=∃es ep,o.data= .dict es ep∧StrKeys es∧∀name,nsFind es name=m name
theorem vf.ns{o:Obj}{m:Str→Option Value}(x:vf o m){h:Heap}{a:Addr}(e:h.get? a=some o):h.Ns a m:=let⟨es,ep,r⟩:=x;⟨o,es,ep,e,r⟩
theorem vf.of{h:Heap}{a:Addr}{m:Str→Option Value}(x:h.Ns a m):∃o,h.get? a=some o∧vf o m:=let⟨o,es,ep,e,r⟩:=x;⟨o,e,es,ep,r⟩
noncomputable abbrev ay:=List (Str×Option Value)
noncomputable def Fits(V:ay)(m:Str→Option Value):Prop:=(V.map (·.1)).Nodup∧∀x v,(x,some v)∈V→m x=some v
theorem vf.live{o:Obj}{m:Str→Option Value}(x:vf o m):o.isFreed=false:=by
 refine aB x fun es ep hd ν3=>?_;try clear x;obtain⟨c,d,dt,sl⟩:=o;subst hd;rfl
noncomputable def bC:Tb ay:=⟨fun ν o V=>∃m,vf o m∧Fits V m,fun ν r=>r,fun⟨_,n,_⟩=>n.live⟩
noncomputable def BW(P:Obj→Prop):Tb Unit:=⟨fun ν o ν=>P o∧o.isFreed=false,fun ν r=>r,fun r=>r.2⟩
noncomputable def ck(o:Obj)(hf:autoParam (o.isFreed=false) af):Tb Unit:=⟨fun ν o' ν=>o'=o,fun ν r=>r,fun r=>r▸hf⟩
structure Cx where
 prog:Program
 w:World
 hG:Heap
 mg:Str→Option Value
 mb:Str→Option Value
 os:OsState
 gs:List (Nat×GenState)
 tk:Nat
noncomputable abbrev Wp(c:Cx)(A:Around){α:Type}(t:Sem α)(Q:α→Shared→Prop)(s:Shared):Prop:=
 wpAny (model c.prog c.w) A t Q (fun ν ν=>False) s
structure e7(c:Cx)(L:Addr)(V:ay)(K:List MP)(O:List Ow)(B:Mem)(s:Shared):Prop where
 base:∀b o,c.hG.get? b=some o→B b=some o
 above:sysModules<L
 keep:∀b o,B b=some o→s.heap.get? b=some o
 loc:∃m,s.heap.Ns L m∧Fits V m
 locB:B L=none
 know:∀k∈K,k.p B
 own:∀w∈O,∃o,s.heap.get? w.a=some o∧B w.a=none∧w.a≠L∧w.a≠sysModules∧w.p B o
 nodup:(O.map (·.a)).Nodup
 gens:∀g∈c.gs,s.gens[g.1]?=some g.2
 bare:AllBare s.gens
 os:s.os=c.os
 tk:c.tk≤s.toks
set_option genInjectivity true in
inductive Fa where
 |kn (k:MP)
 |ow (w:Ow)
noncomputable def lM:List Fa→List MP
 | []=>[]
 | .kn k::r=>k::lM r
 | .ow _::r=>lM r
noncomputable def ows:List Fa→List Ow
 | []=>[]
 | .kn _::r=>ows r
 | .ow w::r=>w::ows r
theorem bx{G:List Fa}{k:MP}:k∈lM G↔ .kn k∈G:=by
 induction G with
 |nil=>simp[lM]
 |cons f r ih=>cases f <;> simp[lM,ih]
theorem dh{G:List Fa}{w:Ow}:w∈ows G↔ .ow w∈G:=by
 induction G with
 |nil=>simp[ows]
 |cons f r ih=>cases f <;> simp[ows,ih]
theorem fq{G H:List Fa}:lM (G++H)=lM G++lM H:=by
 induction G with
 |nil=>rfl
 |cons f r ih=>cases f <;> simp[lM,ih]
theorem aY{G H:List Fa}:ows (G++H)=ows G++ows H:=by
 induction G with
 |nil=>rfl
 |cons f r ih=>cases f <;> simp[ows,ih]
theorem kN{G H:List Fa}(h:G.Perm H):(ows G).Perm (ows H):=by
 induction h with
 |nil=>exact .refl _
 |cons x _ ih=>cases x <;> simp[ows,ih]
 |swap x y l=>cases x <;> cases y <;> simp[ows,List.Perm.swap]
 |trans _ _ ih1 ih2=>exact ih1.trans ih2
noncomputable def aa(c:Cx)(L:Addr)(V:ay)(G:List Fa)(s:Shared):Prop:=∃B,e7 c L V (lM G) (ows G) B s
noncomputable def Kh(G:List Fa)(B:Mem):Prop:=∀k∈lM G,k.p B
theorem Kh.at{G:List Fa}{B:Mem}(h:Kh G B){k:MP}(hk: .kn k∈G):k.p B:=h k (bx.mpr hk)
inductive bA:List Fa→Fa→List Fa→Prop
 |here {w r}:bA (w::r) w r
 |there {x w r r'}:bA r w r'→bA (x::r) w (x::r')
theorem bA.perm{l r:List Fa}{w:Fa}(h:bA l w r):l.Perm (w::r):=by
 induction h with
 |here=>exact List.Perm.refl _
 |there _ ih=>exact((ih.cons _).trans (List.Perm.swap ..))
inductive Sub:List Fa→List Fa→Prop
 |nil {l}:Sub l []
 |all {l}:Sub l l
 |own {l w r r'}:bA l (.ow w) r→Sub r r'→Sub l (.ow w::r')
 |kn {l k r'}: .kn k∈l→Sub l r'→Sub l (.kn k::r')
 |drop {x l r'}:Sub l r'→Sub (x::l) r'
 |left {l r}:Sub (l++r) l
 |right {l r r'}:Sub r r'→Sub (l++r) r'
theorem Sub.lM{l l':List Fa}(h:Sub l l'):∀k,.kn k∈l'→.kn k∈l:=by
 induction h with
 |nil=>intro k h;cases h
 |all=>intro k h;exact h
 |own p _ ih=>intro k h;rcases List.mem_cons.mp h with h|h;cases h;exact p.perm.mem_iff.mpr (.tail _ (ih k h))
 |kn m _ ih=>intro k h;rcases List.mem_cons.mp h with h|h;cases h;exact m;exact ih k h
 |drop _ ih=>intro k h;exact .tail _ (ih k h)
 |left=>intro k h;exact List.mem_append_left _ h
 |right _ ih=>intro k h;exact List.mem_append_right _ (ih k h)
theorem Sub.ows{l l':List Fa}(h:Sub l l'):∃r,(ows l).Perm (ows l'++r):=by
 induction h with
 |nil=>exact⟨_,List.Perm.refl _⟩
 |all=>exact⟨[],by simp⟩
 |own p _ ih=>obtain⟨r,hr⟩:=ih;exact⟨r,(kN p.perm).trans (hr.cons _)⟩
 |kn _ _ ih=>exact ih
 | @drop x l r' _ ih=>
   obtain⟨r,hr⟩:=ih
   cases x with
   |kn k=>exact⟨r,hr⟩
   |ow w=>exact⟨w::r,(hr.cons w).trans List.perm_middle.symm⟩
 | @left l r=>exact⟨_,by rw[aY]⟩
 | @right l _ _ _ ih=>
   obtain⟨r,hr⟩:=ih
   rw[aY]
   exact⟨r++Mine.ows l,(List.perm_append_comm.trans (hr.append_right _)).trans (by rw[List.append_assoc])⟩
theorem Sub.ia{l r r':List Fa}(h:Sub r r'):Sub (l++r) (l++r'):=by
 induction l with
 |nil=>exact h
 |cons x l ih=>
  cases x with
  |kn k=>exact .kn (.head _) (.drop ih)
  |ow w=>exact .own .here ih
section
variable{c:Cx}{L:Addr}{V V':ay}{G G' R:List Fa}{s:Shared}{B:Mem}{K:List MP}{O:List Ow}
theorem aa.sub(S:aa c L V G s)(h:Sub G G'):aa c L V G' s:=by
 obtain⟨B,S⟩:=S
 obtain⟨r,hr⟩:=h.ows
 have hnd:=(hr.map (·.a)).nodup_iff.mp S.nodup
 rw[List.map_append] at hnd
 exact⟨B,{S with know:=fun k hk=>S.know k (bx.mpr (h.lM k (bx.mp hk))),own:=fun w hw=>S.own w (hr.mem_iff.mpr (List.mem_append_left _ hw)),nodup:=(List.nodup_append.mp hnd).1}⟩
theorem aa.perm(S:aa c L V G s)(h:G.Perm G'):aa c L V G' s:=by
 obtain⟨B,S⟩:=S
 exact⟨B,{S with know:=fun k hk=>S.know k (bx.mpr (h.mem_iff.mpr (bx.mp hk))),own:=fun w hw=>S.own w ((kN h).mem_iff.mpr hw),nodup:=((kN h).map (·.a)).nodup_iff.mp S.nodup}⟩
theorem aa.front{w:Fa}(S:aa c L V G s)(h:bA G w R):aa c L V (w::R) s:=S.perm h.perm
theorem aa.add(S:aa c L V G s)(k:MP)(h:∀B,Kh G B→k.p B):aa c L V (.kn k::G) s:=by
 obtain⟨B,S⟩:=S
 refine⟨B,{S with know:=fun k' hk=>?_}⟩
 rcases List.mem_cons.mp hk with rfl|hk
 ·exact h B S.know
 ·exact S.know k' hk
theorem e7.adds(S:e7 c L V (lM G) (ows G) B s)(ks:List MP)(h:∀k∈ks,k.p B):e7 c L V (lM (ks.map .kn ++G)) (ows (ks.map .kn ++G)) B s:=by
 have e2:ows (ks.map .kn ++G)=ows G:=by
  clear h S
  induction ks with
  |nil=>rfl
  |cons k r ih=>exact ih
 refine{S with know:=fun k' hk=>?_,own:=fun w hw=>S.own w (e2▸hw),nodup:=e2▸S.nodup}
 rcases List.mem_append.mp (bx.mp hk) with hk|hk
 ·refine aj (List.mem_map.mp hk) fun ν0 hk e=>?_
  cases e
  exact h k' hk
 ·exact S.know k' (bx.mpr hk)
theorem aa.adds(S:aa c L V G s)(ks:List MP)(h:∀B,Kh G B→∀k∈ks,k.p B):aa c L V (ks.map .kn ++G) s:=let⟨B,S⟩:=S;⟨B,S.adds ks (h B S.know)⟩
theorem aa.ex{ι:Type}(S:aa c L V G s)(P:ι→MP)(h:∀B,Kh G B→∃i,(P i).p B):∃i,aa c L V (.kn (P i)::G) s:=by
 obtain⟨B,S⟩:=S
 obtain⟨i,hi⟩:=h B S.know
 refine⟨i,B,{S with know:=fun k' hk=>?_}⟩
 rcases List.mem_cons.mp hk with rfl|hk
 ·exact hi
 ·exact S.know k' hk
theorem aa.fact(S:aa c L V G s){P:Prop}(h:∀B,Kh G B→(∀b o,B b=some o→s.heap.get? b=some o)→P):P:=let⟨B,S⟩:=S;h B S.know S.keep
theorem aa.inst{k:MP}(S:aa c L V G s)(h: .kn k∈G):∃B,k.p B∧(∀b o,B b=some o→s.heap.get? b=some o):=let⟨B,S⟩:=S;⟨B,S.know k (bx.mpr h),S.keep⟩
theorem aa.aF{a:Addr}{o:Obj}(S:aa c L V G s)(h: .kn (held a o)∈G):s.heap.get? a=some o:=let⟨_,e,k⟩:=S.inst h;k _ _ e
theorem aa.ground(S:aa c L V G s){b:Addr}{o:Obj}(e:c.hG.get? b=some o):s.heap.get? b=some o:=let⟨_,S⟩:=S;S.keep b o (S.base b o e)
theorem aa.above(S:aa c L V G s):sysModules<L:=let⟨_,S⟩:=S;S.above
theorem e7.heap(S:e7 c L V K O B s){h':Heap}{tk:Nat}(hk:∀b o,s.heap.get? b=some o→h'.get? b=some o)(ht:autoParam (s.toks≤tk) tC):
 e7 c L V K O B {s with heap:=h',toks:=tk}:=
 {S with tk:=Nat.le_trans S.tk ht
         keep:=fun b o e=>hk b o (S.keep b o e)
         loc:=let⟨m,hn,hv⟩:=S.loc;⟨m,hn.keeps hk,hv⟩
         own:=fun w hw=>let⟨o,e,r⟩:=S.own w hw;⟨o,hk _ _ e,r⟩}
theorem aa.heap(S:aa c L V G s){h':Heap}{tk:Nat}(hk:∀b o,s.heap.get? b=some o→h'.get? b=some o)(ht:autoParam (s.toks≤tk) tC):
 aa c L V G {s with heap:=h',toks:=tk}:=let⟨B,S⟩:=S;⟨B,S.heap hk ht⟩
theorem aa.toks(S:aa c L V G s){tk:Nat}(ht:autoParam (s.toks≤tk) tC):aa c L V G {s with toks:=tk}:=S.heap (h':=s.heap) (fun ν ν e=>e) ht
theorem aa.rY(S:aa c L V G s){o:Obj}{tk:Nat}(ht:autoParam (s.toks≤tk) tC):aa c L V G {s with heap:=s.heap.push o,toks:=tk}:=S.heap (fun ν ν e=>Heap.get?_push_of_some _ e) ht
theorem aa.tk(S:aa c L V G s):c.tk≤s.toks:=let⟨_,S⟩:=S;S.tk
theorem bS{h:Heap}{a:Addr}(ha:h.objs.size≤a):h.get? a=none:=by
 cases e:h.get? a with
 |none=>rfl
 |some o=>exact absurd (Heap.lt_size e) (Nat.not_lt.mpr ha)
theorem iC{h:Heap}:h.get? h.objs.size=none:=bS (Nat.le_refl _)
theorem aa.ext(S:aa c L V G s){h':Heap}{tk:Nat}{x:Addr}(hx:s.heap.get? x=none)(hk:Heap.ExtBut x s.heap h')(ht:autoParam (s.toks≤tk) tC):
 aa c L V G {s with heap:=h',toks:=tk}:=S.heap (fun b o e=>hk b o (by intro υ0;obtain rfl:=υ0;rw[hx] at e;cases e) e) ht
theorem e7.oW(S:e7 c L V K O B s){a:Addr}(ha:s.heap.get? a=none):B a=none:=by
 cases e:B a with
 |none=>rfl
 |some o=>rw[S.keep _ _ e] at ha;cases ha
theorem e7.newL(S:e7 c L V K O B s){a:Addr}(ha:s.heap.get? a=none):a≠L:=by
 intro υ0;obtain rfl:=υ0
 obtain⟨m,⟨o,_,_,ho,_⟩,_⟩:=S.loc
 rw[ho] at ha;cases ha
theorem e7.tY(S:e7 c L V K O B s){a:Addr}(ha:s.heap.objs.size≤a):a≠sysModules:=by
 obtain⟨m,⟨o,_,_,ho,_⟩,_⟩:=S.loc
 exact Nat.ne_of_gt (Nat.lt_of_lt_of_le (Nat.lt_trans S.above (Heap.lt_size ho)) ha)
theorem e7.zw(S:e7 c L V K O B s):L≠sysModules:=fun e=>Nat.lt_irrefl _ (e▸S.above)
theorem e7.wC(S:e7 c L V K O B s){a:Addr}(ha:s.heap.get? a=none):a∉O.map (·.a):=by
 intro hm
 refine aj (List.mem_map.mp hm) fun p hp π32=>?_;rcases π32 with rfl
 refine aj (S.own p hp) fun o e ν2=>?_
 rw[e] at ha;cases ha
theorem aa.new{α:Type}(S:aa c L V G s){h':Heap}{tk:Nat}{a:Addr}{o:Obj}(T:Tb α)(x:α)(ha':s.heap.objs.size≤a)(hk:∀b o,s.heap.get? b=some o→h'.get? b=some o)
 (ho:h'.get? a=some o) (hr:∀B,Kh G B→T.rel B o x) (ht:autoParam (s.toks≤tk) tC):aa c L V (.ow (own a T x)::G) {s with heap:=h',toks:=tk}:=by
 have ha:=bS ha'
 obtain⟨B,S⟩:=S
 have S':=S.heap (tk:=tk) hk ht
 refine⟨B,{S' with own:=fun w hw=>?_,nodup:=List.nodup_cons.mpr ⟨S.wC ha,S.nodup⟩}⟩
 rcases List.mem_cons.mp hw with rfl|hw
 ·exact⟨o,ho,S.oW ha,S.newL ha,S.tY ha',hr B S.know⟩
 ·exact S'.own w hw
theorem aa.push{α:Type}(S:aa c L V G s){tk:Nat}{o:Obj}(T:Tb α)(x:α)(hr:∀B,Kh G B→T.rel B o x)(ht:autoParam (s.toks≤tk) tC):
 aa c L V (.ow (own s.heap.objs.size T x)::G) {s with heap:=s.heap.push o,toks:=tk}:=by
 have hf:o.isFreed=false:=by obtain⟨B,S'⟩:=S;exact T.live (hr B S'.know)
 exact S.new T x (Nat.le_refl _) (fun ν ν e=>Heap.get?_push_of_some _ e) (Heap.get?_push_size _ hf) hr ht
theorem aa.get{α:Type}{a:Addr}{T:Tb α}{x:α}(S:aa c L V G s)(h: .ow (own a T x)∈G):∃B o,s.heap.get? a=some o∧T.rel B o x∧Kh G B∧(∀b o,B b=some o→s.heap.get? b=some o):=by
 obtain⟨B,S⟩:=S
 refine gb (S.own _ (dh.mpr h)) fun o e ν2 ν3 ν4 r=>?_
 exact⟨B,o,e,r,S.know,S.keep⟩
theorem aa.turn{α β:Type}{a:Addr}{T:Tb α}{x:α}(S:aa c L V G s)(h:bA G (.ow (own a T x)) R){h':Heap}{tk:Nat}{o':Obj}(T':Tb β)(x':β)
 (hs:Heap.SameBut a s.heap h') (ho:h'.get? a=some o') (hr:∀B o,s.heap.get? a=some o→Kh R B→T.rel B o x→T'.rel B o' x') (ht:autoParam (s.toks≤tk) tC):
 aa c L V (.ow (own a T' x')::R) {s with heap:=h',toks:=tk}:=by
 obtain⟨B,S⟩:=S.front h
 refine gb (S.own _ (.head _)) fun o e eB eL eS r=>?_
 refine⟨B,{S with tk:=Nat.le_trans S.tk ht,keep:=fun b x e'=>(hs.2 b (by intro υ0;obtain rfl:=υ0;simp only[kc] at eB;rw[eB] at e';cases e')).trans (S.keep b x e'),loc:=?_,own:=fun w hw=>?_,nodup:=S.nodup}⟩
 ·refine aj S.loc fun m hn hv=>?_
  exact⟨m,hn.sameBut hs (Ne.symm eL),hv⟩
 ·rcases List.mem_cons.mp hw with rfl|hw
  ·exact⟨o',ho,eB,eL,eS,hr B o e S.know r⟩
  ·refine aj (S.own w (.tail _ hw)) fun o₁ e₁ r₁=>?_
   have hne:w.a≠a:=fun q=>(List.nodup_cons.mp S.nodup).1 (List.mem_map.mpr ⟨w,hw,q⟩)
   exact⟨o₁,(hs.2 _ hne).trans e₁,r₁⟩
theorem aa.nI{α β γ:Type}{a b:Addr}{T:Tb α}{x:α}(S:aa c L V G s)(h:bA G (.ow (own a T x)) R){h':Heap}{tk:Nat}{o' ob:Obj}(T':Tb β)(x':β)(U:Tb γ)(y:γ)
 (hk:Heap.ExtBut a s.heap h') (ho:h'.get? a=some o') (hb':s.heap.objs.size≤b) (hob:h'.get? b=some ob)
 (hr:∀B o,s.heap.get? a=some o→Kh R B→T.rel B o x→T'.rel B o' x') (hu:∀B,Kh R B→U.rel B ob y) (ht:autoParam (s.toks≤tk) tC):
 aa c L V (.ow (own b U y):: .ow (own a T' x')::R) {s with heap:=h',toks:=tk}:=by
 have hb:=bS hb'
 obtain⟨B,S⟩:=S.front h
 refine gb (S.own _ (.head _)) fun o e eB eL eS r=>?_
 refine⟨B,{S with tk:=Nat.le_trans S.tk ht,keep:=fun b x e'=>hk b x (by intro υ0;obtain rfl:=υ0;simp only[kc] at eB;rw[eB] at e';cases e') (S.keep b x e'),loc:=?_,own:=fun w hw=>?_,nodup:=?_}⟩
 ·refine aj S.loc fun m hn hv=>?_
  exact⟨m,hn.extBut hk (Ne.symm eL),hv⟩
 ·rcases List.mem_cons.mp hw with rfl|hw
  ·exact⟨ob,hob,S.oW hb,S.newL hb,S.tY hb',hu B S.know⟩
  rcases List.mem_cons.mp hw with rfl|hw
  ·exact⟨o',ho,eB,eL,eS,hr B o e S.know r⟩
  ·refine aj (S.own w (.tail _ hw)) fun o₁ e₁ r₁=>?_
   have hne:w.a≠a:=fun q=>(List.nodup_cons.mp S.nodup).1 (List.mem_map.mpr ⟨w,hw,q⟩)
   exact⟨o₁,hk _ _ hne e₁,r₁⟩
 ·exact List.nodup_cons.mpr ⟨S.wC hb,S.nodup⟩
theorem aa.lose{w:Ow}(S:aa c L V G s)(h:bA G (.ow w) R){h':Heap}{tk:Nat}(hk:Heap.ExtBut w.a s.heap h')(ht:autoParam (s.toks≤tk) tC):aa c L V R {s with heap:=h',toks:=tk}:=by
 obtain⟨B,S⟩:=S.front h
 refine gb (S.own _ (.head _)) fun o e eB eL eS r=>?_
 refine⟨B,{S with tk:=Nat.le_trans S.tk ht,keep:=fun b x e'=>hk b x (by intro υ0;obtain rfl:=υ0;rw[eB] at e';cases e') (S.keep b x e'),loc:=?_,own:=fun w' hw=>?_,nodup:=(List.nodup_cons.mp S.nodup).2}⟩
 ·refine aj S.loc fun m hn hv=>?_
  exact⟨m,hn.extBut hk (Ne.symm eL),hv⟩
 ·refine aj (S.own w' (.tail _ hw)) fun o₁ e₁ r₁=>?_
  have hne:w'.a≠w.a:=fun q=>(List.nodup_cons.mp S.nodup).1 (List.mem_map.mpr ⟨w',hw,q⟩)
  exact⟨o₁,hk _ _ hne e₁,r₁⟩
theorem aa.freeze{α:Type}{a:Addr}{T:Tb α}{x:α}(S:aa c L V G s)(h:bA G (.ow (own a T x)) R):aa c L V (.kn (is (Ty.ref T) (.ref a) x)::R) s:=by
 obtain⟨B,S⟩:=S.front h
 refine gb (S.own _ (.head _)) fun o e eB eL eS r=>?_
 simp only[kc] at e eB eL
 have hle:Le B (fun b=>if b=a then some o else B b):=fun b x e'=>by
  show(if b=a then some o else B b)=some x
  rw[if_neg (by intro υ0;obtain rfl:=υ0;rw[eB] at e';cases e')];exact e'
 refine⟨_,{S with base:=fun b x e'=>hle b x (S.base b x e'),keep:=fun b x e'=>?_,locB:=?_,know:=fun k hk=>?_,own:=fun w hw=>?_,nodup:=(List.nodup_cons.mp S.nodup).2}⟩
 ·have e':(if b=a then some o else B b)=some x:=e'
  split at e'
  ·rename_i q;cases e';rw[q];exact e
  ·exact S.keep b x e'
 ·show(if L=a then some o else B L)=none
  rw[if_neg (Ne.symm eL)];exact S.locB
 ·rcases List.mem_cons.mp hk with rfl|hk
  ·exact⟨a,o,rfl,eS,if_pos rfl,T.up hle r⟩
  ·exact k.up hle (S.know k hk)
 ·refine iy (S.own w (.tail _ hw)) fun o₁ e₁ e₂ e₃ e₄=>?_
  have hne:w.a≠a:=fun q=>(List.nodup_cons.mp S.nodup).1 (List.mem_map.mpr ⟨w,hw,q⟩)
  exact⟨o₁,e₁,by show(if w.a=a then some o else B w.a)=none;rw[if_neg hne];exact e₂,e₃,e₄.1,w.up hle e₄.2⟩
theorem aa.locals(S:aa c L V G s){h':Heap}{tk:Nat}(hs:Heap.SameBut L s.heap h')(hl:∀m,s.heap.Ns L m→Fits V m→∃m',h'.Ns L m'∧Fits V' m')(ht:autoParam (s.toks≤tk) tC):
 aa c L V' G {s with heap:=h',toks:=tk}:=by
 obtain⟨B,S⟩:=S
 refine⟨B,{S with tk:=Nat.le_trans S.tk ht,keep:=fun b x e=>(hs.2 b (by intro υ0;obtain rfl:=υ0;rw[S.locB] at e;cases e)).trans (S.keep b x e),loc:=?_,own:=fun w hw=>?_}⟩
 ·refine aj S.loc fun m hn hf=>?_;exact hl m hn hf
 ·refine iy (S.own w hw) fun o e e1 e2 e3=>?_
  exact⟨o,(hs.2 _ e2).trans e,e1,e2,e3⟩
theorem aa.ns(S:aa c L V G s):∃m,s.heap.Ns L m∧Fits V m:=let⟨_,S⟩:=S;S.loc
theorem aa.enter(S:aa c L V G s){h':Heap}{tk:Nat}{L':Addr}{m:Str→Option Value}(hL:s.heap.objs.size≤L')(hk:∀b o,s.heap.get? b=some o→h'.get? b=some o)
 (hn:h'.Ns L' m) (hv:Fits V' m) (ht:autoParam (s.toks≤tk) tC):aa c L' V' (.ow (own L bC V)::G) {s with heap:=h',toks:=tk}:=by
 obtain⟨B,S⟩:=S
 have S':=S.heap (tk:=tk) hk ht
 refine aj S.loc fun m0 hm0 hf0=>?_
 refine aj (vf.of hm0) fun oL eL nL=>?_
 have hL':∀{x o},s.heap.get? x=some o→x≠L':=fun e=>Nat.ne_of_lt (Nat.lt_of_lt_of_le (Heap.lt_size e) hL)
 have hsz:L<s.heap.objs.size:=Heap.lt_size eL
 refine⟨B,{S' with above:=Nat.lt_of_lt_of_le (Nat.lt_trans S.above hsz) hL,loc:=⟨m,hn,hv⟩,locB:=S.oW (bS hL),own:=fun w hw=>?_,nodup:=?_}⟩
 ·rcases List.mem_cons.mp hw with rfl|hw
  ·exact⟨oL,hk _ _ eL,S.locB,hL' eL,S.zw,m0,nL,hf0⟩
  ·refine iy (S.own w hw) fun o e e1 ν3 e3=>?_
   exact⟨o,hk _ _ e,e1,hL' e,e3⟩
 ·refine List.nodup_cons.mpr ⟨fun hm=>?_,S.nodup⟩
  refine aj (List.mem_map.mp hm) fun w hw e=>?_
  exact(S.own w hw).choose_spec.2.2.1 e
theorem aa.back{L':Addr}(S:aa c L' V' G s)(h:bA G (.ow (own L bC V)) R)(hab:sysModules<L):aa c L V R s:=by
 obtain⟨B,S⟩:=S.front h
 obtain⟨oL,eL,eB,_,_,m,nL,hf⟩:=S.own _ (.head _)
 refine⟨B,{S with above:=hab,loc:=⟨m,nL.ns eL,hf⟩,locB:=eB,own:=fun w hw=>?_,nodup:=(List.nodup_cons.mp S.nodup).2}⟩
 refine iy (S.own w (.tail _ hw)) fun o e e1 ν3 e3=>?_
 exact⟨o,e,e1,fun q=>(List.nodup_cons.mp S.nodup).1 (List.mem_map.mpr ⟨w,hw,q⟩),e3⟩
end
end Mine
set_option tactic.hygienic true
namespace Mine
structure Ok(A:Around)(n:Nat):Prop where
 hd:A.handled=none
 dp:A.depth+n<1000
 un:A.units+16*n<9900
theorem Ok.deeper{A:Around}{n:Nat}(h:Ok A (n+1))(e:Env):Ok (A.deeper e) n:=
 ⟨h.hd,by show A.depth+1+n<1000;have:=h.dp;exact ω77 this,by show A.units+3+16*n<9900;have:=h.un;exact ω84 this rfl⟩
theorem Ok.le{A:Around}{n m:Nat}(h:Ok A n)(hm:m≤n):Ok A m:=
 ⟨h.hd,by have:=h.dp;exact ω82 hm this,by have:=h.un;exact ω81 hm this⟩
theorem Ok.room{A:Around}{n:Nat}(h:Ok A n):A.depth<recursionLimit:=by have:=h.dp;show _<1000;exact ω75 this
noncomputable abbrev aO(c:Cx):Frag:=hd.heap_1 c.w.params
structure cg(c:Cx):Prop where
 X:(aO c).In c.hG
 g:c.hG.Ns mainGlobals c.mg
 b:c.hG.Ns builtinsNs c.mb
 nolimit:c.hG.NoLimit
 nodigits:∃mc,c.hG.Ns cStatics mc∧mc "sys.int_max_str_digits"=none
 tk:0<c.tk
 builtins:∀x:Str,x≠"__name__"→c.mb x=bootBuiltins x
section
noncomputable def tx(l:List Nat):Str:=⟨l.toArray⟩
noncomputable abbrev Tx:=List Nat
@[simp] theorem bO (l : List Nat) : (tx l).cps.toList = l := rfl
theorem dM{a b:List Nat}(h:tx a=tx b):a=b:=congrArg (fun x:Str=>x.cps.toList) h
@[simp] theorem aq (l : List Nat) : (tx l).length = l.length := by show l.toArray.size = _; simp
theorem mU(a b:List Nat):tx a++tx b=tx (a++b):=by
 show(⟨a.toArray++b.toArray⟩:Str)=⟨(a++b).toArray⟩
 simp
noncomputable def ah:Ty Tx:=⟨fun ν v x=>∃t,v= .str (tx x) t,fun ν r=>r⟩
noncomputable def ao:Ty Int:=⟨fun ν v x=>∃t,v= .int x t,fun ν r=>r⟩
inductive az{α β:Type}(r:α→β→Prop):List α→List β→Prop
 |nil:az r [] []
 |cons {a b as bs}:r a b→az r as bs→az r (a::as) (b::bs)
variable{α β:Type}{r r':α→β→Prop}
theorem az.mono{l:List α}{l':List β}(h:az r l l')(hr:∀a b,r a b→r' a b):az r' l l':=by
 induction h with
 |nil=>exact .nil
 |cons h _ ih=>exact .cons (hr _ _ h) ih
theorem az.length{l:List α}{l':List β}(h:az r l l'):l.length=l'.length:=by
 induction h with
 |nil=>rfl
 |cons _ _ ih=>simp[ih]
theorem az.append{l m:List α}{l' m':List β}(h:az r l l')(h':az r m m'):az r (l++m) (l'++m'):=by
 induction h with
 |nil=>exact h'
 |cons h _ ih=>exact .cons h ih
theorem az.at{l:List α}{l':List β}(h:az r l l'){i:Nat}{b:β}(e:l'[i]?=some b):∃a,l[i]?=some a∧r a b:=by
 induction h generalizing i with
 |nil=>cases e
 |cons h _ ih=>cases i with
  |zero=>cases e;exact⟨_,rfl,h⟩
  |succ i=>exact ih e
theorem az.at'{l:List α}{l':List β}(h:az r l l'){i:Nat}{a:α}(e:l[i]?=some a):∃b,l'[i]?=some b∧r a b:=by
 induction h generalizing i with
 |nil=>cases e
 |cons h _ ih=>cases i with
  |zero=>cases e;exact⟨_,rfl,h⟩
  |succ i=>exact ih e
theorem az.snoc{l:List α}{l':List β}{a:α}{b:β}(h:az r l l')(h':r a b):az r (l++[a]) (l'++[b]):=h.append (.cons h' .nil)
theorem az.take{l:List α}{l':List β}(h:az r l l')(n:Nat):az r (l.take n) (l'.take n):=by
 induction h generalizing n with
 |nil=>simp;exact .nil
 |cons h _ ih=>cases n with
  |zero=>exact .nil
  |succ n=>exact .cons h (ih n)
theorem az.drop{l:List α}{l':List β}(h:az r l l')(n:Nat):az r (l.drop n) (l'.drop n):=by
 induction h generalizing n with
 |nil=>simp;exact .nil
 |cons h t ih=>cases n with
  |zero=>exact .cons h t
  |succ n=>exact ih n
theorem az.perm{l l':List α}{m:List β}(h:az r l m)(p:l.Perm l'):∃m',m.Perm m'∧az r l' m':=by
 induction p generalizing m with
 |nil=>exact⟨m,.refl _,h⟩
 |cons x _ ih=>
  cases h with
  |cons h t=>refine aj (ih t) fun m' p q=>?_;exact⟨_::m',p.cons _,.cons h q⟩
 |swap x y l=>
  cases h with
  |cons h t=>cases t with
   |cons h' t=>exact⟨_,List.Perm.swap ..,.cons h' (.cons h t)⟩
 |trans _ _ ih1 ih2=>
  refine aj (ih1 h) fun m1 p1 q1=>?_
  refine aj (ih2 q1) fun m2 p2 q2=>?_
  exact⟨m2,p1.trans p2,q2⟩
end
noncomputable def rows{α:Type}(T:Ty α)(vs:List Value)(xs:List α):MP:=⟨fun B=>az (T.rel B) vs xs,fun h r=>r.mono fun ν ν q=>T.up h q⟩
noncomputable abbrev aC(vs:List Value)(n:Nat):Obj:={cls:=.type "list",data:=.seq vs.toArray n}
noncomputable abbrev om(vs:List Value)(n:Nat):Obj:={cls:=.type "tuple",data:=.seq vs.toArray n}
noncomputable def ai{α:Type}(T:Ty α):Tb (List α):=
 ⟨fun B o xs=>∃vs n,o=aC vs n∧az (T.rel B) vs xs,fun h ⟨vs,n,e,r⟩=>⟨vs,n,e,r.mono fun ν ν q=>T.up h q⟩,fun⟨_,_,e,_⟩=>e▸rfl⟩
noncomputable abbrev Ty.list{α:Type}(T:Ty α):Ty (List α):=Ty.ref (ai T)
structure Row(α:Type) where
 n:Nat
 facts:List Value→α→List MP
noncomputable def AllP:List MP→Mem→Prop
 | [],_=>True
 |k::r,B=>k.p B∧AllP r B
theorem AllP.up{ks:List MP}{B B':Mem}(h:Le B B')(x:AllP ks B):AllP ks B':=by
 induction ks with
 |nil=>trivial
 |cons k r ih=>exact⟨k.up h x.1,ih x.2⟩
theorem AllP.mem{ks:List MP}{B:Mem}(x:AllP ks B):∀k∈ks,k.p B:=by
 induction ks with
 |nil=>intro k h;cases h
 |cons k r ih=>intro k' h;rcases List.mem_cons.mp h with rfl|h;exact x.1;exact ih x.2 k' h
theorem e7.vD{c:Cx}{L:Addr}{V:ay}{G:List Fa}{B:Mem}{s:Shared}(S:e7 c L V (lM G) (ows G) B s)(ks:List MP)(x:AllP ks B):aa c L V (ks.map .kn ++G) s:=⟨B,S.adds ks x.mem⟩
noncomputable def Row.one{α:Type}(T:Ty α):Row α:=⟨1,fun vs x=>match vs with | [v]=>[is T v x]|_=>[]⟩
noncomputable def Row.cons{α β:Type}(T:Ty α)(R:Row β):Row (α×β):=⟨R.n+1,fun vs x=>match vs with |v::r=>is T v x.1::R.facts r x.2| []=>[]⟩
noncomputable def pX{α:Type}(R:Row α):Tb α:=
 ⟨fun B o x=>∃vs n,o=om vs n∧vs.length=R.n∧AllP (R.facts vs x) B,fun h ⟨vs,n,e,l,r⟩=>⟨vs,n,e,l,r.up h⟩,fun⟨_,_,e,_⟩=>e▸rfl⟩
noncomputable abbrev Ty.tup{α:Type}(R:Row α):Ty α:=Ty.ref (pX R)
noncomputable def bB:Tb (Option Value):=⟨fun ν o x=>o.data= .cell x,fun ν r=>r,fun{_ o _} e=>by obtain⟨c,d,dt,sl⟩:=o;subst e;rfl⟩
theorem tw{c:Cx}{o:Obj}{kvs:List (Str×Value)}(h:o.IsDictOf (strKind c.prog c.w) kvs):o.isFreed=false:=by
 refine av h fun es ep ν2 hd ν4=>?_;try clear h;obtain⟨c,d,dt,sl⟩:=o;subst hd;rfl
noncomputable def dc{β:Type}(T:Ty β)(B:Mem)(kv:Str×Value)(x:Tx×β):Prop:=kv.1=tx x.1∧T.rel B kv.2 x.2
noncomputable def aK(c:Cx){β:Type}(T:Ty β):Tb (List (Tx×β)):=
 ⟨fun B o xs=>∃kvs,o.IsDictOf (strKind c.prog c.w) kvs∧az (dc T B) kvs xs,
  fun h ⟨kvs,e,r⟩=>⟨kvs,e,r.mono fun ν ν q=>⟨q.1,T.up h q.2⟩⟩,fun⟨_,e,_⟩=>tw e⟩
noncomputable abbrev Ty.dct(c:Cx){β:Type}(T:Ty β):Ty (List (Tx×β)):=Ty.ref (aK c T)
inductive rB:ay→Str→Value→ay→Prop
 |here {x v w r}:rB ((x,w)::r) x v ((x,some v)::r)
 |there {y w x v r r'}:rB r x v r'→rB ((y,w)::r) x v ((y,w)::r')
theorem rB.keys{V V':ay}{x:Str}{v:Value}(h:rB V x v V'):V'.map (·.1)=V.map (·.1):=by
 induction h with
 |here=>rfl
 |there _ ih=>simp[ih]
theorem rB.mem{V V':ay}{x:Str}{v:Value}(h:rB V x v V'):x∈V.map (·.1):=by
 induction h with
 |here=>simp
 |there _ ih=>exact .tail _ ih
theorem rB.fits{V V':ay}{x:Str}{v:Value}{m:Str→Option Value}(h:rB V x v V')(f:Fits V m):Fits V' (fun y=>if y=x then some v else m y):=by
 refine⟨by rw[h.keys];exact f.1,?_⟩
 obtain⟨hn,hf⟩:=f
 induction h with
 |here=>
  rename_i x v w r
  intro y u hy
  rcases List.mem_cons.mp hy with hz|hz
  ·cases hz;simp
  ·have:y≠x:=by
    intro q
    exact(List.nodup_cons.mp hn).1 (List.mem_map.mpr ⟨_,hz,q⟩)
   simp only[this,if_false]
   exact hf y u (.tail _ hz)
 |there hp ih=>
  rename_i y w x v r r'
  intro z u hz
  rcases List.mem_cons.mp hz with hz|hz
  ·cases hz
   have hyx:y≠x:=by
    intro υ0;obtain rfl:=υ0
    exact(List.nodup_cons.mp hn).1 hp.mem
   simp only[hyx,if_false]
   exact hf _ _ (.head _)
  ·exact ih (List.nodup_cons.mp hn).2 (fun a b h=>hf a b (.tail _ h)) z u hz
section
variable{c:Cx}{A:Around}{L:Addr}{V V':ay}{G G' R:List Fa}{s:Shared}{env:Env}{x:Str}{pos:Pos}{v:Value}{Q:Value→Shared→Prop}
theorem aa.nm(S:aa c L V G s)(hv:(x,some v)∈V)(h:Q v s)(hL:autoParam (env.locals=L) af)(hk:autoParam (env.scope.kind= .function) af)(hl:autoParam (env.kindOf x=some .local) b7)
 (hd:autoParam ((x==("__debug__":Str))=false) b7):Wp c A (eval (.Name x pos) env) Q s:=by
 refine aj S.ns fun m hn hf=>?_
 exact wpAny_Name (wpAny_loadName_local hk hl (hL▸hn) (hf.2 _ _ hv) h) hd
theorem aa.st{Q:Unit→Shared→Prop}(S:aa c L V G s)(hp:rB V x v V')(h:∀s',aa c L V' G s'→Q () s')(hL:autoParam (env.locals=L) af)(hk:autoParam (env.scope.kind= .function) af)
 (hl:autoParam (env.kindOf x=some .local) b7):Wp c A (storeName env x v) Q s:=by
 refine aj S.ns fun m hn hf=>?_
 subst hL
 refine wpAny_storeName_local hl hn (fun h' hn' hs=>h _ (S.locals hs fun m' hm' hf'=>?_)) (by rw[hk];rfl)
 exact⟨_,hn',hp.fits hf⟩
theorem aa.gl(g:cg c)(S:aa c L V G s)(e:nsIn (aO c) mainGlobals x=some (some v))(h:Q v s)(hg:autoParam (env.globals=mainGlobals) af)(hk:autoParam (env.scope.kind= .function) af)
 (hx:autoParam (env.kindOf x=some .globalImplicit) b7) (hd:autoParam ((x==("__debug__":Str))=false) b7):Wp c A (eval (.Name x pos) env) Q s:=
 Calls.Name_function_global hk hx (Calls.loadGlobal_global (show s.heap.Ns env.globals c.mg from hg▸g.g.keeps fun ν ν e=>S.ground e) (mg_of g.X g.g e) h) hd
theorem aa.bi(g:cg c)(S:aa c L V G s)(e:nsIn (aO c) mainGlobals x=some none)(hv:bootBuiltins x=some v)(hn:x≠"__name__")(h:Q v s)(hg:autoParam (env.globals=mainGlobals) af)(hb:autoParam (env.builtins=builtinsNs) af)
 (hk:autoParam (env.scope.kind= .function) af) (hx:autoParam (env.kindOf x=some .globalImplicit) b7) (hd:autoParam ((x==("__debug__":Str))=false) b7):Wp c A (eval (.Name x pos) env) Q s:=
 Calls.Name_function_global hk hx (Calls.loadGlobal_builtin (show s.heap.Ns env.globals c.mg from hg▸g.g.keeps fun ν ν e=>S.ground e) (mg_none_of g.X g.g e)
  (show s.heap.Ns env.builtins c.mb from hb▸g.b.keeps fun ν ν e=>S.ground e) ((g.builtins x hn).trans hv) h) hd
theorem aa.ce{ca:Addr}(S:aa c L V G s)(hc:env.cells.lookup x=some ca)(hm: .ow (own ca bB (some v))∈G)(h:Q v s)(hk:autoParam (env.scope.kind= .function) af)(hl:autoParam (env.kindOf x=some .cell) b7)
 (hd:autoParam ((x==("__debug__":Str))=false) b7):Wp c A (eval (.Name x pos) env) Q s:=by
 refine av (S.get hm) fun B o e r ν4=>?_
 exact wpAny_Name (wpAny_loadName_cell hk hl hc ⟨o,e,r⟩ h) hd
theorem aa.Cg{Q:Unit→Shared→Prop}{ca:Addr}{v₀:Option Value}(S:aa c L V G s)(hc:env.cells.lookup x=some ca)(hm:bA G (.ow (own ca bB v₀)) R)(h:∀s',aa c L V (.ow (own ca bB (some v))::R) s'→Q () s')
 (hk:autoParam (env.scope.kind= .function) af) (hl:autoParam (env.kindOf x=some .cell) b7):Wp c A (storeName env x v) Q s:=by
 refine av (S.get (hm.perm.mem_iff.mpr (.head _))) fun B o e r ν4=>?_
 refine wpAny_storeName_cell hk hl hc ⟨o,e,r⟩ fun h' hn' hs=>h _ ?_
 refine aj hn' fun o' e' r'=>?_;try clear hn'
 exact S.turn hm bB (some v) hs e' fun ν ν ν ν ν=>r'
end
end Mine
set_option tactic.hygienic false
namespace Mine
noncomputable def cN(ns:List (Str×NameKind))(m:Str→Option Value):ay:=ns.filterMap fun p=>if p.2== .local then some (p.1,m p.1) else none
noncomputable def aG(cs:List (Str×Addr))(cm:Str→Option Value)(ns:List (Str×NameKind)):List (Addr×Option Value):=
 ns.filterMap fun p=>if p.2== .cell then(cs.lookup p.1).map fun a=>(a,cm p.1) else none
theorem oX{ns:List (Str×NameKind)}{m:Str→Option Value}:((cN ns m).map (·.1)).Sublist (ns.map (·.1)):=by
 induction ns with
 |nil=>exact List.Sublist.refl _
 |cons p r ih=>
  unfold cN at ih⊢
  rw[List.filterMap_cons]
  split
  ·exact(ih).cons _
  ·rename_i h
   split at h
   ·cases h;exact ih.cons_cons _
   ·cases h
theorem ju{ns:List (Str×NameKind)}{m:Str→Option Value}(hn:(ns.map (·.1)).Nodup):Fits (cN ns m) m:=by
 refine⟨hn.sublist oX,fun x v h=>?_⟩
 refine aj (List.mem_filterMap.mp h) fun p ν1 hp=>?_
 split at hp
 ·simp only[Option.some.injEq,Prod.mk.injEq] at hp
  rw[←hp.1];exact hp.2
 ·cases hp
theorem jv{cs:List (Str×Addr)}{cm:Str→Option Value}{ns:List (Str×NameKind)}{q:Addr×Option Value}(h:q∈aG cs cm ns):∃n,n∈ns.map (·.1)∧cs.lookup n=some q.1∧cm n=q.2:=by
 refine aj (List.mem_filterMap.mp h) fun p hm hp=>?_
 split at hp
 ·refine aj (Option.map_eq_some_iff.mp hp) fun a ha e=>?_
  exact⟨p.1,List.mem_map.mpr ⟨p,hm,rfl⟩,by rw[ha,←e],by rw[←e]⟩
 ·cases hp
theorem l7{cs:List (Str×Addr)}{cm:Str→Option Value}{ns:List (Str×NameKind)}(hn:(ns.map (·.1)).Nodup)(ha:cs.Pairwise fun x y=>x.2≠y.2):((aG cs cm ns).map (·.1)).Nodup:=by
 induction ns with
 |nil=>exact .nil
 |cons p r ih=>
  have hn':=List.nodup_cons.mp hn
  have ih:=ih hn'.2
  unfold aG at ih⊢
  rw[List.filterMap_cons]
  split
  ·exact ih
  ·rename_i b hb
   refine List.nodup_cons.mpr ⟨fun hm=>?_,ih⟩
   refine aj (List.mem_map.mp hm) fun q hq e=>?_
   refine bL (jv hq) fun n hnm hl ν3=>?_
   split at hb
   ·refine aj (Option.map_eq_some_iff.mp hb) fun a hla e'=>?_
    have e2:q.1=a:=by rw[e,←e']
    have:=name_of_addr ha (mem_of_lookup hl) (e2▸mem_of_lookup hla)
    rw[this] at hnm
    exact hn'.1 hnm
   ·cases hb
noncomputable def aI(C:List (Addr×Option Value)):List Fa:=C.map fun p=>.ow (own p.1 bB p.2)
theorem jn{C:List (Addr×Option Value)}:ows (aI C)=C.map fun p=>own p.1 bB p.2:=by
 induction C with
 |nil=>rfl
 |cons p r ih=>simp only[aI,List.map_cons,ows] at ih⊢;rw[ih]
theorem qh{C:List (Addr×Option Value)}:lM (aI C)=[]:=by
 induction C with
 |nil=>rfl
 |cons p r ih=>simpa only[aI,List.map_cons,lM] using ih
section
variable{c:Cx}{A:Around}{L:Addr}{V V':ay}{G G' R:List Fa}{s:Shared}{env:Env}
theorem aa.lH{ns:List (Str×NameKind)}{L':Addr}{m cm:Str→Option Value}{cs:List (Str×Addr)}{s₁:Shared}(S:aa c L V G s)(hn:(ns.map (·.1)).Nodup)(X:InCallC s L' m cs cm s₁)(ht:s.toks≤s₁.toks):
 aa c L' (cN ns m) (aI (aG cs cm ns)++ .ow (own L bC V)::G) s₁:=by
 obtain⟨⟨⟨h,tk,rfl⟩,hns,hk,hfr⟩,hcell,hap,hab⟩:=X
 obtain⟨B,S1⟩:=S.enter (tk:=tk) hfr hk hns (ju hn) ht
 have hnew:∀q∈aG cs cm ns,h.IsCell q.1 q.2∧L'<q.1:=fun q hq=>by
  refine bL (jv hq) fun n ν1 hl e=>?_
  exact⟨e▸hcell n q.1 hl,hab n q.1 (mem_of_lookup hl)⟩
 obtain⟨B0,S0⟩:=S
 refine aj S0.loc fun m0 hm0 hf0=>?_
 refine aj (vf.of hm0) fun oL eL nL=>?_
 have hlt:∀{a:Addr} {o:Obj},s.heap.get? a=some o→a<L':=fun e=>Nat.lt_of_lt_of_le (Heap.lt_size e) hfr
 refine⟨B0,{base:=S0.base,above:=S1.above,keep:=fun b o e=>hk b o (S0.keep b o e),loc:=⟨m,hns,ju hn⟩,locB:=S0.oW (bS hfr),know:=?_,own:=?_,nodup:=?_,gens:=S0.gens,bare:=S0.bare,os:=S0.os,tk:=S1.tk}⟩
 ·rw[fq,qh];exact S0.know
 ·intro w hw
  rw[aY,jn] at hw
  rcases List.mem_append.mp hw with hw|hw
  ·refine aj (List.mem_map.mp hw) fun q hq π32=>?_;rcases π32 with rfl
   obtain⟨⟨o,ho,hd⟩,hL⟩:=hnew q hq
   exact⟨o,ho,S0.oW (bS (Nat.le_of_lt (Nat.lt_of_le_of_lt hfr hL))),Nat.ne_of_gt hL,S0.tY (Nat.le_of_lt (Nat.lt_of_le_of_lt hfr hL)),hd⟩
  ·rcases List.mem_cons.mp hw with rfl|hw
   ·exact⟨oL,hk _ _ eL,S0.locB,Nat.ne_of_lt (hlt eL),S0.zw,m0,nL,hf0⟩
   ·refine iy (S0.own w hw) fun o e e1 ν3 e3=>?_
    exact⟨o,hk _ _ e,e1,Nat.ne_of_lt (hlt e),e3⟩
 ·have h2:((ows (.ow (own L bC V)::G)).map (·.a)).Nodup:=S1.nodup
  rw[aY,jn,List.map_append]
  refine List.nodup_append.mpr ⟨?_,h2,fun a ha b hb e=>?_⟩
  ·rw[List.map_map];exact l7 hn hap
  ·rw[List.map_map] at ha
   refine aj (List.mem_map.mp ha) fun q hq π32=>?_;rcases π32 with rfl
   have hL:=(hnew q hq).2
   refine aj (List.mem_map.mp hb) fun w hw e₁=>?_
   have e':w.a=q.1:=e₁.trans e.symm
   rcases List.mem_cons.mp hw with rfl|hw
   ·have h3:L<L':=hlt eL
    have e'':L=q.1:=e'
    exact absurd h3 (Nat.not_lt.mpr (Nat.le_of_lt (e''▸hL)))
   ·refine aj (S0.own w hw) fun o eo ν2=>?_
    have h3:w.a<L':=hlt eo
    exact absurd h3 (Nat.not_lt.mpr (Nat.le_of_lt (e'▸hL)))
theorem cellsFrom_some:∀(ns:List (Str×NameKind)) (x:Str) (n:Nat) (acc:List (Str×Addr)),(acc.lookup x).isSome =true∨ns.lookup x=some .cell→((cellsFrom n ns acc).lookup x).isSome =true
 | [],x,n,acc,h=>by
   rcases h with h|h
   ·exact h
   ·cases h
 |(y,k)::r,x,n,acc,h=>by
  unfold cellsFrom
  rw[List.lookup_cons] at h
  split
  ·rename_i hk
   refine cellsFrom_some r x _ _ ?_
   rw[List.lookup_cons]
   cases hxy:x==y with
   |true=>exact .inl rfl
   |false=>rw[hxy] at h;exact h
  ·rename_i hk
   refine cellsFrom_some r x _ _ ?_
   cases hxy:x==y with
   |true=>
    rw[hxy] at h
    rcases h with h|h
    ·exact .inl h
    ·cases h;exact absurd rfl hk
   |false=>rw[hxy] at h;exact h
theorem b9{n:Nat}{f:Addr}{oc:Value}{od:Option Addr}{osl:Array (Option Value)}{name qual:Str}{params:Arguments}{body:List Stmt}{scope:Scope}{dV kV doc pm cdv ct:Value}{an:Option Addr}
 {args:Args} {binds:List (Str×Value)} {C:Addr→List (Addr×Option Value)} {Q:Value→Shared→Prop}
 (g:cg c) (S:aa c L V G s) (ok:Ok A (n+1)) (ho:(aO c).lookup f=some ⟨oc,od,.func (fnOf name qual params body scope dV kV doc pm an cdv ct),osl⟩)
 (hbind:BindsTo s (fnOf name qual params body scope dV kV doc pm an cdv ct) args binds)
 (hcd:codeIn (aO c) cdv qual=true)
 (hnd:(scope.names.map (·.1)).Nodup) (hkind:(binds.all fun x=>scope.names.lookup x.1==some .local ||scope.names.lookup x.1==some .cell)=true)
 (hV:cN scope.names (bindL (fun x=>scope.names.lookup x) binds fun ν=>none)=V')
 (hC:∀L',aG (cellsFrom (L'+1) scope.names []) (bindC (fun x=>scope.names.lookup x) binds fun ν=>none) scope.names=C L')
 (h:∀L' s',aa c L' V' (aI (C L')++ .ow (own L bC V)::G) s'→Ok (A.deeper (envOfC qual scope L' f cdv)) n→
   Wp c (A.deeper (envOfC qual scope L' f cdv)) (execs body (envOfC qual scope L' f cdv)) (fun fl s''=>Q (match fl with | .ret v=>v|_=>.none) s'') s')
 (hco:autoParam (scope.isCoroutine=false) af) (hgen:autoParam (scope.isGenerator=false) af) (hk:autoParam (scope.kind= .function) af):
 Wp c A (call (.ref f) args.pos args.kw) Q s:=by
 refine wpAny_call ?_
 have hG:∀b o,c.hG.get? b=some o→s.heap.get? b=some o:=fun b o e=>S.ground e
 refine codeAny_call_function ok.room (hG _ _ (g.X _ _ ho)) rfl hco hgen rfl (codeRec_of (g.X.keeps hG) hcd) ?_
 refine hbind _ _ _ _ ?_
 refine wpAny_with_toks (n:=s.toks) (Nat.le_refl _) (wpAny_mono (wpAny_newFunctionEnv_cells (Q:=fun env s'=>s.toks≤s'.toks→s'.heap.NoLimit∧codeAny (model c.prog c.w) A (.func body env) _ s') hk (fun x hx=>?_) fun env he s' X ht=>?_) (fun ν ν x=>x) fun ν ν x=>fun ν=>x)
 ·have:=List.all_eq_true.mp hkind x hx
  rcases Bool.or_eq_true _ _▸this with q|q
  ·exact .inl (eq_of_beq q)
  ·exact .inr ⟨eq_of_beq q,cellsFrom_some _ _ _ _ (.inr (eq_of_beq q))⟩
 ·subst he
  refine⟨(g.nolimit.keeps hG).keeps X.toInCall.keep,codeAny_func ?_⟩
  have S':=S.lH (ns:=scope.names) hnd X ht
  have e1:cN scope.names (bindL (Env.kindOf (newEnv scope s.heap.objs.size mainGlobals (cellsFrom (s.heap.objs.size+1) scope.names []) (qual++".<locals>.") (some f) cdv none builtinsNs)) binds fun ν=>none)=V':=hV
  have e2:aG (cellsFrom (s.heap.objs.size+1) scope.names []) (bindC (Env.kindOf (newEnv scope s.heap.objs.size mainGlobals (cellsFrom (s.heap.objs.size+1) scope.names []) (qual++".<locals>.") (some f) cdv none builtinsNs)) binds fun ν=>none) scope.names=C s.heap.objs.size:=hC _
  have S'':aa c s.heap.objs.size V' (aI (C s.heap.objs.size)++ .ow (own L bC V)::G) s':=by
   rw[←e2,←e1];exact S'
  exact wpAny_mono (h _ s' S'' (ok.deeper _)) (fun ν ν x=>x) fun ν ν x=>x.elim
end
end Mine
namespace Mine
theorem jq{M:Model}{A:Around}{α:Type}{t:Sem α}{Q:α→Shared→Prop}{E:Value→Shared→Prop}{s:Shared}(h:wpAny M A t Q (fun ν ν=>False) s):wpAny M A t Q E s:=
 wpAny_mono h (fun ν ν x=>x) fun ν ν x=>x.elim
structure Src(c:Cx){α:Type}(it:Value)(target:Expr)(T:Ty α)(xs:List α)(F:Nat→List Fa)(Z:List Fa):Prop where
 next:∀{A:Around} {L:Addr} {V:ay} {G:List Fa} {s:Shared} {i:Nat} {x:α} {Q:Value→Shared→Prop},A.handled=none→aa c L V (F i++G) s→xs[i]?=some x→
  (∀v s',aa c L V (.kn (is T v x)::(F (i+1)++G)) s'→Q v s')→Wp c A (pyNext it) (fun r s'=>∃v,r=some v∧Wp c A (letOwnedTupleGo target it v) (fun ν s''=>Q v s'') s') s
 stop:∀{A:Around} {L:Addr} {V:ay} {G:List Fa} {s:Shared} {i:Nat} {Q:Option Value→Shared→Prop},A.handled=none→aa c L V (F i++G) s→xs[i]?=none→
  (∀s',aa c L V (Z++G) s'→Q none s')→Wp c A (pyNext it) Q s
section
variable{c:Cx}{A:Around}{L:Addr}{V:ay}{G:List Fa}{s:Shared}{env:Env}
theorem yh{α:Type}{it:Value}{T:Ty α}{xs:List α}{F:Nat→List Fa}{Z:List Fa}{target:Expr}{G₀:List Fa}(src:Src c it target T xs F Z)(hh:A.handled=none){body:List Stmt}{R:Result→Shared→Prop}
 (I:List α→ay→List Fa→Prop) (S:aa c L V (F 0++G₀) s) (h0:∃G,I [] V G∧Sub G₀ G)
 (step:∀done x rest V G X v s,xs=done++x::rest→I done V G→aa c L V (.kn (is T v x)::(G++X)) s→
   Wp c A (assign target env v) (fun ν s₂=>Wp c A (execs body env) (fun f s₃=>match f with
    | .next | .cont=>∃V' G',I (done++[x]) V' G'∧aa c L V' (G'++X) s₃
    | .brk=>R (.ok .next) s₃
    | .ret v=>R (.ok (.ret v)) s₃) s₂) s)
 (hend:∀V G s',I xs V G→aa c L V (Z++G) s'→R (.ok .next) s'):
 codeAny (model c.prog c.w) A (.forLoop target it body [] env) R s:=by
 refine aj h0 fun G π31 hsub=>?_;try clear h0;revert π31;intro h0
 have S:=S.sub (Sub.ia (l:=F 0) hsub)
 refine codeAny_loop' rfl (fun n s'=>∃done rest V G,xs=done++rest∧n=rest.length+1∧I done V G∧aa c L V (F done.length++G) s') (fun n s' hI=>?_) (xs.length+1) ⟨[],xs,V,G,rfl,rfl,h0,S⟩
 refine fK hI fun done rest V G e π85 π86 S=>?_;try clear hI;rcases π85 with rfl;revert π86;intro hI
 show wpAny _ A ((forTurn target it body [] env).onRaise (fun x=>do noteFrame x env;theTreesLotGoes x)) _ _ s'
 refine wpAny_noted ?_
 rw[forTurn]
 refine wpAny_bind (wpAny_standAt (wpAny_bind (wpAny_onRaise (jq ?_))))
 cases rest with
 |nil=>
  have hx:xs[done.length]?=none:=by rw[e];simp
  have e':xs=done:=by simpa using e
  refine src.stop hh S hx fun s₁ S₁=>?_
  exact wpAny_pure (.inr ⟨rfl,codeAny_block (wpAny_execs_nil (hend V G s₁ (e'▸hI) S₁))⟩)
 |cons x rest=>
  have hx:xs[done.length]?=some x:=by rw[e];simp
  refine wpAny_mono (src.next (Q:=fun v s₁=>aa c L V (.kn (is T v x)::(F (done.length+1)++G)) s₁) hh S hx fun v s₁ S₁=>S₁) (fun r s₁ h₁=>?_) fun ν ν x=>x.elim
  refine aj h₁ fun v π31 π32=>?_;try clear h₁;rcases π31 with rfl;revert π32;intro h₁
  refine wpAny_bind (jq (wpAny_mono h₁ (fun ν s₁ S₁=>?_) fun ν ν x=>x))
  have S₃:aa c L V (.kn (is T v x)::(G++F (done.length+1))) s₁:=S₁.perm ((List.perm_append_comm).cons _)
  refine wpAny_bind (jq (wpAny_mono (step done x rest V G _ v s₁ e hI S₃) (fun ν s₄ h₄=>?_) fun ν ν x=>x.elim))
  refine wpAny_bind (jq (wpAny_mono h₄ (fun f s₅ h₅=>?_) fun ν ν x=>x.elim))
  have again:(∃V' G',I (done++[x]) V' G'∧aa c L V' (G'++F (done.length+1)) s₅)→∃m,m<(x::rest).length +1∧∃done rest V G,xs=done++rest∧m=rest.length+1∧I done V G∧aa c L V (F done.length++G) s₅:=by
   intro υ0;obtain⟨V',G',hI',S'⟩:=υ0
   exact⟨rest.length+1,by simp,done++[x],rest,V',G',by rw[e];simp,rfl,hI',by
    have:(done++[x]).length =done.length+1:=by simp
    rw[this];exact S'.perm List.perm_append_comm⟩
  cases f with
  |next=>exact wpAny_pure (.inl ⟨rfl,again h₅⟩)
  |cont=>exact wpAny_pure (.inl ⟨rfl,again h₅⟩)
  |brk=>exact wpAny_pure h₅
  |ret v=>exact wpAny_pure h₅
end
end Mine
set_option tactic.hygienic true
namespace Mine
theorem lE{M:Model}{A:Around}{E:Value→Shared→Prop}{s:Shared}{it:Addr}{o:Obj}{n:String}{target:Expr}{v:Value}{Q:Unit→Shared→Prop}(ho:s.heap.get? it=some o)(hc:o.cls= .type n)
 (hn:["enumerate","zip","dict_itemiterator","dict_reverseitemiterator","odict_iterator","itertools.zip_longest","itertools.pairwise"].contains n=false) (h:Q () s):
 wpAny M A (letOwnedTupleGo target (.ref it) v) Q E s:=by
 have key:∀r a,r=it→wpAny M A (load r>>=fun o=>match o.cls,o.data with
  | .type n,.fields vs=>
    if["enumerate","zip","dict_itemiterator","dict_reverseitemiterator","odict_iterator","itertools.zip_longest","itertools.pairwise"].contains n&&vs[0]?==some (rawInt a) then do
     rule "for.unpacks-the-owned-tuple"
     updateField r 0 .none
    else pure ()
  |_,_=>pure ()) Q E s:=by
  intro _ a υ2;obtain rfl:=υ2
  refine wpAny_bind (wpAny_load ho ?_)
  cases o with |mk cls di data sl=>
  cases hc
  cases data
  case fields vs=>
   show wpAny M A (if _&&_ then _ else _) Q E s
   rw[hn]
   exact wpAny_pure h
  all_goals exact wpAny_pure h
 have k2:∀e x p,wpAny M A (letOwnedTupleGo (.Tuple e x p) (.ref it) v) Q E s:=by
  intro e x p
  cases v <;> first|exact wpAny_pure h|exact key _ _ rfl
 clear key
 cases target <;> first|exact wpAny_pure h|exact k2 [] 0 default
section
variable{c:Cx}{A:Around}{L:Addr}{V:ay}{G R:List Fa}{s:Shared}{env:Env}
theorem gj{o:Obj}{vs:Array Value}(h:o.data= .fields vs):o.isFreed=false:=by obtain⟨c,d,dt,sl⟩:=o;subst h;rfl
noncomputable def bE(cls:String)(vs:Array Value):Tb Unit:=⟨fun ν o ν=>o.cls= .type cls∧o.data= .fields vs,fun ν r=>r,fun r=>gj r.2⟩
theorem aa.eF{α:Type}{T:Ty α}{a:Addr}{xs:List α}(S:aa c L V G s)(h: .kn (is (Ty.list T) (.ref a) xs)∈G):
 ∃vs n,aa c L V (.kn (held a (aC vs n)):: .kn (rows T vs xs)::G) s:=by
 obtain⟨B,S⟩:=S
 obtain⟨_,o,e,_,ho,vs,n,rfl,r⟩:=Kh.at S.know h
 cases e
 exact⟨vs,n,S.vD [held a (aC vs n),rows T vs xs] ⟨ho,r,trivial⟩⟩
theorem aa.jQ{α:Type}{T:Row α}{v:Value}{x:α}(S:aa c L V G s)(h: .kn (is (Ty.tup T) v x)∈G):
 ∃a vs n,v= .ref a∧vs.length=T.n∧aa c L V (.kn (held a (om vs n))::((T.facts vs x).map .kn ++G)) s:=by
 obtain⟨B,S⟩:=S
 obtain⟨a,o,e,_,ho,vs,n,rfl,l,r⟩:=Kh.at S.know h
 exact⟨a,vs,n,e,l,S.vD (held a (om vs n)::T.facts vs x) ⟨ho,r⟩⟩
theorem aa.dX{α:Type}{T:Ty α}{vs:List Value}{xs:List α}{i:Nat}{x:α}(S:aa c L V G s)(h: .kn (rows T vs xs)∈G)(hx:xs[i]?=some x):
 ∃v,vs[i]?=some v∧aa c L V (.kn (is T v x)::G) s:=by
 obtain⟨B,S⟩:=S
 refine aj ((Kh.at S.know h).at hx) fun v hv r=>?_
 exact⟨v,hv,S.vD [is T v x] ⟨r,trivial⟩⟩
theorem aa.gC{α:Type}{T:Ty α}{vs:List Value}{xs:List α}(S:aa c L V G s)(h: .kn (rows T vs xs)∈G):vs.length=xs.length:=S.fact fun ν k ν=>(k.at h).length
theorem aA{h:Heap}{a:Addr}{vs:List Value}{n:Nat}(e:h.get? a=some (aC vs n)):h.IsList a vs.toArray:=⟨_,e,rfl,n,rfl⟩
theorem src_list{α:Type}{T:Ty α}{a it:Addr}{xs:List α}{vs:List Value}{n:Nat}{target:Expr}:
 Src c (.ref it) target T xs (fun i=>[.ow (own it (bE "list_iterator" #[.ref a,.int i 0]) ()),.kn (held a (aC vs n)),.kn (rows T vs xs)]) [] where
 next:=by
  intro A L V G s i x Q hh S hx h
  refine av (S.get (.head _)) fun B o e π53 ν4=>?_;obtain⟨hc,hd⟩:=π53
  have hl:=aA (S.aF (.tail _ (.head _)))
  refine aj (S.dX (.tail _ (.tail _ (.head _))) hx) fun v hv S=>?_
  refine wpAny_pyNext_list_item ⟨o,e,hc,hd⟩ hl (by simpa using hv) fun h' hit' hs=>⟨v,rfl,?_⟩
  refine bL hit' fun o' e' hc' hd'=>?_;try clear hit'
  refine lE e' hc' (by decide) (h _ _ (aa.perm (S.turn (.there .here) (bE "list_iterator" #[.ref a,.int (i+1:Nat) 0]) () hs e' fun ν ν ν ν ν=>⟨hc',hd'⟩) (List.Perm.swap ..)))
 stop:=by
  intro A L V G s i Q hh S hx h
  refine av (S.get (.head _)) fun B o e π53 ν4=>?_;obtain⟨hc,hd⟩:=π53
  have hl:=aA (S.aF (.tail _ (.head _)))
  have hlen:=S.gC (.tail _ (.tail _ (.head _)))
  have hn:vs.toArray[i]?=none:=by
   have:xs.length≤i:=by simpa using hx
   simp[hlen,this]
  exact wpAny_pyNext_list_end hh ⟨o,e,hc,hd⟩ hl hn fun h' hk=>h _ ((S.lose .here hk).sub (.drop (.drop .all)))
noncomputable def dH(c:Cx)(o:Obj)(kvs:List (Str×Value))(ep:Nat):Prop:=
 ∃es,o.ExactDict∧o.data= .dict es ep∧KeysOf (strKind c.prog c.w) es∧Pairs (strKind c.prog c.w) es.toList kvs∧(kvs.map (·.1)).Nodup
theorem dH.at{o:Obj}{kvs:List (Str×Value)}{ep:Nat}(x:dH c o kvs ep){h:Heap}{d:Addr}(e:h.get? d=some o):h.DictAt (strKind c.prog c.w) d kvs ep:=let⟨es,r⟩:=x;⟨o,es,e,r⟩
theorem aM{o:Obj}{kvs:List (Str×Value)}(x:o.IsDictOf (strKind c.prog c.w) kvs){h:Heap}{d:Addr}(e:h.get? d=some o):h.DictOf (strKind c.prog c.w) d kvs:=Heap.dictOf_iff.mpr ⟨o,e,x⟩
noncomputable def prs{β:Type}(T:Ty β)(kvs:List (Str×Value))(xs:List (Tx×β)):MP:=⟨fun B=>az (dc T B) kvs xs,fun h r=>r.mono fun ν ν q=>⟨q.1,T.up h q.2⟩⟩
theorem aa.gx{β:Type}{T:Ty β}{d:Addr}{xs:List (Tx×β)}(S:aa c L V G s)(h: .kn (is (Ty.dct c T) (.ref d) xs)∈G):
 ∃o kvs ep,dH c o kvs ep∧aa c L V (.kn (held d o):: .kn (prs T kvs xs)::G) s:=by
 obtain⟨B,S⟩:=S
 obtain⟨_,o,e,_,ho,kvs,⟨es,ep,r1,r2⟩,r⟩:=Kh.at S.know h
 cases e
 exact⟨o,kvs,ep,⟨es,r1,r2⟩,S.vD [held d o,prs T kvs xs] ⟨ho,r,trivial⟩⟩
theorem aa.yt{β:Type}{T:Ty β}{kvs:List (Str×Value)}{xs:List (Tx×β)}{i:Nat}{x:Tx×β}(S:aa c L V G s)(h: .kn (prs T kvs xs)∈G)(hx:xs[i]?=some x):
 ∃kv,kvs[i]?=some kv∧kv.1=tx x.1∧aa c L V (.kn (is T kv.2 x.2)::G) s:=by
 obtain⟨B,S⟩:=S
 refine bL ((Kh.at S.know h).at hx) fun kv hv r1 r2=>?_
 exact⟨kv,hv,r1,S.vD [is T kv.2 x.2] ⟨r2,trivial⟩⟩
theorem aa.vN{β:Type}{T:Ty β}{kvs:List (Str×Value)}{xs:List (Tx×β)}{i:Nat}(S:aa c L V G s)(h: .kn (prs T kvs xs)∈G)(hx:xs[i]?=none):kvs[i]?=none:=by
 obtain⟨B,S⟩:=S
 exact List.getElem?_eq_none (Nat.le_trans (Nat.le_of_eq (Kh.at S.know h).length) (List.getElem?_eq_none_iff.mp hx))
theorem qT{β:Type}{T:Ty β}{d it:Addr}{xs:List (Tx×β)}{o:Obj}{kvs:List (Str×Value)}{ep:Nat}{target:Expr}(hD:dH c o kvs ep):
 Src c (.ref it) target T (xs.map (·.2)) (fun i=>[.ow (own it (bE "dict_valueiterator" #[.ref d,.int i 0,.int kvs.length 0,.int ep 0]) ()),.kn (held d o),.kn (prs T kvs xs)]) [] where
 next:=by
  intro A L V G s i x Q hh S hx h
  refine av (S.get (.head _)) fun B o' e π53 ν4=>?_;obtain⟨hc,hd⟩:=π53
  have hm:=hD.at (S.aF (.tail _ (.head _)))
  rw[List.getElem?_map] at hx
  refine aj (Option.map_eq_some_iff.mp hx) fun kx hkx π32=>?_;rcases π32 with rfl
  refine bL (S.yt (.tail _ (.tail _ (.head _))) hkx) fun kv hkv ν2 S=>?_
  refine wpAny_pyNext_values_item ⟨o',e,hc,hd⟩ hm (k:=kv.1) (v:=kv.2) hkv fun h' hit' hs=>⟨_,rfl,?_⟩
  refine bL hit' fun o'' e' hc' hd'=>?_;try clear hit'
  refine lE e' hc' (by decide) (h _ _ (aa.perm (S.turn (.there .here) (bE "dict_valueiterator" #[.ref d,.int (i+1:Nat) 0,.int kvs.length 0,.int ep 0]) () hs e' fun ν ν ν ν ν=>⟨hc',hd'⟩) (List.Perm.swap ..)))
 stop:=by
  intro A L V G s i Q hh S hx h
  refine av (S.get (.head _)) fun B o' e π53 ν4=>?_;obtain⟨hc,hd⟩:=π53
  have hm:=hD.at (S.aF (.tail _ (.head _)))
  rw[List.getElem?_map] at hx
  have hn:=S.vN (.tail _ (.tail _ (.head _))) (Option.map_eq_none_iff.mp hx)
  exact wpAny_pyNext_values_end hh ⟨o',e,hc,hd⟩ hm hn fun h' hk=>h _ ((S.lose .here hk).sub (.drop (.drop .all)))
noncomputable def wB(d:Addr)(i n ep:Nat):Tb Unit:=
 ⟨fun ν o ν=>∃ok ov,o={cls:=.type "dict_itemiterator",dict:=none,data:=.fields #[.none,.bool false,.ref d,.int i 0,.int n 0,.int ep 0,ok,ov],slots:=#[]},fun ν r=>r,fun⟨_,_,e⟩=>e▸rfl⟩
noncomputable abbrev bY{α β:Type}(T:Ty α)(U:Ty β):Ty (α×β):=Ty.tup (Row.cons T (Row.one U))
theorem sr{β:Type}{T:Ty β}{d it:Addr}{xs:List (Tx×β)}{o:Obj}{kvs:List (Str×Value)}{ep:Nat}{elts:List Expr}{x1:Nat}{pos:Pos}(hD:dH c o kvs ep):
 Src c (.ref it) (.Tuple elts x1 pos) (bY ah T) xs (fun i=>[.ow (own it (wB d i kvs.length ep) ()),.kn (held d o),.kn (prs T kvs xs)]) [] where
 next:=by
  intro A L V G s i x Q hh S hx h
  obtain⟨B,o',e,⟨ok,ov,rfl⟩,_⟩:=S.get (.head _)
  have hm:=hD.at (S.aF (.tail _ (.head _)))
  refine bL (S.yt (.tail _ (.tail _ (.head _))) hx) fun kv hkv ek S=>?_
  have S:=S.front (.there .here)
  refine wpAny_pyNext_items_item e hm (k:=kv.1) (v:=kv.2) hkv fun key h' hkey hit' htup hsz hk=>⟨_,rfl,?_⟩
  obtain⟨t,rfl⟩:=Value.isStrOf_shape hkey
  refine wpAny_letOwnedTupleGo_items hit' fun h'' hit'' hs=>h _ _ ?_
  have hne:s.heap.objs.size≠it:=Nat.ne_of_gt (Heap.lt_size e)
  have ht2:h''.get? s.heap.objs.size=some (om [.str kv.1 t,kv.2] 0):=(hs.2 _ hne).trans htup
  have S1:=S.nI (tk:=s.toks) .here (wB d (i+1) kvs.length ep) () (pX (Row.cons ah (Row.one T))) x (fun b o hb e=>(hs.2 b hb).trans (hk b o hb e)) hit'' (Nat.le_refl _) ht2 (fun ν ν ν ν ν=>⟨_,_,rfl⟩) fun B k=>⟨_,0,rfl,rfl,⟨t,by rw[ek]⟩,k.at (.head _),trivial⟩
  exact(S1.freeze .here).sub (.kn (.head _) (.own (.there .here) (.drop (.drop .all))))
 stop:=by
  intro A L V G s i Q hh S hx h
  obtain⟨B,o',e,⟨ok,ov,rfl⟩,_⟩:=S.get (.head _)
  have hm:=hD.at (S.aF (.tail _ (.head _)))
  have hn:=S.vN (.tail _ (.tail _ (.head _))) hx
  exact wpAny_pyNext_items_end hh e hm hn fun h' hk=>h _ ((S.lose .here hk).sub (.drop (.drop .all)))
end
end Mine
namespace Mine
section
variable{c:Cx}{A:Around}{L:Addr}{V:ay}{G R:List Fa}{s:Shared}{env:Env}
theorem aa.cX{α:Type}{T:Tb α}{v:Value}{x:α}(S:aa c L V G s)(h: .kn (is (Ty.ref T) v x)∈G):∃a,v= .ref a∧(a==sysModules)=false:=by
 obtain⟨B,S⟩:=S
 obtain⟨a,_,e,n,_⟩:=Kh.at S.know h
 exact⟨a,e,beq_eq_false_iff_ne.mpr n⟩
theorem aa.pK{w:Ow}(S:aa c L V G s)(h: .ow w∈G):(w.a==sysModules)=false:=by
 obtain⟨B,S⟩:=S
 obtain⟨_,_,_,_,n,_⟩:=S.own w (dh.mpr h)
 exact beq_eq_false_iff_ne.mpr n
end
end Mine
set_option tactic.hygienic false
namespace Mine
section
variable{c:Cx}{A:Around}{L:Addr}{V V':ay}{G R:List Fa}{s:Shared}{env:Env}
theorem aa.u5{α:Type}{T:Ty α}{v:Value}{xs:List α}{Q:Value→Shared→Prop}(S:aa c L V G s)(h: .kn (is (Ty.list T) v xs)∈G)
 (hQ:∀it (F:Nat→List Fa) s',(∀target,Src c it target T xs F [])→aa c L V (F 0++G) s'→Q it s'):Wp c A (pyIter v) Q s:=by
 refine aj (S.cX h) fun a π31 ν2=>?_;rcases π31 with rfl
 refine fZ (S.eF h) fun vs n S=>?_
 have src:=fun target=>src_list (c:=c) (T:=T) (a:=a) (it:=s.heap.objs.size) (xs:=xs) (vs:=vs) (n:=n) (target:=target)
 refine wpAny_pyIter_list (aA (S.aF (.head _))) (hQ _ _ _ src ?_)
 have S':=S.push (tk:=s.toks) (o:={cls:=.type "list_iterator",data:=.fields #[.ref a,.int 0 0]}) (bE "list_iterator" #[.ref a,.int (0:Nat) 0]) () fun ν ν=>⟨rfl,rfl⟩
 exact S'.sub (.own .here (.kn (.head _) (.kn (.tail _ (.head _)) (.drop (.drop .all)))))
theorem aa.xF{β:Type}{T:Ty β}{v:Value}{xs:List (Tx×β)}{Q:Value→Shared→Prop}(S:aa c L V G s)(h: .kn (is (Ty.dct c T) v xs)∈G)
 (hQ:∀d a s',v= .ref d→aa c L V (.ow (own a (bE "dict_values" #[.ref d]) ())::G) s'→Q (.ref a) s'):Wp c A (call (.builtin "dict.values") [v]) Q s:=by
 refine aj (S.cX h) fun d π31 hd=>?_;rcases π31 with rfl
 refine aj (S.inst h) fun B π31 hk=>?_;obtain⟨_,o,e,_,ho,kvs,hD,_⟩:=π31
 cases e
 have hm:=aM hD (hk _ _ ho)
 refine call_meetsIn F.slot_dict_values hm.typeIs F.entry_dict_values (F.args_dict_values_1 _) (meets_dict_values (strKind c.prog c.w) d hd) ⟨⟨_,hm⟩,?_⟩
 exact hQ d _ _ rfl (S.push _ _ fun ν ν=>⟨rfl,rfl⟩)
theorem aa.qW{β:Type}{T:Ty β}{v:Value}{xs:List (Tx×β)}{Q:Value→Shared→Prop}(S:aa c L V G s)(h: .kn (is (Ty.dct c T) v xs)∈G)
 (hQ:∀d a s',v= .ref d→aa c L V (.ow (own a (bE "dict_items" #[.ref d]) ())::G) s'→Q (.ref a) s'):Wp c A (call (.builtin "dict.items") [v]) Q s:=by
 refine aj (S.cX h) fun d π31 hd=>?_;rcases π31 with rfl
 refine aj (S.inst h) fun B π31 hk=>?_;obtain⟨_,o,e,_,ho,kvs,hD,_⟩:=π31
 cases e
 have hm:=aM hD (hk _ _ ho)
 refine call_meetsIn F.slot_dict_items hm.typeIs F.entry_dict_items (F.args_dict_items_1 _) (meets_dict_items (strKind c.prog c.w) d hd) ⟨⟨_,hm⟩,?_⟩
 exact hQ d _ _ rfl (S.push _ _ fun ν ν=>⟨rfl,rfl⟩)
theorem aa.qA{β:Type}{T:Ty β}{v d:Addr}{xs:List (Tx×β)}{Q:Value→Shared→Prop}(S:aa c L V G s)(hv: .ow (own v (bE "dict_values" #[.ref d]) ())∈G)(h: .kn (is (Ty.dct c T) (.ref d) xs)∈G)
 (hQ:∀it (F:Nat→List Fa) s',(∀target,Src c it target T (xs.map (·.2)) F [])→aa c L V (F 0++G) s'→Q it s'):Wp c A (pyIter (.ref v)) Q s:=by
 refine gJ (S.gx h) fun o kvs ep hD S'=>?_
 refine av (S.get hv) fun ν0 ov e π53 ν4=>?_;obtain⟨hc,hd⟩:=π53
 have src:=fun target=>qT (T:=T) (d:=d) (it:=s.heap.objs.size) (xs:=xs) (target:=target) hD
 refine wpAny_pyIter_values ⟨ov,e,hc,hd⟩ (hD.at (S'.aF (.head _))) (hQ _ _ _ src ?_)
 exact S'.push (bE "dict_valueiterator" #[.ref d,.int (0:Nat) 0,.int kvs.length 0,.int ep 0]) () fun ν ν=>⟨rfl,rfl⟩
theorem aa.tZ{β:Type}{T:Ty β}{v d:Addr}{xs:List (Tx×β)}{Q:Value→Shared→Prop}(S:aa c L V G s)(hv: .ow (own v (bE "dict_items" #[.ref d]) ())∈G)(h: .kn (is (Ty.dct c T) (.ref d) xs)∈G)
 (hQ:∀it (F:Nat→List Fa) s',(∀elts x1 pos,Src c it (.Tuple elts x1 pos) (bY ah T) xs F [])→aa c L V (F 0++G) s'→Q it s'):Wp c A (pyIter (.ref v)) Q s:=by
 refine gJ (S.gx h) fun o kvs ep hD S'=>?_
 refine av (S.get hv) fun ν0 ov e π53 ν4=>?_;obtain⟨hc,hd⟩:=π53
 have src:=fun elts x1 pos=>sr (T:=T) (d:=d) (it:=s.heap.objs.size) (xs:=xs) (elts:=elts) (x1:=x1) (pos:=pos) hD
 refine wpAny_pyIter_items ⟨ov,e,hc,hd⟩ (hD.at (S'.aF (.head _))) (hQ _ _ _ src ?_)
 exact S'.push (wB d (0:Nat) kvs.length ep) () fun ν ν=>⟨_,_,rfl⟩
theorem zB{id:String}{pos:Pos}{first:List Value}{Q:Value→Shared→Prop}(h:Wp c A (call (.builtin id) first) Q s):Wp c A (callWith pos (.builtin id) first [] []) Q s:=
 Calls.callWith_builtin rfl (PyProof.Rows.evalArgs_none (by simpa using h))
structure oM(T:String)(name:Str)(id:String):Prop where
 pa:PlainAttrs T
 slot:Slot T name id
 ty:typeOf (.builtin id)=pure (.type "method_descriptor")
noncomputable def Of(s:Shared)(v:Value)(T:String):Prop:=s.TypeIs v T∧∀a,v= .ref a→∃ob,s.heap.get? a=some ob∧ob.dict=none
theorem f9{o e:Expr}{rest:List Expr}{name:Str}{apos pos:Pos}{Q:Value→Shared→Prop}
 (h:Wp c A (eval o env) (fun ov s₁=>∃T id,oM T name id∧Of s₁ ov T∧Wp c A (spliced (backTo pos (starEach (e::rest) env))) (fun vs s₂=>Wp c A (call (.builtin id) (ov::vs)) Q s₂) s₁) s)
 (he:autoParam (starEach (e::rest) env=(false,eval e env)::starEach rest env) af) (hp:autoParam ((backTo pos (starEach rest env)).any (·.1)=false) af)
 (hbase:autoParam (attributeBase o name env (eval o env)=eval o env) af) (hfew:autoParam (((backTo pos (starEach (e::rest) env)).all (fun x=>!x.1)&&(backToKw pos (keywordEach [] env)).all (fun x=>x.1.isSome)
   &&decide ((e::rest).length +([]:List Keyword).length +(if([]:List Keyword).isEmpty then 0 else 1)<30))=true) af)
 (hline:autoParam ((apos.endLine==pos.line)=true) af):Wp c A (eval (.Call (.Attribute o name apos) (e::rest) [] pos) env) Q s:=
 wpAny_Call_method_late hbase hfew hline rfl (wpAny_mono h (fun ν ν ⟨T,id,m,o,w⟩=>⟨T,id,m.pa,m.slot,m.ty,o.1,o.2,callWith_method1 w he hp⟩) fun ν ν x=>x)
theorem k6{o:Expr}{name:Str}{apos pos:Pos}{Q:Value→Shared→Prop}
 (h:Wp c A (eval o env) (fun ov s₁=>∃T id,oM T name id∧Of s₁ ov T∧Wp c A (call (.builtin id) [ov]) Q s₁) s)
 (hbase:autoParam (attributeBase o name env (eval o env)=eval o env) af) (hline:autoParam ((apos.endLine==pos.line)=true) af):Wp c A (eval (.Call (.Attribute o name apos) [] [] pos) env) Q s:=
 wpAny_Call_method0_late hbase hline (wpAny_mono h (fun ν ν ⟨T,id,m,o,w⟩=>⟨T,id,m.pa,m.slot,m.ty,o.1,o.2,zB w⟩) fun ν ν x=>x)
theorem aa.ofList{α:Type}{T:Ty α}{v:Value}{xs:List α}(S:aa c L V G s)(h: .kn (is (Ty.list T) v xs)∈G):Of s v "list":=by
 refine aj (S.inst h) fun B π31 hk=>?_;obtain⟨a,o,rfl,_,ho,vs,n,rfl,_⟩:=π31
 exact⟨⟨_,hk _ _ ho,rfl⟩,fun b e=>by cases e;exact⟨_,hk _ _ ho,rfl⟩⟩
theorem aa.AK{α:Type}{T:Row α}{v:Value}{xs:α}(S:aa c L V G s)(h: .kn (is (Ty.tup T) v xs)∈G):Of s v "tuple":=by
 refine aj (S.inst h) fun B π31 hk=>?_;obtain⟨a,o,rfl,_,ho,vs,n,rfl,_⟩:=π31
 exact⟨⟨_,hk _ _ ho,rfl⟩,fun b e=>by cases e;exact⟨_,hk _ _ ho,rfl⟩⟩
theorem aa.g7{β:Type}{T:Ty β}{v:Value}{xs:List (Tx×β)}(S:aa c L V G s)(h: .kn (is (Ty.dct c T) v xs)∈G):Of s v "dict":=by
 refine aj (S.inst h) fun B π31 hk=>?_;obtain⟨a,o,rfl,_,ho,kvs,hD,_⟩:=π31
 have hm:=aM hD (hk _ _ ho)
 exact⟨hm.typeIs,hm.mapOf.noDict⟩
theorem aa.fD{α:Type}{T:Ty α}{a:Addr}{xs:List α}(S:aa c L V G s)(h: .ow (own a (ai T) xs)∈G):Of s (.ref a) "list":=by
 obtain⟨B,o,ho,⟨vs,n,rfl,_⟩,_⟩:=S.get h
 exact⟨⟨_,ho,rfl⟩,fun b e=>by cases e;exact⟨_,ho,rfl⟩⟩
theorem aa.rj{β:Type}{T:Ty β}{a:Addr}{xs:List (Tx×β)}(S:aa c L V G s)(h: .ow (own a (aK c T) xs)∈G):Of s (.ref a) "dict":=by
 obtain⟨B,o,ho,⟨kvs,hD,_⟩,_⟩:=S.get h
 have hm:=aM hD ho
 exact⟨hm.typeIs,hm.mapOf.noDict⟩
theorem ofStr{x:Str}{t:Tok}:Of s (.str x t) "str":=⟨rfl,fun ν e=>nomatch e⟩
theorem lT:oM "dict" "values" "dict.values":=⟨F.plainAttrs_dict,F.slot_dict_values,F.type_dict_values⟩
theorem fG:oM "dict" "items" "dict.items":=⟨F.plainAttrs_dict,F.slot_dict_items,F.type_dict_items⟩
theorem yF{e:Expr}{rest:List Expr}{id:Str}{p pos:Pos}{f:Addr}{o:Obj}{fd:FuncData}{Q:Value→Shared→Prop}
 (hn:Wp c A (eval (.Name id p) env) (fun v s₁=>v= .ref f∧Wp c A (spliced (backTo pos (starEach (e::rest) env))) (fun vs s₂=>s₂.heap.get? f=some o∧Wp c A (call (.ref f) vs) Q s₂) s₁) s)
 (hd:o.data= .func fd) (he:autoParam (starEach (e::rest) env=(false,eval e env)::starEach rest env) af):Wp c A (eval (.Call (.Name id p) (e::rest) [] pos) env) Q s:=by
 show Wp c A (eval (.Name id p) env>>=fun f=>callWith pos f [] (backTo pos (starEach (e::rest) env)) (backToKw pos (keywordEach [] env))) Q s
 refine wpAny_bind (wpAny_mono hn (fun v s₁ h₁=>?_) fun ν ν x=>x)
 obtain⟨rfl,h₁⟩:=h₁
 exact callWith_def hd h₁ he
theorem bR{e:Expr}{rest:List Expr}{id:Str}{p pos:Pos}{b:String}{Q:Value→Shared→Prop}
 (hn:Wp c A (eval (.Name id p) env) (fun v s₁=>v= .builtin b∧Wp c A (spliced (backTo pos (starEach (e::rest) env))) (fun vs s₂=>Wp c A (call (.builtin b) vs) Q s₂) s₁) s)
 (he:autoParam (starEach (e::rest) env=(false,eval e env)::starEach rest env) af) (hp:autoParam ((backTo pos (starEach rest env)).any (·.1)=false) af):Wp c A (eval (.Call (.Name id p) (e::rest) [] pos) env) Q s:=by
 show Wp c A (eval (.Name id p) env>>=fun f=>callWith pos f [] (backTo pos (starEach (e::rest) env)) (backToKw pos (keywordEach [] env))) Q s
 refine wpAny_bind (wpAny_mono hn (fun v s₁ h₁=>?_) fun ν ν x=>x)
 obtain⟨rfl,h₁⟩:=h₁
 exact callWith_method1 (first:=[]) h₁ he hp
theorem gf{e:Expr}{rest:List Expr}{id:Str}{p pos:Pos}{b:String}{Q:Value→Shared→Prop}
 (hn:Wp c A (eval (.Name id p) env) (fun v s₁=>v= .type b∧Wp c A (spliced (backTo pos (starEach (e::rest) env))) (fun vs s₂=>Wp c A (call (.type b) vs) Q s₂) s₁) s)
 (he:autoParam (starEach (e::rest) env=(false,eval e env)::starEach rest env) af) (hp:autoParam ((backTo pos (starEach rest env)).any (·.1)=false) af):Wp c A (eval (.Call (.Name id p) (e::rest) [] pos) env) Q s:=by
 show Wp c A (eval (.Name id p) env>>=fun f=>callWith pos f [] (backTo pos (starEach (e::rest) env)) (backToKw pos (keywordEach [] env))) Q s
 refine wpAny_bind (wpAny_mono hn (fun v s₁ h₁=>?_) fun ν ν x=>x)
 obtain⟨rfl,h₁⟩:=h₁
 rw[he] at h₁⊢
 exact PySem.callWith_type (args:=backTo pos ((false,eval e env)::starEach rest env)) (by show(false||(backTo pos (starEach rest env)).any (·.1))=false;rw[hp];rfl) (Calls.evalArgs_plain h₁)
end
end Mine
set_option tactic.hygienic true
namespace Mine
theorem wt{M:Model}{A:Around}{α:Type}{t:Sem α}{Q:α→Shared→Prop}{s:Shared}(h:wpAny M A t (fun a s'=>s.toks≤s'.toks→Q a s') (fun ν ν=>False) s):wpAny M A t Q (fun ν ν=>False) s:=
 wpAny_with_toks (Nat.le_refl _) (wpAny_mono h (fun ν ν x=>x) fun ν ν x=>x.elim)
noncomputable def cut{α:Type}(x:List α)(lo hi:Option Int):List α:=(x.drop (lo.elim 0 (clipAt x.length))).take (hi.elim x.length (clipAt x.length)-lo.elim 0 (clipAt x.length))
theorem lN(vs:List Value)(lo hi:Option Int):slicePick vs.toArray lo hi none=(cut vs lo hi).toArray:=by
 rw[slicePick_plain];simp[cut]
theorem az.cut{α β:Type}{r:α→β→Prop}{l:List α}{l':List β}(h:az r l l')(lo hi:Option Int):az r (Mine.cut l lo hi) (Mine.cut l' lo hi):=by
 unfold Mine.cut;rw[h.length];exact(h.drop _).take _
theorem cU{α:Type}(x:List α)(lo hi:Option Int):(cut x lo hi).length≤x.length:=by
 unfold cut;rw[List.length_take,List.length_drop];exact ω35
theorem vt{α:Type}{x:List α}{lo hi:Option Int}(h:(cut x lo hi).length =x.length):cut x lo hi=x:=by
 have h1:cut x lo hi=x.drop (lo.elim 0 (clipAt x.length)):=by
  unfold cut at h⊢
  exact List.take_of_length_le (by rw[List.length_take,List.length_drop] at h;rw[List.length_drop];exact ω41 h)
 rw[h1] at h⊢
 rw[List.length_drop] at h
 rcases Nat.eq_zero_or_pos (lo.elim 0 (clipAt x.length)) with e|e
 ·rw[e];rfl
 ·have:x.length=0:=by exact ω42 h e
  rw[List.length_eq_zero_iff.mp this];simp
theorem eE(lo hi:Option Int)(n:Nat):Builtin.Str.strSliceIndices lo hi 1 n=(List.range ((hi.elim n (clipAt n))-(lo.elim 0 (clipAt n)))).map (lo.elim 0 (clipAt n)+ ·):=by
 have e:Builtin.Str.strSliceIndices lo hi 1 n=sliceRange (sliceBounds lo hi none n).1 (sliceBounds lo hi none n).2.1 1:=by
  cases lo <;> cases hi <;> rfl
 rw[e,sliceBounds_plain,sliceRange_one]
theorem uL(xs:Array Nat)(a:Nat)(k:Nat):((List.range k).map (a+ ·)).filterMap (xs[·]?)=(xs.toList.drop a).take k:=pick_run xs a k
theorem lP{x:List Nat}{t:Tok}{l u:Option (Int×Tok)}{Q:Value→Shared→Prop}{s:Shared}(hsz:x.length≤sizeLine)
 (h:∀t' k,s.toks≤k→Q (.str (tx (cut x (l.map (·.1)) (u.map (·.1)))) t') {s with toks:=k}):(sliceMade (tx x) t l u none).post Q s:=by
 have e1:((slicePicked (tx x) l u none).filterMap ((tx x).cps[·]?))=cut x (l.map (·.1)) (u.map (·.1)):=by
  unfold slicePicked
  simp only[Option.map_none,Option.getD_none]
  rw[eE,uL]
  simp[cut,aq]
 have e2:(slicePicked (tx x) l u none).length =(cut x (l.map (·.1)) (u.map (·.1))).length:=by
  unfold slicePicked
  simp only[Option.map_none,Option.getD_none]
  rw[eE]
  simp only[List.length_map,List.length_range,cut,List.length_take,List.length_drop,aq]
  have h1:(u.map (·.1)).elim x.length (clipAt x.length)≤x.length:=by
   cases u.map (·.1) with
   |none=>exact Nat.le_refl _
   |some i=>have:=clipAt_cast x.length i;simp only[Option.elim];exact ω37 this
  exact ω36 h1
 unfold sliceMade
 rw[e1,e2]
 split
 ·rename_i hc
  have hl:(cut x (l.map (·.1)) (u.map (·.1))).length =x.length:=by
   simp only[Option.map_none,Option.getD_none,beq_self_eq_true,Bool.true_and,beq_iff_eq,aq] at hc
   exact hc
  have:=h t s.toks (Nat.le_refl _)
  rw[vt hl] at this
  exact this
 ·exact⟨by show(cut x _ _).toArray.size≤sizeLine;rw[List.size_toArray];exact Nat.le_trans (cU ..) hsz,h _ _ (Nat.le_succ _)⟩
section
variable{c:Cx}{A:Around}{L:Addr}{V V':ay}{G R:List Fa}{s:Shared}{env:Env}{t u:Tok}
theorem aa.ld{x:Str}{v:Value}{Q:Value→Shared→Prop}(S:aa c L V G s)(hv:(x,some v)∈V)(h:Q v s)(hL:autoParam (env.locals=L) af)(hk:autoParam (env.scope.kind= .function) af)(hl:autoParam (env.kindOf x=some .local) b7):
 Wp c A (loadName env x) Q s:=by
 refine aj S.ns fun m hn hf=>?_
 exact wpAny_loadName_local hk hl (hL▸hn) (hf.2 _ _ hv) h
theorem aa.jj{i:Int}{k:Nat}{pos:Pos}{Q:Value→Shared→Prop}(S:aa c L V G s)(h:∀t s',aa c L V G s'→Q (.int i t) s'):Wp c A (eval (.Constant (.int i) k pos) env) Q s:=wpAny_Constant_int (h _ _ S.toks)
theorem aa.g5{x:Str}{k:Nat}{pos:Pos}{Q:Value→Shared→Prop}(S:aa c L V G s)(h:∀s',aa c L V G s'→s'.toks=s.toks+1→Q (.str (tx x.cps.toList) s.toks) s'):Wp c A (eval (.Constant (.str x) k pos) env) Q s:=Calls.Constant_str (h _ S.toks rfl)
theorem A4{k:Nat}{pos:Pos}{Q:Value→Shared→Prop}(h:Q .none s):Wp c A (eval (.Constant .none k pos) env) Q s:=wpAny_pure h
theorem yy{b:Bool}{k:Nat}{pos:Pos}{Q:Value→Shared→Prop}(h:Q (.bool b) s):Wp c A (eval (.Constant (.bool b) k pos) env) Q s:=wpAny_pure h
theorem aa.By{a b:Int}{Q:Value→Shared→Prop}(S:aa c L V G s)(h:∀t s',aa c L V G s'→Q (.int (a+b) t) s'):Wp c A (binaryOp .Add (.int a t) (.int b u)) Q s:=add_int (h _ _ S.toks)
theorem aa.AP{a b:Int}{Q:Value→Shared→Prop}(S:aa c L V G s)(h:∀t s',aa c L V G s'→Q (.int (a+b) t) s'):Wp c A (inplaceOp .Add (.int a t) (.int b u)) Q s:=iadd_int (h _ _ S.toks)
theorem sub_int'{a b:Int}{Q:Value→Shared→Prop}(h:Q (.int (a-b) s.toks) {s with toks:=s.toks+1}):Wp c A (binaryOp .Sub (.int a t) (.int b u)) Q s:=P.sub_int h
theorem aa.BX{a b:Int}{Q:Value→Shared→Prop}(S:aa c L V G s)(h:∀t s',aa c L V G s'→Q (.int (a-b) t) s'):Wp c A (binaryOp .Sub (.int a t) (.int b u)) Q s:=sub_int' (h _ _ S.toks)
theorem aa.oMod{a b:Int}{Q:Value→Shared→Prop}(S:aa c L V G s)(hb:b≠0)(h:∀t s',aa c L V G s'→Q (.int (a.fmod b) t) s'):Wp c A (binaryOp .Mod (.int a t) (.int b u)) Q s:=mod_int' hb (h _ _ S.toks)
theorem aa.oDiv{a b:Int}{Q:Value→Shared→Prop}(S:aa c L V G s)(hb:b≠0)(hp:b.natAbs<1073741824)(h:∀t s',aa c L V G s'→Q (.int (a.fdiv b) t) s'):Wp c A (binaryOp .FloorDiv (.int a t) (.int b u)) Q s:=
 floordiv_int hb (h _ _ S.toks) (.inl (PyProof.noPylong_small hp))
theorem aa.BU{x y:Tx}{Q:Value→Shared→Prop}(S:aa c L V G s)(hsz:x.length+y.length≤sizeLine)(h:∀t s',aa c L V G s'→Q (.str (tx (x++y)) t) s'):Wp c A (binaryOp .Add (.str (tx x) t) (.str (tx y) u)) Q s:=by
 refine wt (add_str (fun t' k hk=>?_) (by simpa using hsz))
 rw[mU];exact h _ _ (S.toks (ht:=hk))
theorem pP(x:List Nat):∀(n:Nat) (acc:Array Nat),(List.replicate n x.toArray).foldl (·++ ·) acc=acc++(List.replicate n x).flatten.toArray
 |0,acc=>by simp
 |n+1,acc=>by rw[List.replicate_succ,List.foldl_cons,pP x n,List.replicate_succ,List.flatten_cons];simp
theorem aa.Bf{x:Tx}{n:Int}{Q:Value→Shared→Prop}(S:aa c L V G s)(h0:0≤n)(h1:n≤16)(hx:x.length≤16)(h:∀t s',aa c L V G s'→Q (.str (tx (List.replicate n.toNat x).flatten) t) s'):
 Wp c A (binaryOp .Mult (.str (tx x) t) (.int n u)) Q s:=by
 have hok:MulOk (tx x) n:=by
  refine⟨by simp;exact ω132 h0 h1 rfl,fun hn ν=>?_,fun hn ν=>?_⟩
  ·have:(16:Int)≤(2^63-1)/n:=by
    have hn':1≤n:=by exact ω161 hn
    exact Int.le_ediv_of_mul_le (by exact hn') (by lia)
   rw[aq];lia
  ·unfold Builtin.Str.tooLong sizeLine
   rw[aq]
   have:x.length*n.toNat≤16*16:=Nat.mul_le_mul hx (by exact ω118 h1)
   simp;exact ω1 this rfl
 refine wt (SB.mul hok fun t' k hk=>?_)
 have e:Txt.mul (tx x) n=tx (List.replicate n.toNat x).flatten:=by
  unfold Txt.mul
  split
  ·have:n.toNat=0:=by lia
   rw[this];rfl
  ·split
   ·rename_i h3
    rcases Bool.or_eq_true _ _▸h3 with h4|h4
    ·have:n=1:=eq_of_beq h4
     subst this;simp
    ·have:x.length=0:=by simpa using h4
     rw[List.length_eq_zero_iff.mp this];simp
   ·show(⟨(List.replicate n.toNat x.toArray).foldl (·++ ·) #[]⟩:Str)=_
    rw[pP];simp[tx]
 rw[e];exact h _ _ (S.toks (ht:=hk))
theorem sEq{x y:Tx}{Q:Value→Shared→Prop}(h:Q (.bool (x==y)) s):Wp c A (compareOp .Eq (.str (tx x) t) (.str (tx y) u)) Q s:=P.eq_str h
theorem Cq{x y:Tx}{Q:Value→Shared→Prop}(h:Q (.bool (x !=y)) s):Wp c A (compareOp .NotEq (.str (tx x) t) (.str (tx y) u)) Q s:=P.ne_str h
theorem aa.BB{x:Tx}{Q:Value→Shared→Prop}(S:aa c L V G s)(hsz:x.length≤sizeLine)(h:∀t s',aa c L V G s'→Q (.int x.length t) s'):Wp c A (call (.builtin "len") [.str (tx x) t]) Q s:=
 P.len_str (by rw[aq];unfold sizeLine at hsz;exact ω221 hsz rfl) (by rw[aq];exact h _ _ (S.toks (ht:=by exact Nat.le.step (Nat.le.step Nat.le.refl))))
theorem aa.BK{x:Tx}{i:Int}{k d:Nat}{Q:Value→Shared→Prop}(S:aa c L V G s)(hr: -16≤i∧i<2^60)(hk:seqIndex? i x.length=some k)(hd:x[k]?=some d)(h:∀t s',aa c L V G s'→Q (.str (tx [d]) t) s'):
 Wp c A (getItem (.str (tx x) t) (.int i u)) Q s:=
 P.getItem_str (c:=d) (by simp;exact ω121 hr rfl) (by rw[aq,hk];simpa[tx] using hd) (h _ _ S.toks)
theorem aa.BY{x:Tx}{sl:Addr}{lo hi:Option (Int×Tok)}{Q:Value→Shared→Prop}(S:aa c L V G s)(hs: .ow (own sl (bE "slice" #[partValue lo,partValue hi,.none]) ())∈G)(hsz:x.length≤sizeLine)
 (h:∀t s',aa c L V G s'→Q (.str (tx (cut x (lo.map (·.1)) (hi.map (·.1)))) t) s'):Wp c A (getItem (.str (tx x) t) (.ref sl)) Q s:=by
 refine av (S.get hs) fun B o e π53 ν4=>?_;obtain⟨hc,hd⟩:=π53
 exact wpAny_getItem_str_slice (l:=lo) (u:=hi) (st:=none) ⟨o,e,hc,hd⟩ rfl (lP hsz fun t' k hk=>h _ _ (S.toks (ht:=hk)))
theorem uG(slice:Expr)(o i:Value):∃ops,subscripted slice false o i=operate ops (getItem o i):=by
 cases slice
 case Slice a b step p=>cases step <;> exact⟨_,rfl⟩
 all_goals exact⟨_,rfl⟩
noncomputable def gk(c:Cx)(A:Around)(o i:Value)(Q:Value→Shared→Prop)(s:Shared):Prop:=
 ∃T id,typeLookup (.type T) "__getitem__"=pure (some (.builtin id))∧s.TypeIs o T∧Wp c A (getItem o i) Q s
theorem t7{value slice:Expr}{pos:Pos}{Q:Value→Shared→Prop}(h:Wp c A (eval value env) (fun o s₁=>Wp c A (eval slice env) (fun i s₂=>gk c A o i Q s₂) s₁) s):Wp c A (eval (.Subscript value slice pos) env) Q s:=by
 refine Subscript_ (wpAny_mono h (fun o s₁ h₁=>wpAny_mono h₁ (fun i s₂ h₂=>?_) fun ν ν x=>x) fun ν ν x=>x)
 refine av h₂ fun T id hl hT hg=>?_;try clear h₂
 obtain⟨ops,e⟩:=uG slice o i
 exact tail_any hT hl hg e
theorem aa.slice{lower upper:Option Expr}{p:Pos}{Q:Value→Shared→Prop}
 (h:Wp c A (evalPart lower env) (fun vl s₁=>Wp c A (evalPart upper env) (fun vu s₂=>∃L V G,aa c L V G s₂∧∀a s',aa c L V (.ow (own a (bE "slice" #[vl,vu,.none]) ())::G) s'→Q (.ref a) s') s₁) s):
 Wp c A (eval (.Slice lower upper none p) env) Q s:=by
 refine wpAny_Slice (wpAny_mono h (fun vl s₁ h₁=>wpAny_mono h₁ (fun vu s₂ h₂=>?_) fun ν ν x=>x) fun ν ν x=>x)
 refine gJ h₂ fun L V G S k=>?_;try clear h₂
 rw[evalPart_none]
 exact wpAny_pure (k _ _ (S.push _ _ fun ν ν=>⟨rfl,rfl⟩))
theorem mG{x:Tx}{t:Tok}{i:Value}{Q:Value→Shared→Prop}(h:Wp c A (getItem (.str (tx x) t) i) Q s):gk c A (.str (tx x) t) i Q s:=⟨"str",_,F.slot_str_getitem.lookup,typeIs_str _ _ _,h⟩
end
end Mine
namespace Mine
noncomputable def at'{β:Type}(xs:List (Tx×β))(k:Tx):Option β:=(xs.find? fun p=>p.1=k).map (·.2)
noncomputable def put{β:Type}(xs:List (Tx×β))(k:Tx)(v:β):List (Tx×β):=if xs.any (fun p=>p.1=k) then xs.map (fun p=>if p.1=k then(p.1,v) else p) else xs++[(k,v)]
theorem xX{β:Type}{T:Ty β}{B:Mem}{kvs:List (Str×Value)}{xs:List (Tx×β)}(h:az (dc T B) kvs xs)(k:Tx):(kvs.any fun kv=>kv.1=tx k)=xs.any fun p=>p.1=k:=by
 induction h with
 |nil=>rfl
 |cons h _ ih=>
  rw[List.any_cons,List.any_cons,ih,h.1]
  congr 1
  exact decide_eq_decide.mpr ⟨dM,fun e=>by rw[e]⟩
theorem kT{β:Type}{T:Ty β}{B:Mem}{kvs:List (Str×Value)}{xs:List (Tx×β)}(h:az (dc T B) kvs xs)(k:Tx){v:Value}{y:β}(hv:T.rel B v y):az (dc T B) (stored kvs (tx k) v) (put xs k y):=by
 unfold stored put
 rw[xX h k]
 split
 ·rename_i hany
  clear hany
  induction h with
  |nil=>exact .nil
  |cons h _ ih=>
   refine .cons ?_ ih
   rename_i a b _ _ _
   by_cases e:b.1=k
   ·have e':a.1=tx k:=by rw[h.1,e]
    simp only[e,e',if_true]
    exact⟨rfl,hv⟩
   ·have e':¬a.1=tx k:=by rw[h.1];exact fun q=>e (dM q)
    simp only[e,e',if_false]
    exact h
 ·exact h.snoc ⟨rfl,hv⟩
theorem nP{β:Type}{T:Ty β}{B:Mem}{kvs:List (Str×Value)}{xs:List (Tx×β)}(h:az (dc T B) kvs xs)(k:Tx):
 (∃v y,valueAt kvs (tx k)=some v∧at' xs k=some y∧T.rel B v y)∨(valueAt kvs (tx k)=none∧at' xs k=none):=by
 unfold valueAt at'
 induction h with
 |nil=>exact .inr ⟨rfl,rfl⟩
 |cons h _ ih=>
  rename_i a b _ _ _
  rw[List.find?_cons,List.find?_cons]
  by_cases e:b.1=k
  ·have e':a.1=tx k:=by rw[h.1,e]
   simp only[e,e',decide_true]
   exact .inl ⟨_,_,rfl,rfl,h.2⟩
  ·have e':¬a.1=tx k:=by rw[h.1];exact fun q=>e (dM q)
   simp only[e,e',decide_false]
   exact ih
section
variable{c:Cx}{A:Around}{L:Addr}{V V':ay}{G R:List Fa}{s:Shared}{env:Env}{t u:Tok}
theorem aa.aQ{α:Type}{T:Ty α}{a:Addr}{xs:List α}(S:aa c L V G s)(h: .ow (own a (ai T) xs)∈G):
 ∃vs n,s.heap.get? a=some (aC vs n)∧vs.length=xs.length∧aa c L V (.kn (rows T vs xs)::G) s:=by
 obtain⟨B,S⟩:=S
 obtain⟨o,e,eB,eL,eS,vs,n,rfl,r⟩:=S.own _ (dh.mpr h)
 refine⟨vs,n,e,r.length,B,{S with know:=fun k hk=>?_}⟩
 rcases List.mem_cons.mp hk with rfl|hk
 ·exact r
 ·exact S.know k hk
theorem aa.gF{β:Type}{T:Ty β}{d:Addr}{xs:List (Tx×β)}(S:aa c L V G s)(h: .ow (own d (aK c T) xs)∈G):
 ∃o kvs,s.heap.get? d=some o∧o.IsDictOf (strKind c.prog c.w) kvs∧kvs.length=xs.length∧aa c L V (.kn (prs T kvs xs)::G) s:=by
 obtain⟨B,S⟩:=S
 obtain⟨o,e,eB,eL,eS,kvs,hD,r⟩:=S.own _ (dh.mpr h)
 refine⟨o,kvs,e,hD,r.length,B,{S with know:=fun k hk=>?_}⟩
 rcases List.mem_cons.mp hk with rfl|hk
 ·exact r
 ·exact S.know k hk
theorem aa.nList{α:Type}{vs:List Value}{Q:Value→Shared→Prop}(T:Ty α)(xs:List α)(S:aa c L V G s)(hr:∀B,Kh G B→az (T.rel B) vs xs)(hsz:vs.length≤sizeLine)
 (h:∀a s',aa c L V (.ow (own a (ai T) xs)::G) s'→Q (.ref a) s'):Wp c A (newList vs) Q s:=
 wpAny_newList (h _ _ (S.push _ _ fun B k=>⟨vs,0,rfl,hr B k⟩)) hsz
theorem aa.AJ{α:Type}{vs:List Value}{Q:Value→Shared→Prop}(T:Row α)(x:α)(S:aa c L V G s)(hr:∀B,Kh G B→AllP (T.facts vs x) B)(hl:vs.length=T.n)(hsz:vs.length≤sizeLine)
 (h:∀v s',aa c L V (.kn (is (Ty.tup T) v x)::G) s'→Q v s'):Wp c A (newTuple vs) Q s:=
 wpAny_newObj_type (h _ _ (aa.freeze (S.push (pX T) x fun B k=>⟨vs,0,rfl,hl,hr B k⟩) .here)) (by show vs.toArray.size≤sizeLine;rw[List.size_toArray];exact hsz)
theorem aa.gB{α:Type}{T:Ty α}{a:Addr}{xs:List α}{x:α}{v:Value}{Q:Value→Shared→Prop}(S:aa c L V G s)(hm:bA G (.ow (own a (ai T) xs)) R)(hx:∀B,Kh R B→T.rel B v x)(hsz:xs.length≤1000000)
 (h:∀s',aa c L V (.ow (own a (ai T) (xs++[x]))::R) s'→Q .none s'):Wp c A (call (.builtin "list.append") [.ref a,v]) Q s:=by
 refine av (S.aQ (hm.perm.mem_iff.mpr (.head _))) fun vs n e hl S'=>?_
 refine wpAny_list_append_plain ⟨n,e⟩ (fun h' hl hs=>h _ ?_) (by rw[List.size_toArray,hl];unfold sizeLine;lia)
 obtain⟨n',e'⟩:=hl
 have S2:=S'.turn (tk:=s.toks) (.there hm) (ai T) (xs++[x]) hs e' fun B o ν k ν=>⟨vs++[v],n',by simp,az.snoc (k.at (.head _):az (T.rel B) vs xs) (hx B fun q hq=>k q (.tail _ hq))⟩
 exact S2.sub (.own .here (.drop .all))
theorem aa.AN{α:Type}{T:Ty α}{v:Value}{xs:List α}{Q:Value→Shared→Prop}(S:aa c L V G s)(hm: .kn (is (Ty.list T) v xs)∈G)(hsz:xs.length≤1000000)(h:∀t s',aa c L V G s'→Q (.int xs.length t) s'):
 Wp c A (call (.builtin "len") [v]) Q s:=by
 refine aj (S.inst hm) fun B π31 hk=>?_;obtain⟨a,o,rfl,_,ho,vs,n,rfl,r⟩:=π31
 refine len_list (aA (hk _ _ ho)) (by rw[List.size_toArray,r.length];exact ω15 hsz rfl) ?_
 rw[List.size_toArray,r.length]
 exact h _ _ (S.toks (ht:=by lia))
theorem aa.Af{α:Type}{T:Ty α}{a:Addr}{xs:List α}{Q:Value→Shared→Prop}(S:aa c L V G s)(hm: .ow (own a (ai T) xs)∈G)(hsz:xs.length≤1000000)(h:∀t s',aa c L V G s'→Q (.int xs.length t) s'):
 Wp c A (call (.builtin "len") [.ref a]) Q s:=by
 obtain⟨B,o,ho,⟨vs,n,rfl,r⟩,hk⟩:=S.get hm
 refine len_list (aA ho) (by rw[List.size_toArray,r.length];exact ω15 hsz rfl) ?_
 rw[List.size_toArray,r.length]
 exact h _ _ (S.toks (ht:=by lia))
theorem aa.z9{α:Type}{T:Ty α}{v:Value}{xs:List α}{k:Int}{x:α}{Q:Value→Shared→Prop}(S:aa c L V G s)(hm: .kn (is (Ty.list T) v xs)∈G)(h0:0≤k)(hsz:k<2^63)(hx:xs[k.toNat]?=some x)
 (h:∀v',aa c L V (.kn (is T v' x)::G) s→Q v' s):Wp c A (getItem v (.int k t)) Q s:=by
 refine aj (S.cX hm) fun a π31 ν2=>?_;rcases π31 with rfl
 refine fZ (S.eF hm) fun vs n S'=>?_
 refine aj (S'.dX (.tail _ (.head _)) hx) fun v' hv' S'=>?_
 exact wpAny_getItem_list (aA (S'.aF (.tail _ (.head _)))) h0 hsz (by simpa using hv') (h v' (S'.sub (.kn (.head _) (.drop (.drop (.drop .all))))))
theorem aa.wI{α:Type}{T:Ty α}{v:Value}{xs:List α}{k:Int}{x:α}{Q:Value→Shared→Prop}(S:aa c L V G s)(hm: .kn (is (Ty.list T) v xs)∈G)(h0:k<0)(h1: -(xs.length:Int)≤k)(hsz: -1000≤k)(hx:xs[(k+xs.length).toNat]?=some x)
 (h:∀v',aa c L V (.kn (is T v' x)::G) s→Q v' s):Wp c A (getItem v (.int k t)) Q s:=by
 refine aj (S.cX hm) fun a π31 ν2=>?_;rcases π31 with rfl
 refine fZ (S.eF hm) fun vs n S'=>?_
 have hl:=S'.gC (.tail _ (.head _))
 refine aj (S'.dX (.tail _ (.head _)) hx) fun v' hv' S'=>?_
 exact wpAny_getItem_list_neg (aA (S'.aF (.tail _ (.head _)))) h0 (by rw[List.size_toArray,hl];exact h1) (by exact ω222 hsz rfl) (by rw[List.size_toArray,hl];simpa using hv') (h v' (S'.sub (.kn (.head _) (.drop (.drop (.drop .all))))))
theorem aa.yO{α:Type}{T:Ty α}{a:Addr}{xs:List α}{k:Int}{x:α}{Q:Value→Shared→Prop}(S:aa c L V G s)(hm: .ow (own a (ai T) xs)∈G)(h0:0≤k)(hsz:k<2^63)(hx:xs[k.toNat]?=some x)
 (h:∀v',aa c L V (.kn (is T v' x)::G) s→Q v' s):Wp c A (getItem (.ref a) (.int k t)) Q s:=by
 refine av (S.aQ hm) fun vs n e hl S'=>?_
 refine aj (S'.dX (.head _) hx) fun v' hv' S'=>?_
 exact wpAny_getItem_list (aA e) h0 hsz (by simpa using hv') (h v' (S'.sub (.kn (.head _) (.drop (.drop .all)))))
theorem aa.m8{α:Type}{T:Ty α}{a:Addr}{xs:List α}{k:Int}{x:α}{Q:Value→Shared→Prop}(S:aa c L V G s)(hm: .ow (own a (ai T) xs)∈G)(h0:k<0)(h1: -(xs.length:Int)≤k)(hsz: -1000≤k)(hx:xs[(k+xs.length).toNat]?=some x)
 (h:∀v',aa c L V (.kn (is T v' x)::G) s→Q v' s):Wp c A (getItem (.ref a) (.int k t)) Q s:=by
 refine av (S.aQ hm) fun vs n e hl S'=>?_
 refine aj (S'.dX (.head _) hx) fun v' hv' S'=>?_
 exact wpAny_getItem_list_neg (aA e) h0 (by rw[List.size_toArray,hl];exact h1) (by exact ω222 hsz rfl) (by rw[List.size_toArray,hl];simpa using hv') (h v' (S'.sub (.kn (.head _) (.drop (.drop .all)))))
theorem aa.oY{α:Type}{T:Ty α}{v:Value}{xs:List α}{sl:Addr}{vl vu:Value}{lo hi:Option Int}{Q:Value→Shared→Prop}(S:aa c L V G s)(hm: .kn (is (Ty.list T) v xs)∈G)(hs: .ow (own sl (bE "slice" #[vl,vu,.none]) ())∈G)
 (pl:IsPart vl lo) (pu:IsPart vu hi) (hsz:xs.length≤1000000) (h:∀a s',aa c L V (.ow (own a (ai T) (cut xs lo hi))::G) s'→Q (.ref a) s'):Wp c A (getItem v (.ref sl)) Q s:=by
 refine aj (S.cX hm) fun a π31 ν2=>?_;rcases π31 with rfl
 refine fZ (S.eF hm) fun vs n S'=>?_
 have hl:=S'.gC (.tail _ (.head _))
 refine av (S.get hs) fun B o e π53 ν4=>?_;obtain⟨hc,hd⟩:=π53
 refine wpAny_getItem_list_slice (aA (S'.aF (.head _))) ⟨o,e,hc,hd⟩ pl pu .none (by simp) ?_ (by rw[List.size_toArray,hl];unfold sizeLine;lia)
 rw[lN]
 refine h _ _ ?_
 have S2:=S'.push (tk:=s.toks) (ai T) (cut xs lo hi) (o:=aC (cut vs lo hi) 0) fun B k=>⟨_,0,rfl,az.cut (k.at (.tail _ (.head _)):az (T.rel B) vs xs) lo hi⟩
 exact S2.sub (.own .here (.drop (.drop .all)))
theorem fm{α:Type}{T:Ty α}{v i:Value}{xs:List α}{Q:Value→Shared→Prop}(S:aa c L V G s)(hm: .kn (is (Ty.list T) v xs)∈G)(h:Wp c A (getItem v i) Q s):gk c A v i Q s:=⟨"list",_,slot_list_getitem.lookup,(S.ofList hm).1,h⟩
theorem gi{α:Type}{T:Ty α}{a:Addr}{i:Value}{xs:List α}{Q:Value→Shared→Prop}(S:aa c L V G s)(hm: .ow (own a (ai T) xs)∈G)(h:Wp c A (getItem (.ref a) i) Q s):gk c A (.ref a) i Q s:=⟨"list",_,slot_list_getitem.lookup,(S.fD hm).1,h⟩
theorem iY{α:Type}{T:Row α}{v i:Value}{xs:α}{Q:Value→Shared→Prop}(S:aa c L V G s)(hm: .kn (is (Ty.tup T) v xs)∈G)(h:Wp c A (getItem v i) Q s):gk c A v i Q s:=⟨"tuple",_,slot_tuple_getitem.lookup,(S.AK hm).1,h⟩
theorem qB{β:Type}{T:Ty β}{v i:Value}{xs:List (Tx×β)}{Q:Value→Shared→Prop}(S:aa c L V G s)(hm: .kn (is (Ty.dct c T) v xs)∈G)(h:Wp c A (getItem v i) Q s):gk c A v i Q s:=⟨"dict",_,F.slot_dict_getitem.lookup,(S.g7 hm).1,h⟩
theorem pJ{β:Type}{T:Ty β}{a:Addr}{i:Value}{xs:List (Tx×β)}{Q:Value→Shared→Prop}(S:aa c L V G s)(hm: .ow (own a (aK c T) xs)∈G)(h:Wp c A (getItem (.ref a) i) Q s):gk c A (.ref a) i Q s:=⟨"dict",_,F.slot_dict_getitem.lookup,(S.rj hm).1,h⟩
theorem aa.Ar{α:Type}{T:Ty α}{a b:Addr}{xs ys:List α}{Q:Value→Shared→Prop}(S:aa c L V G s)(hm: .ow (own a (ai T) xs)∈G)(hn: .ow (own b (ai T) ys)∈G)(hsz:xs.length+ys.length≤1000000)
 (h:∀a s',aa c L V (.ow (own a (ai T) (xs++ys))::G) s'→Q (.ref a) s'):Wp c A (binaryOp .Add (.ref a) (.ref b)) Q s:=by
 refine av (S.aQ hm) fun vs n e hl S'=>?_
 refine av (S'.aQ (.tail _ hn)) fun vs' n' e' hl' S'=>?_
 refine P.add_list (n:=n) (n2:=n') e e' (h _ _ ?_) (by rw[List.size_toArray,List.size_toArray,hl,hl'];unfold sizeLine;lia)
 have S2:=S'.push (tk:=s.toks) (ai T) (xs++ys) (o:={cls:=.type "list",data:=.seq (vs.toArray++vs'.toArray)}) fun B k=>⟨vs++vs',0,by simp,az.append (k.at (.tail _ (.head _)):az (T.rel B) vs xs) (k.at (.head _):az (T.rel B) vs' ys)⟩
 exact S2.sub (.own .here (.drop (.drop .all)))
theorem aa.AR{β:Type}{pos:Pos}{Q:Value→Shared→Prop}(T:Ty β)(S:aa c L V G s)(h:∀a s',aa c L V (.ow (own a (aK c T) [])::G) s'→Q (.ref a) s'):Wp c A (eval (.Dict [] [] pos) env) Q s:=by
 refine wpAny_Dict_empty (h _ _ (S.push (aK c T) [] fun B k=>⟨[],?_,.nil⟩))
 refine aj (Heap.dictOf_iff.mp (Heap.DictOf.new (knd:=strKind c.prog c.w) ⟨#[],{}⟩)) fun o ho x=>?_
 have e:(⟨#[],{}⟩:Heap).push {cls:=.type "dict",data:=.dict #[]}=(⟨#[{cls:=.type "dict",data:=.dict #[]}],{}⟩:Heap):=rfl
 rw[e] at ho
 cases ho
 exact x
theorem aa.BL{β:Type}{T:Ty β}{d:Addr}{xs:List (Tx×β)}{k:Tx}{y:β}{v:Value}{Q:Unit→Shared→Prop}(S:aa c L V G s)(hm:bA G (.ow (own d (aK c T) xs)) R)(hy:∀B,Kh R B→T.rel B v y)(hsz:xs.length≤1000000)
 (h:∀s',aa c L V (.ow (own d (aK c T) (put xs k y))::R) s'→Q () s'):Wp c A (setItem (.ref d) (.str (tx k) t) v) Q s:=by
 refine fO (S.gF (hm.perm.mem_iff.mpr (.head _))) fun o kvs e hD hl S'=>?_
 refine wpAny_setItem_pairs (strKind_is _ _ _ _) (aM hD e) (fun h' hd' hs=>h _ ?_) (by rw[hl];unfold sizeLine;lia)
 refine aj (Heap.dictOf_iff.mp hd') fun o' e' x=>?_
 have S2:=S'.turn (tk:=s.toks+1) (.there hm) (aK c T) (put xs k y) hs e' fun B ν ν kh ν=>⟨_,x,kT (kh.at (.head _):az (dc T B) kvs xs) k (hy B fun q hq=>kh q (.tail _ hq))⟩
 exact S2.sub (.own .here (.drop .all))
end
end Mine
namespace Mine
noncomputable def At{α:Type}(G:List Fa)(v:Value)(T:Tb α)(x:α):Prop:=.kn (is (Ty.ref T) v x)∈G∨∃a,v= .ref a∧.ow (own a T x)∈G
theorem At.kn{α:Type}{G:List Fa}{v:Value}{T:Tb α}{x:α}(h: .kn (is (Ty.ref T) v x)∈G):At G v T x:=.inl h
theorem At.ow{α:Type}{G:List Fa}{a:Addr}{T:Tb α}{x:α}(h: .ow (own a T x)∈G):At G (.ref a) T x:=.inr ⟨a,rfl,h⟩
section
variable{c:Cx}{A:Around}{L:Addr}{V V':ay}{G R:List Fa}{s:Shared}{env:Env}{t u:Tok}
theorem aa.look{α:Type}{v:Value}{T:Tb α}{x:α}(S:aa c L V G s)(h:At G v T x):∃a o B,v= .ref a∧(a==sysModules)=false∧s.heap.get? a=some o∧T.rel B o x∧Kh G B∧(∀b o,B b=some o→s.heap.get? b=some o):=by
 rcases h with h|⟨a,rfl,h⟩
 ·obtain⟨B,S⟩:=S
  refine fO (S.know _ (bx.mpr h)) fun a o e n ho r=>?_
  exact⟨a,o,B,e,beq_eq_false_iff_ne.mpr n,S.keep _ _ ho,r,S.know,S.keep⟩
 ·have n:=S.pK h
  refine fO (S.get h) fun B o e r k kp=>?_
  exact⟨a,o,B,rfl,n,e,r,k,kp⟩
theorem aa.seen{α ι:Type}{v:Value}{T:Tb α}{x:α}(S:aa c L V G s)(h:At G v T x)(P:ι→MP)(hp:∀B o,Kh G B→T.rel B o x→(∀a,v= .ref a→s.heap.get? a=some o)→∃i,(P i).p B):∃i,aa c L V (.kn (P i)::G) s:=by
 obtain⟨B,S⟩:=S
 obtain⟨i,hi⟩:∃i,(P i).p B:=by
  rcases h with h|⟨a,rfl,h⟩
  ·refine fO (S.know _ (bx.mpr h)) fun a o e n ho r=>?_
   exact hp B o S.know r fun b eb=>by rw[e] at eb;cases eb;exact S.keep _ _ ho
  ·refine gb (S.own _ (dh.mpr h)) fun o e ν2 ν3 ν4 r=>?_
   exact hp B o S.know r fun b eb=>by cases eb;exact e
 refine⟨i,B,{S with know:=fun k' hk=>?_}⟩
 rcases List.mem_cons.mp hk with rfl|hk
 ·exact hi
 ·exact S.know k' hk
theorem aa.gP{α:Type}{T:Ty α}{v:Value}{xs:List α}(S:aa c L V G s)(h:At G v (ai T) xs):
 ∃a vs n,v= .ref a∧(a==sysModules)=false∧s.heap.get? a=some (aC vs n)∧vs.length=xs.length∧aa c L V (.kn (rows T vs xs)::G) s:=by
 obtain⟨a,o,B,rfl,hn,ho,⟨vs,n,rfl,r⟩,_⟩:=S.look h
 obtain⟨_,S'⟩:=S.seen h (fun ν:Unit=>rows T vs xs) fun B' o' ν ⟨vs',n',e',r'⟩ he=>by
  have:=he a rfl
  rw[ho] at this;cases this
  cases e'
  exact⟨(),r'⟩
 exact⟨a,vs,n,rfl,hn,ho,r.length,S'⟩
theorem aa.mY{β:Type}{T:Ty β}{v:Value}{xs:List (Tx×β)}(S:aa c L V G s)(h:At G v (aK c T) xs):
 ∃a o kvs,v= .ref a∧(a==sysModules)=false∧s.heap.get? a=some o∧o.IsDictOf (strKind c.prog c.w) kvs∧kvs.length=xs.length∧aa c L V (.kn (prs T kvs xs)::G) s:=by
 rcases h with h|⟨a,rfl,h⟩
 ·refine aj (S.cX h) fun a π31 hn=>?_;rcases π31 with rfl
  refine gJ (S.gx h) fun o kvs ep hD S'=>?_
  have hl:kvs.length=xs.length:=S'.fact fun ν k ν=>(k.at (.tail _ (.head _)):az _ kvs xs).length
  obtain⟨es,hD'⟩:=hD
  exact⟨a,o,kvs,rfl,hn,S'.aF (.head _),⟨es,ep,hD'⟩,hl,S'.sub (.kn (.tail _ (.head _)) (.drop (.drop .all)))⟩
 ·refine fO (S.gF h) fun o kvs e hD hl S'=>?_
  exact⟨a,o,kvs,rfl,S.pK h,e,hD,hl,S'⟩
theorem fj{vs:List Value}(h:vs.length=1):∃a,vs=[a]:=List.length_eq_one_iff.mp h
theorem jN{vs:List Value}{n:Nat}(h:vs.length=n+1):∃a r,vs=a::r∧r.length=n:=by
 cases vs with
 |nil=>cases h
 |cons a r=>exact⟨a,r,rfl,Nat.succ.inj h⟩
theorem oq{vs:List Value}(h:vs.length=2):∃a b,vs=[a,b]:=by
 refine aB (jN h) fun a r π42 h2=>?_;rcases π42 with rfl
 obtain⟨b,rfl⟩:=fj h2
 exact⟨a,b,rfl⟩
theorem ya{vs:List Value}(h:vs.length=3):∃a b d,vs=[a,b,d]:=by
 refine aB (jN h) fun a r π42 h2=>?_;rcases π42 with rfl
 refine fZ (oq h2) fun b d π32=>?_;rcases π32 with rfl
 exact⟨a,b,d,rfl⟩
theorem rq{vs:List Value}(h:vs.length=4):∃a b d e,vs=[a,b,d,e]:=by
 refine aB (jN h) fun a r π42 h2=>?_;rcases π42 with rfl
 refine AA (ya h2) fun b d e π43=>?_;rcases π43 with rfl
 exact⟨a,b,d,e,rfl⟩
theorem rg{vs:List Value}(h:vs.length=5):∃a b d e f,vs=[a,b,d,e,f]:=by
 refine aB (jN h) fun a r π42 h2=>?_;rcases π42 with rfl
 refine zx (rq h2) fun b d e f π54=>?_;rcases π54 with rfl
 exact⟨a,b,d,e,f,rfl⟩
theorem aa.mu{α:Type}{T:Row α}{v:Value}{x:α}{elts:List Expr}{x1:Nat}{pos:Pos}{Q:Unit→Shared→Prop}(hh:A.handled=none)(S:aa c L V G s)(h: .kn (is (Ty.tup T) v x)∈G)
 (k:∀vs s',vs.length=T.n→aa c L V ((T.facts vs x).map .kn ++G) s'→Wp c A (assignInOrder ((assignEach elts env).map (·.2)) vs) Q s')
 (hn:autoParam ((assignEach elts env).length =T.n) af) (hst:autoParam ((assignEach elts env).findIdx? (·.1)=none) af):Wp c A (assign (.Tuple elts x1 pos) env v) Q s:=by
 refine gh (S.jQ h) fun a vs n π63 hl S'=>?_;rcases π63 with rfl
 have ho:=S'.aF (.head _)
 refine wpAny_assign_Tuple hh (items:=vs.toArray) ⟨_,ho,rfl,n,rfl⟩ (by rw[hn,List.size_toArray,hl]) hst fun h' he=>k vs _ hl ?_
 exact(S'.sub (.drop .all)).ext iC he
theorem aa.Bm{α β:Type}{T:Ty α}{U:Ty β}{v:Value}{x:α×β}{elts:List Expr}{x1:Nat}{pos:Pos}{Q:Unit→Shared→Prop}(hh:A.handled=none)(S:aa c L V G s)(h: .kn (is (Ty.tup (.cons T (.one U))) v x)∈G)
 (k:∀v1 v2 s',aa c L V (.kn (is T v1 x.1):: .kn (is U v2 x.2)::G) s'→Wp c A (assignInOrder ((assignEach elts env).map (·.2)) [v1,v2]) Q s')
 (hn:autoParam ((assignEach elts env).length =2) af) (hst:autoParam ((assignEach elts env).findIdx? (·.1)=none) af):Wp c A (assign (.Tuple elts x1 pos) env v) Q s:=by
 refine S.mu hh h (fun vs s' hl S'=>?_) hn hst
 refine fZ (oq hl) fun a b π32=>?_;rcases π32 with rfl
 exact k a b s' S'
theorem lF{t:Value→Sem Unit}{ts:List (Value→Sem Unit)}{x:Value}{xs:List Value}{Q:Unit→Shared→Prop}(h:Wp c A (t x) (fun ν s₁=>Wp c A (assignInOrder ts xs) Q s₁) s):Wp c A (assignInOrder (t::ts) (x::xs)) Q s:=assignInOrder_cons h
theorem uX{xs:List Value}{Q:Unit→Shared→Prop}(h:Q () s):Wp c A (assignInOrder [] xs) Q s:=wpAny_pure h
theorem aa.Aw{α:Type}{T:Row α}{v:Value}{x:α}{k:Int}{j:Nat}{Q:Value→Shared→Prop}(S:aa c L V G s)(h: .kn (is (Ty.tup T) v x)∈G)(h1: -2^63≤k)(h2:k<2^63)(hk:seqIndex? k T.n=some j)(hj:j<T.n)
 (hQ:∀vs v' s',vs.length=T.n→vs[j]?=some v'→aa c L V ((T.facts vs x).map .kn ++G) s'→Q v' s'):Wp c A (getItem v (.int k t)) Q s:=by
 refine gh (S.jQ h) fun a vs n π63 hl S'=>?_;rcases π63 with rfl
 have ho:=S'.aF (.head _)
 have e:vs[j]?=some vs[j]:=List.getElem?_eq_getElem (by rw[hl];exact hj)
 refine PyProof.Rows.getItem_tuple (items:=vs.toArray) (j:=j) ⟨_,ho,rfl,n,rfl⟩ h1 h2 (by rw[List.size_toArray,hl];exact hk) (by simpa using e) (hQ vs _ _ hl e (S'.sub (.drop .all)))
structure g9{α:Type}[DecidableEq α](T:Ty α)(n:Nat):Prop where
 eq:∀{A:Around} {s:Shared} {B:Mem} {v w:Value} {x y:α},A.units+n<cLine→(∀b o,B b=some o→s.heap.get? b=some o)→T.rel B v x→T.rel B w y→SeqAt.EqAt A s v w (decide (x=y))
 fn:∀{B:Mem} {v:Value} {x y:α},T.rel B v x→T.rel B v y→x=y
theorem eqStr{n:Nat}:g9 ah n where
 eq:=by
  intro A s B v w x y _ _ υ9 υ10;obtain⟨t,rfl⟩:=υ9;obtain⟨u,rfl⟩:=υ10
  have:=SeqAt.EqAt.str_str (A:=A) (s:=s) (tx x) t (tx y) u
  rwa [show(tx x==tx y)=decide (x=y) from by
   by_cases e:x=y
   ·subst e;simp
   ·have:tx x≠tx y:=fun q=>e (dM q)
    simp[this,e]] at this
 fn:=by intro B v x y υ4 υ5;obtain⟨t,rfl⟩:=υ4;obtain⟨u,e⟩:=υ5;simp only[Value.str.injEq] at e;exact dM e.1
theorem l9{n:Nat}:g9 ao n where
 eq:=by
  intro A s B v w x y _ _ υ9 υ10;obtain⟨t,rfl⟩:=υ9;obtain⟨u,rfl⟩:=υ10
  have:=SeqAt.EqAt.int_int (A:=A) (s:=s) x t y u
  rwa [show(x==y)=decide (x=y) from rfl] at this
 fn:=by intro B v x y υ4 υ5;obtain⟨t,rfl⟩:=υ4;obtain⟨u,e⟩:=υ5;simp only[Value.int.injEq] at e;exact e.1
theorem az.fn{α β:Type}{r:α→β→Prop}(hr:∀a b b',r a b→r a b'→b=b'){l:List α}{m m':List β}(h:az r l m)(h':az r l m'):m=m':=by
 induction h generalizing m' with
 |nil=>cases h';rfl
 |cons h _ ih=>cases h' with
  |cons h2 t=>rw[hr _ _ _ h h2,ih t]
theorem iF{α:Type}[DecidableEq α]:∀{x y:List α},x.length=y.length→((List.range x.length).all fun j=>decide (x[j]?=y[j]?))=decide (x=y)
 | [],[],_=>rfl
 |a::x,b::y,h=>by
  have ih:=iF (x:=x) (y:=y) (by simpa using h)
  rw[List.length_cons,List.range_succ_eq_map,List.all_cons,List.all_map]
  have e:((fun j=>decide ((a::x)[j]?=(b::y)[j]?))∘Nat.succ)=fun j=>decide (x[j]?=y[j]?):=by funext j;simp
  rw[e,ih]
  by_cases h1:a=b <;> by_cases h2:x=y <;> simp[h1,h2]
theorem s8{α:Type}[DecidableEq α]{T:Ty α}{n:Nat}(hT:g9 T n){B:Mem}(hB:∀b o,B b=some o→s.heap.get? b=some o)(hu:A.units+n<cLine){vs ws:List Value}{x y:List α}(h1:az (T.rel B) vs x)(h2:az (T.rel B) ws y)
 {j:Nat} (a1:j<vs.toArray.size) (a2:j<ws.toArray.size):SeqAt.EqAt A s vs.toArray[j] ws.toArray[j] (decide (x[j]?=y[j]?)):=by
 refine aj (h1.at' (i:=j) (a:=vs.toArray[j]) (by simp)) fun b e1 r1=>?_
 refine aj (h2.at' (i:=j) (a:=ws.toArray[j]) (by simp)) fun b' e2 r2=>?_
 have:=hT.eq hu hB r1 r2
 rw[e1,e2]
 simpa using this
theorem mD{α:Type}[DecidableEq α]{T:Ty α}{n:Nat}(hT:g9 T n){B:Mem}(hB:∀b o,B b=some o→s.heap.get? b=some o)(hu:A.units+(n+1)<cLine){a b:Addr}{vs ws:List Value}{k k':Nat}{x y:List α}
 (ha:s.heap.get? a=some (aC vs k)) (hb:s.heap.get? b=some (aC ws k')) (h1:az (T.rel B) vs x) (h2:az (T.rel B) ws y):SeqAt.RcAt A s (.ref a) (.ref b) (decide (x=y))∧SeqAt.RcNeAt A s (.ref a) (.ref b) (!decide (x=y)):=by
 have hl:s.heap.IsList a vs.toArray:=⟨_,ha,rfl,k,rfl⟩
 have hl':s.heap.IsList b ws.toArray:=⟨_,hb,rfl,k',rfl⟩
 by_cases hsz:vs.length=ws.length
 ·have hxy:x.length=y.length:=by rw[←h1.length,←h2.length,hsz]
  have key:∀j (a1:j<vs.toArray.size) (a2:j<ws.toArray.size),SeqAt.EqAt A.in1 s vs.toArray[j] ws.toArray[j] (decide (x[j]?=y[j]?)):=fun j a1 a2=>s8 hT hB (by show A.units+1+n<_;exact ω77 hu) h1 h2 a1 a2
  have e:=iF hxy
  rw[←h1.length] at e
  have g1:=SeqAt.RcAt.lists (A:=A) (e:=fun j=>decide (x[j]?=y[j]?)) hl hl' (by simpa using hsz) (by exact ω75 hu) key
  have g2:=SeqAt.RcNeAt.lists (A:=A) (e:=fun j=>decide (x[j]?=y[j]?)) hl hl' (by simpa using hsz) (by exact ω75 hu) key
  rw[List.size_toArray,e] at g1 g2
  exact⟨g1,g2⟩
 ·have hxy:x≠y:=by intro υ0;obtain rfl:=υ0;exact hsz (by rw[h1.length,h2.length])
  have hb':(vs.toArray.size !=ws.toArray.size)=true:=by simpa using hsz
  rw[show decide (x=y)=false from by simp[hxy]]
  exact⟨SeqAt.RcAt.lists_lengths hl hl' hb' (by exact ω75 hu),SeqAt.RcNeAt.lists_lengths hl hl' hb' (by exact ω75 hu)⟩
theorem uA{α:Type}[DecidableEq α]{T:Ty α}{n:Nat}(hT:g9 T n):g9 (Ty.list T) (n+1) where
 eq:=by
  intro A s B v w x y hu hB υ9 υ10;obtain⟨a,o,rfl,_,ha,vs,k,rfl,r⟩:=υ9;obtain⟨b,o',rfl,_,hb,ws,k',rfl,r'⟩:=υ10
  by_cases e:a=b
  ·subst e
   rw[ha] at hb
   have hv:vs=ws:=by simp at hb;exact hb.1
   subst hv
   have:x=y:=az.fn (r:=T.rel B) (fun ν ν ν h h'=>hT.fn h h') r r'
   rw[show decide (x=y)=true from by simp[this]]
   exact SeqAt.EqAt.same _
  ·exact .of_refs e (mD hT hB hu (hB _ _ ha) (hB _ _ hb) r r').1
 fn:=by
  intro B v x y υ4 υ5;obtain⟨a,o,rfl,_,ha,vs,k,rfl,r⟩:=υ4;obtain⟨b,o',e,_,hb,ws,k',rfl,r'⟩:=υ5
  cases e
  rw[ha] at hb
  have hv:vs=ws:=by simp at hb;exact hb.1
  subst hv
  exact az.fn (r:=T.rel B) (fun ν ν ν h h'=>hT.fn h h') r r'
structure kj{α:Type}[DecidableEq α](R:Row α)(n:Nat):Prop where
 eq:∀{A:Around} {s:Shared} {B:Mem} {vs ws:List Value} {x y:α},A.units+n<cLine→(∀b o,B b=some o→s.heap.get? b=some o)→vs.length=R.n→ws.length=R.n→AllP (R.facts vs x) B→AllP (R.facts ws y) B→
  ∃e:Nat→Bool,(∀j v w,vs[j]?=some v→ws[j]?=some w→SeqAt.EqAt A s v w (e j))∧(List.range R.n).all e=decide (x=y)
 fn:∀{B:Mem} {vs:List Value} {x y:α},vs.length=R.n→AllP (R.facts vs x) B→AllP (R.facts vs y) B→x=y
theorem pI{α:Type}[DecidableEq α]{T:Ty α}{n:Nat}(hT:g9 T n):kj (.one T) n where
 eq:=by
  intro A s B vs ws x y hu hB l l' h h'
  obtain⟨v,rfl⟩:=fj l
  obtain⟨w,rfl⟩:=fj l'
  refine⟨fun ν=>decide (x=y),fun j v' w' e e'=>?_,by simp[Row.one]⟩
  cases j with
  |zero=>cases e;cases e';exact hT.eq hu hB h.1 h'.1
  |succ j=>cases e
 fn:=by
  intro B vs x y l h h'
  obtain⟨v,rfl⟩:=fj l
  exact hT.fn h.1 h'.1
theorem gu{α β:Type}[DecidableEq α][DecidableEq β]{T:Ty α}{R:Row β}{n:Nat}(hT:g9 T n)(hR:kj R n):kj (.cons T R) n where
 eq:=by
  intro A s B vs ws x y hu hB l l' h h'
  match vs,ws,l,l' with
  |v::vs,w::ws,l,l'=>
   refine aj (hR.eq (A:=A) (s:=s) hu hB (Nat.succ.inj l) (Nat.succ.inj l') h.2 h'.2) fun e he hall=>?_
   refine⟨fun j=>match j with |0=>decide (x.1=y.1)|j+1=>e j,fun j v' w' e1 e2=>?_,?_⟩
   ·cases j with
    |zero=>cases e1;cases e2;exact hT.eq hu hB h.1 h'.1
    |succ j=>exact he j v' w' e1 e2
   ·show(List.range (R.n+1)).all _=_
    rw[List.range_succ_eq_map,List.all_cons,List.all_map]
    have e3:((fun j=>match j with |0=>decide (x.1=y.1)|j+1=>e j)∘Nat.succ)=e:=by funext j;rfl
    rw[e3,hall]
    obtain⟨x1,x2⟩:=x
    obtain⟨y1,y2⟩:=y
    by_cases h1:x1=y1 <;> by_cases h2:x2=y2 <;> simp[h1,h2]
 fn:=by
  intro B vs x y l h h'
  match vs,l with
  |v::vs,l=>exact Prod.ext (hT.fn h.1 h'.1) (hR.fn (Nat.succ.inj l) h.2 h'.2)
theorem qe{α:Type}[DecidableEq α]{R:Row α}{n:Nat}(hR:kj R n){B:Mem}(hB:∀b o,B b=some o→s.heap.get? b=some o)(hu:A.units+(n+1)<cLine){a b:Addr}{vs ws:List Value}{k k':Nat}{x y:α}
 (ha:s.heap.get? a=some (om vs k)) (hb:s.heap.get? b=some (om ws k')) (l:vs.length=R.n) (l':ws.length=R.n) (h1:AllP (R.facts vs x) B) (h2:AllP (R.facts ws y) B):SeqAt.RcAt A s (.ref a) (.ref b) (decide (x=y))∧SeqAt.RcNeAt A s (.ref a) (.ref b) (!decide (x=y)):=by
 have hl:s.heap.IsTuple a vs.toArray:=⟨_,ha,rfl,k,rfl⟩
 have hl':s.heap.IsTuple b ws.toArray:=⟨_,hb,rfl,k',rfl⟩
 refine aj (hR.eq (A:=A.in1) (s:=s) (by show A.units+1+n<_;exact ω77 hu) hB l l' h1 h2) fun e he hall=>?_
 have key:∀j (a1:j<vs.toArray.size) (a2:j<ws.toArray.size),SeqAt.EqAt A.in1 s vs.toArray[j] ws.toArray[j] (e j):=fun j a1 a2=>he j _ _ (by simp) (by simp)
 have g1:=SeqAt.RcAt.tuples (A:=A) (e:=e) hl hl' (by exact ω75 hu) key
 have g2:=SeqAt.RcNeAt.tuples (A:=A) (e:=e) hl hl' (by exact ω75 hu) key
 rw[List.size_toArray,List.size_toArray,l,l',Nat.min_self,hall,beq_self_eq_true,Bool.and_true] at g1 g2
 exact⟨g1,g2⟩
theorem rS{α:Type}[DecidableEq α]{R:Row α}{n:Nat}(hR:kj R n):g9 (Ty.tup R) (n+1) where
 eq:=by
  intro A s B v w x y hu hB υ9 υ10;obtain⟨a,o,rfl,_,ha,vs,k,rfl,l,r⟩:=υ9;obtain⟨b,o',rfl,_,hb,ws,k',rfl,l',r'⟩:=υ10
  by_cases e:a=b
  ·subst e
   rw[ha] at hb
   have hv:vs=ws:=by simp at hb;exact hb.1
   subst hv
   have:x=y:=hR.fn l r r'
   rw[show decide (x=y)=true from by simp[this]]
   exact SeqAt.EqAt.same _
  ·exact .of_refs e (qe hR hB hu (hB _ _ ha) (hB _ _ hb) l l' r r').1
 fn:=by
  intro B v x y υ4 υ5;obtain⟨a,o,rfl,_,ha,vs,k,rfl,l,r⟩:=υ4;obtain⟨b,o',e,_,hb,ws,k',rfl,l',r'⟩:=υ5
  cases e
  rw[ha] at hb
  have hv:vs=ws:=by simp at hb;exact hb.1
  subst hv
  exact hR.fn l r r'
theorem aa.Aa{α:Type}[DecidableEq α]{T:Ty α}{n:Nat}(hT:g9 T n){v w:Value}{x y:List α}(S:aa c L V G s)(h:At G v (ai T) x)(h':At G w (ai T) y)(hu:A.units+(n+1)<cLine):
 SeqAt.RcAt A s v w (decide (x=y))∧SeqAt.RcNeAt A s v w (!decide (x=y)):=by
 refine jH (S.gP h) fun a vs k π83 ν4 e ν6 S=>?_;rcases π83 with rfl
 have h'2:At (.kn (rows T vs x)::G) w (ai T) y:=h'.elim (fun h=>.inl (.tail _ h)) fun⟨a,e,h⟩=>.inr ⟨a,e,.tail _ h⟩
 refine jH (S.gP h'2) fun b ws k' π83 ν4 e' ν6 S=>?_;rcases π83 with rfl
 obtain⟨B,S⟩:=S
 exact mD hT S.keep hu e e' (S.know _ (.tail _ (.head _))) (S.know _ (.head _))
theorem aa.BV{α:Type}[DecidableEq α]{R:Row α}{n:Nat}(hR:kj R n){v w:Value}{x y:α}(S:aa c L V G s)(h: .kn (is (Ty.tup R) v x)∈G)(h': .kn (is (Ty.tup R) w y)∈G)(hu:A.units+(n+1)<cLine):
 SeqAt.RcAt A s v w (decide (x=y))∧SeqAt.RcNeAt A s v w (!decide (x=y)):=by
 obtain⟨B,S⟩:=S
 obtain⟨a,o,rfl,_,ha,vs,k,rfl,l,r⟩:=S.know _ (bx.mpr h)
 obtain⟨b,o',rfl,_,hb,ws,k',rfl,l',r'⟩:=S.know _ (bx.mpr h')
 exact qe hR S.keep hu (S.keep _ _ ha) (S.keep _ _ hb) l l' r r'
theorem xh{α:Type}[DecidableEq α]{T:Ty α}{n:Nat}(hT:g9 T n){B:Mem}{vs:List Value}{xs:List α}{w:Value}{y:α}(h:az (T.rel B) vs xs):∃e:Value→Bool,(∀v∈vs,∃x,T.rel B v x∧e v=decide (x=y))∧vs.any e=decide (y∈xs):=by
 classical
 refine⟨fun v=>if hx:∃x,T.rel B v x then decide (hx.choose=y) else false,fun v hv=>?_,?_⟩
 ·obtain⟨i,hi⟩:=List.getElem?_of_mem hv
  refine aj (h.at' hi) fun x ν1 r=>?_
  have hx:∃x,T.rel B v x:=⟨x,r⟩
  refine⟨x,r,?_⟩
  have:hx.choose=x:=hT.fn hx.choose_spec r
  show(if hx:∃x,T.rel B v x then decide (hx.choose=y) else false)=_
  rw[dif_pos hx,this]
 ·induction h with
  |nil=>rfl
  |cons h _ ih=>
   rename_i a b as bs _
   have hx:∃x,T.rel B a x:=⟨b,h⟩
   have:hx.choose=b:=hT.fn hx.choose_spec h
   rw[List.any_cons,ih,dif_pos hx,this]
   by_cases e:b=y
   ·simp[e]
   ·have e':¬y=b:=fun q=>e q.symm
    simp[e,e']
theorem aa.yW{α:Type}[DecidableEq α]{T:Ty α}{n:Nat}(hT:g9 T n){v w:Value}{xs:List α}{y:α}(S:aa c L V G s)(h:At G v (ai T) xs)(hy: .kn (is T w y)∈G)(hu:A.units+(n+1)<cLine){Q:Value→Shared→Prop}
 (hQ:Q (.bool (!decide (y∈xs))) s):Wp c A (compareOp .NotIn w v) Q s:=by
 refine jH (S.gP h) fun a vs k π83 ν4 e ν6 S=>?_;rcases π83 with rfl
 obtain⟨B,S⟩:=S
 have r:az (T.rel B) vs xs:=S.know _ (.head _)
 have ry:T.rel B w y:=S.know _ (.tail _ (bx.mpr hy))
 refine aj (xh hT (w:=w) (y:=y) r) fun f hf hany=>?_
 refine SeqAt.notIn_listAt f ⟨_,e,rfl,k,rfl⟩ (fun z hz=>?_) (by rw[List.any_toArray,hany];exact hQ)
 refine aj (hf z (by simpa using hz)) fun x rx ef=>?_
 rw[ef]
 exact hT.eq (by show A.units+1+n<_;exact ω77 hu) S.keep rx ry
theorem vU{β:Type}{T:Ty β}{B:Mem}{kvs:List (Str×Value)}{xs:List (Tx×β)}(h:az (dc T B) kvs xs)(k:Tx):(valueAt kvs (tx k)).isSome =(at' xs k).isSome:=by
 rcases nP h k with⟨v,y,h1,h2,_⟩|⟨h1,h2⟩ <;> rw[h1,h2] <;> rfl
theorem aa.Cb{β:Type}{T:Ty β}{v:Value}{xs:List (Tx×β)}{k:Tx}{Q:Value→Shared→Prop}(S:aa c L V G s)(hm:At G v (aK c T) xs)(h:∀s',aa c L V G s'→Q (.bool (at' xs k).isSome) s'):Wp c A (compareOp .In (.str (tx k) t) v) Q s:=by
 refine tD (S.mY hm) fun a o kvs π93 hn e hD ν7 S'=>?_;rcases π93 with rfl
 have hs:(valueAt kvs (tx k)).isSome =(at' xs k).isSome:=S'.fact fun B kh ν=>vU (kh.at (.head _):az (dc T B) kvs xs) k
 refine wpAny_in_of (strKind_is _ _ _ _) hn (aM hD e).mapOf ?_
 rw[hs]
 exact h _ S.toks
theorem aa.zT{β:Type}{T:Ty β}{v:Value}{xs:List (Tx×β)}{k:Tx}{y:β}{Q:Value→Shared→Prop}(S:aa c L V G s)(hm:At G v (aK c T) xs)(hx:at' xs k=some y)
 (h:∀v s',aa c L V (.kn (is T v y)::G) s'→Q v s'):Wp c A (getItem v (.str (tx k) t)) Q s:=by
 refine tD (S.mY hm) fun a o kvs π93 hn e hD ν7 S'=>?_;rcases π93 with rfl
 obtain⟨v,S2⟩:=S'.ex (fun v=>⟨fun B=>valueAt kvs (tx k)=some v∧T.rel B v y,fun h r=>⟨r.1,T.up h r.2⟩⟩) fun B kh=>by
  rcases nP (kh.at (.head _):az (dc T B) kvs xs) k with⟨v,y',h1,h2,h3⟩|⟨_,h2⟩
  ·rw[hx] at h2;cases h2;exact⟨v,h1,h3⟩
  ·rw[hx] at h2;cases h2
 have h1:valueAt kvs (tx k)=some v:=S2.fact fun B kh ν=>(kh.at (.head _)).1
 have S3:=(S2.add (is T v y) fun B kh=>(kh.at (.head _)).2).sub (.kn (.head _) (.drop (.drop (.drop .all))))
 exact wpAny_getItem_of (strKind_is _ _ _ _) (aM hD e).mapOf h1 (h _ _ S3.toks)
theorem aa.AE{β:Type}{T:Ty β}{v d:Value}{xs:List (Tx×β)}{k:Tx}{y:β}{Q:Value→Shared→Prop}(S:aa c L V G s)(hm:At G v (aK c T) xs)(hd: .kn (is T d y)∈G)
 (h:∀v s',aa c L V (.kn (is T v ((at' xs k).getD y))::G) s'→Q v s'):Wp c A (call (.builtin "dict.get") [v,.str (tx k) t,d]) Q s:=by
 refine tD (S.mY hm) fun a o kvs π93 hn e hD ν7 S'=>?_;rcases π93 with rfl
 have hk:=strKind_is c.prog c.w (tx k) t
 have hmap:=(aM hD e).mapOf
 obtain⟨v,S2⟩:=S'.ex (fun v=>⟨fun B=>(valueAt kvs (tx k)).getD d=v∧T.rel B v ((at' xs k).getD y),fun h r=>⟨r.1,T.up h r.2⟩⟩) fun B kh=>by
  rcases nP (kh.at (.head _):az (dc T B) kvs xs) k with⟨v,y',h1,h2,h3⟩|⟨h1,h2⟩
  ·rw[h1,h2];exact⟨v,rfl,h3⟩
  ·rw[h1,h2];exact⟨d,rfl,kh.at (.tail _ hd)⟩
 have h1:(valueAt kvs (tx k)).getD d=v:=S2.fact fun B kh ν=>(kh.at (.head _)).1
 have S3:=(S2.add (is T v ((at' xs k).getD y)) fun B kh=>(kh.at (.head _)).2).sub (.kn (.head _) (.drop (.drop (.drop .all))))
 refine call_meetsIn F.slot_dict_get (aM hD e).typeIs F.entry_dict_get (F.args_dict_get_3 _ _ _) (meets_dict_get_default (strKind c.prog c.w) a hk hn d) ⟨_,hmap,?_⟩
 rw[h1]
 exact h _ _ S3.toks
theorem sE{i:Int}{Q:Value→Shared→Prop}(S:aa c L V G s)(h:∀s',aa c L V G s'→Q (.bool false) s'):Wp c A (call (.builtin "isinstance") [.int i u,.type "tuple"]) Q s:=IsiPair.int_tuple (h _ S.toks)
end
end Mine
set_option tactic.hygienic false
namespace Mine
theorem p7{p q:Prop}(h:p):if true=true then p else q:=h
theorem tu{p q:Prop}(h:q):if false=true then p else q:=h
theorem B7{k:Int}{n:Nat}(h0:0≤k)(h1:k<n):seqIndex? k n=some k.toNat:=by
 unfold seqIndex?
 have e:(if k<0 then k+n else k)=k:=by split <;> omega
 rw[e]
 simp[h0,h1]
theorem Bw{k:Int}{n:Nat}(h0:k<0)(h1:0≤k+n):seqIndex? k n=some (k+n).toNat:=by
 unfold seqIndex?
 have e:(if k<0 then k+n else k)=k+n:=by split <;> lia
 rw[e]
 simp[h1];lia
section
variable{c:Cx}{A:Around}{L:Addr}{V V':ay}{G R:List Fa}{s:Shared}{env:Env}{t u:Tok}
theorem aa.isInt{v:Value}{x:Int}(S:aa c L V G s)(h: .kn (is ao v x)∈G):∃t,v= .int x t:=S.fact fun ν k ν=>k.at h
theorem aa.isStr{v:Value}{x:Tx}(S:aa c L V G s)(h: .kn (is ah v x)∈G):∃t,v= .str (tx x) t:=S.fact fun ν k ν=>k.at h
theorem aa.sY{x:Int}{t:Tok}(S:aa c L V G s):aa c L V (.kn (is ao (.int x t) x)::G) s:=S.add _ fun ν ν=>⟨_,rfl⟩
theorem aa.wO{x:Tx}{t:Tok}(S:aa c L V G s):aa c L V (.kn (is ah (.str (tx x) t) x)::G) s:=S.add _ fun ν ν=>⟨_,rfl⟩
theorem As{i:Int}{k:Nat}{p pos:Pos}{Q:Value→Shared→Prop}(S:aa c L V G s)(h:∀t s',aa c L V G s'→Q (.int (-i) t) s'):Wp c A (eval (.UnaryOp .USub (.Constant (.int i) k p) pos) env) Q s:=
 UnaryOp_ (S.jj fun ν ν S=>PyProof.Rows.neg_int (h _ _ S.toks))
theorem yo{Q:Value→Shared→Prop}(h:Q .none s):Wp c A (evalPart none env) Q s:=by rw[evalPart_none];exact wpAny_pure h
theorem yE{e:Expr}{Q:Value→Shared→Prop}(h:Wp c A (eval e env) Q s):Wp c A (evalPart (some e) env) Q s:=wpAny_evalPart_some h
theorem jt{e:Expr}{pos:Pos}{Q:Flow→Shared→Prop}(h:Wp c A (eval e env) (fun v s'=>v= .none∧Q .next s') s)(h1:autoParam (interactive env=false) af)(h2:autoParam (swapsWith e none pos.line env=pure false) af):Wp c A (exec (.Expr e pos) env) Q s:=
 wpAny_Expr (wpAny_mono h (fun v s' ⟨e,h⟩=>by subst e;exact h) fun ν ν x=>x) h1 h2
theorem join{st:Stmt}{rest:List Stmt}{Q:Flow→Shared→Prop}(mid:Shared→Prop)(h:Wp c A (exec st env) (fun f s'=>f= .next∧mid s') s)(k:∀s',mid s'→Wp c A (execs rest env) Q s'):Wp c A (execs (st::rest) env) Q s:=
 wpAny_execs_cons (wpAny_mono h (fun f s' ⟨e,h⟩=>by subst e;exact k s' h) fun ν ν x=>x)
theorem cS:oM "list" "append" "list.append":=⟨F.plainAttrs_list,F.slot_list_append,F.type_list_append⟩
theorem qL:oM "list" "pop" "list.pop":=⟨F.plainAttrs_list,F.slot_list_pop,F.type_list_pop⟩
theorem pY:oM "list" "sort" "list.sort":=⟨F.plainAttrs_list,F.slot_list_sort,F.type_list_sort⟩
theorem nT:oM "list" "index" "list.index":=⟨F.plainAttrs_list,F.slot_list_index,F.type_list_index⟩
theorem k9:oM "dict" "get" "dict.get":=⟨F.plainAttrs_dict,F.slot_dict_get,F.type_dict_get⟩
theorem cC:oM "str" "count" "str.count":=⟨F.plainAttrs_str,F.slot_str_count,F.type_str_count⟩
theorem cB:oM "str" "split" "str.split":=⟨F.plainAttrs_str,F.slot_str_split,F.type_str_split⟩
theorem n7:oM "str" "rsplit" "str.rsplit":=⟨F.plainAttrs_str,F.slot_str_rsplit,F.type_str_rsplit⟩
theorem dZ:oM "str" "replace" "str.replace":=⟨F.plainAttrs_str,F.slot_str_replace,F.type_str_replace⟩
theorem g8:oM "str" "join" "str.join":=⟨F.plainAttrs_str,F.slot_str_join,F.type_str_join⟩
theorem tT:oM "set" "add" "set.add":=⟨F.plainAttrs_set,F.slot_set_add,F.type_set_add⟩
noncomputable def qS(vs:List Value):Row Unit:=⟨vs.length,fun ws ν=>[⟨fun ν=>ws=vs,fun ν h=>h⟩]⟩
theorem aa.qC{vs:List Value}{Q:Value→Shared→Prop}(S:aa c L V G s)(hsz:vs.length≤sizeLine)(h:∀v s',aa c L V (.kn (is (Ty.tup (qS vs)) v ())::G) s'→Q v s'):Wp c A (newTuple vs) Q s:=
 S.AJ (qS vs) () (fun ν ν=>⟨rfl,trivial⟩) rfl hsz h
theorem aa.ja{vs:List Value}{n:Nat}{v:Value}{Q:List Value→Shared→Prop}(hh:A.handled=none)(S:aa c L V G s)(h: .kn (is (Ty.tup (qS vs)) v ())∈G)(hn:n=vs.length)(k:∀s',aa c L V G s'→Q vs s'):Wp c A (unpackItems v n none) Q s:=by
 subst hn
 refine gh (S.jQ h) fun a ws m π63 hl S'=>?_;rcases π63 with rfl
 have e:ws=vs:=S'.fact fun B kh ν=>(kh.at (k:=⟨fun ν=>ws=vs,fun ν h=>h⟩) (.tail _ (List.mem_append_left _ (List.mem_map.mpr ⟨_,.head _,rfl⟩))))
 subst e
 have ho:=S'.aF (.head _)
 have:=wpAny_unpackItems_tuple (prog:=c.prog) (w:=c.w) (A:=A) (E:=fun ν ν=>False) (Q:=Q) (s:=s) hh (t:=a) (items:=ws.toArray) ⟨_,ho,rfl,m,rfl⟩ fun h' he=>k _ (S.ext iC he)
 rwa [List.size_toArray] at this
theorem aa.BN{α β:Type}{T:Ty α}{W:Row β}{v:Value}{x:α×β}{Q:Value→Shared→Prop}(S:aa c L V G s)(h: .kn (is (Ty.tup (.cons T W)) v x)∈G)(hQ:∀v' s',aa c L V (.kn (is T v' x.1)::G) s'→Q v' s'):Wp c A (getItem v (.int 0 t)) Q s:=
 S.Aw (T:=.cons T W) (x:=x) (k:=0) (j:=0) h (by lia) (by lia) (B7 (by lia) (by show(0:Int)<((W.n+1:Nat):Int);lia)) (Nat.succ_pos _) fun vs v' s' hl hv S=>by
  cases vs with
  |nil=>cases hv
  |cons a r=>cases hv;exact hQ _ _ (S.sub (.kn (.head _) (.right .all)))
theorem mw{it l:Addr}{items:Array Value}(hne:l≠it):∀(n i:Nat) (s:Shared) (Q:List Value→Shared→Prop),s.heap.IsListIter it l i→s.heap.IsList l items→i+n≤items.size→
 (∀h',h'.IsListIter it l (i+n)→Heap.SameBut it s.heap h'→Q ((items.toList.drop i).take n) {s with heap:=h'})→Wp c A (draw (.ref it) n) Q s
 |0,i,s,Q,hit,_,_,hQ=>by
  exact wpAny_pure (by simpa using hQ s.heap hit (Heap.SameBut.refl ..))
 |n+1,i,s,Q,hit,hl,hle,hQ=>by
  have hlt:i<items.size:=by lia
  refine wpAny_bind (wpAny_pyNext_list_item hit hl (x:=items[i]) (by simp[hlt]) fun h₁ hit₁ hs₁=>?_)
  have hl₁:h₁.IsList l items:=let⟨o,ho,r⟩:=hl;⟨o,(hs₁.2 _ hne).trans ho,r⟩
  refine wpAny_bind (wpAny_holding (mw hne n (i+1) _ _ hit₁ hl₁ (by lia) fun h₂ hit₂ hs₂=>wpAny_pure ?_))
  have hd:items.toList.drop i=items[i]::items.toList.drop (i+1):=by simp[List.drop_eq_getElem_cons,hlt]
  have:=hQ h₂ (by rw[show i+(n+1)=i+1+n by lia];exact hit₂) (hs₁.trans hs₂)
  rw[hd,List.take_succ_cons] at this
  exact this
theorem jA{l:Addr}{items:Array Value}{n:Nat}{Q:List Value→Shared→Prop}(hh:A.handled=none)(hl:s.heap.IsList l items)(hn:n=items.size)
 (hQ:∀h',Heap.ExtBut s.heap.objs.size s.heap h'→Q items.toList {s with heap:=h'}):Wp c A (unpackItems (.ref l) n none) Q s:=by
 subst hn
 have hlt:l≠s.heap.objs.size:=by refine aj hl fun o ho ν2=>?_;try clear hl;exact Nat.ne_of_lt (Heap.lt_size ho)
 refine wpAny_bind ?_
 refine wpAny_bind (wpAny_specialOf hl.typeIs slot_list_iter.lookup ?_)
 refine wpAny_pure ?_
 rw[if_neg Bool.false_ne_true]
 refine wpAny_bind (wpAny_holding (wpAny_pyIter_list hl ?_))
 have hp:(s.heap.push {cls:=.type "list_iterator",data:=.fields #[.ref l,.int 0 0]}).IsList l items:=let⟨o,ho,r⟩:=hl;⟨o,Heap.get?_push_of_some _ ho,r⟩
 refine wpAny_bind (wpAny_holding (mw hlt items.size 0 _ _ ⟨_,Heap.get?_push_size _ rfl,rfl,rfl⟩ hp (by lia) fun h₁ hit₁ hs₁=>?_))
 have hall:List.take items.size (List.drop 0 items.toList)=items.toList:=by
  rw[List.drop_zero];exact List.take_of_length_le (by simp)
 rw[hall]
 rw[if_neg (by simp)]
 have hl₁:h₁.IsList l items:=let⟨o,ho,r⟩:=hp;⟨o,(hs₁.2 _ hlt).trans ho,r⟩
 refine wpAny_bind (wpAny_holding (wpAny_pyNext_list_end hh hit₁ hl₁ (by simp) fun h₂ he₂=>?_))
 refine wpAny_pure (hQ h₂ fun b o hb e=>he₂ b o hb (hs₁.extBut b o hb (Heap.get?_push_of_some _ e)))
theorem aa.t8{α:Type}{T:Ty α}{v:Value}{xs:List α}{elts:List Expr}{x1:Nat}{pos:Pos}{Q:Unit→Shared→Prop}(hh:A.handled=none)(S:aa c L V G s)(h:At G v (ai T) xs)(hn:(assignEach elts env).length =xs.length)
 (k:∀vs s',vs.length=xs.length→aa c L V (.kn (rows T vs xs)::G) s'→Wp c A (assignInOrder ((assignEach elts env).map (·.2)) vs) Q s') (hst:autoParam ((assignEach elts env).findIdx? (·.1)=none) af):Wp c A (assign (.Tuple elts x1 pos) env v) Q s:=by
 refine jH (S.gP h) fun a vs n π83 ν4 ho hl S'=>?_;rcases π83 with rfl
 rw[arm_assign_Tuple]
 refine wpAny_bind (wpAny_standAt ?_)
 unfold unpack
 rw[hst]
 exact wpAny_bind (wpAny_holding (jA hh (items:=vs.toArray) ⟨_,ho,rfl,n,rfl⟩ (by rw[hn,List.size_toArray,hl]) fun h' he=>k vs _ hl (S'.ext iC he)))
end
end Mine
namespace Mine
section
variable{c:Cx}{A:Around}{L C:Addr}{V V' VC:ay}{G R:List Fa}{s:Shared}{env cenv:Env}{t u:Tok}
theorem aa.swap(S:aa c C VC G s)(h:bA G (.ow (own L bC V)) R)(hab:sysModules<L):aa c L V (.ow (own C bC VC)::R) s:=by
 obtain⟨B,S⟩:=S.front h
 obtain⟨oL,eL,eB,eC,_,m,nL,hf⟩:=S.own _ (.head _)
 refine aj S.loc fun mC hC fC=>?_
 refine aj (vf.of hC) fun oC eoC nC=>?_
 have hnd:=List.nodup_cons.mp S.nodup
 refine⟨B,{S with above:=hab,loc:=⟨m,nL.ns eL,hf⟩,locB:=eB,own:=fun w hw=>?_,nodup:=?_}⟩
 ·rcases List.mem_cons.mp hw with rfl|hw
  ·exact⟨oC,eoC,S.locB,Ne.symm eC,S.zw,mC,nC,fC⟩
  ·refine iy (S.own w (.tail _ hw)) fun o e e1 ν3 e3=>?_
   exact⟨o,e,e1,fun q=>hnd.1 (List.mem_map.mpr ⟨w,hw,q⟩),e3⟩
 ·refine List.nodup_cons.mpr ⟨fun hm=>?_,hnd.2⟩
  refine aj (List.mem_map.mp hm) fun w hw e=>?_
  exact(S.own w (.tail _ hw)).choose_spec.2.2.1 e
noncomputable def bN(ns:List (Str×NameKind)):ay:=cN ns fun ν=>none
theorem aa.newEnv(S:aa c L V G s){scope:Scope}{cl:List (Str×Addr)}{Q:Env→Shared→Prop}(hk:scope.kind= .function)(hn:(scope.names.map (·.1)).Nodup)
 (h:∀C s',aa c C (bN scope.names) (aI (aG (cellsFrom (C+1) scope.names []) (fun ν=>none) scope.names)++ .ow (own L bC V)::G) s'→
   Q (newEnv scope C env.globals (cellsFrom (C+1) scope.names cl) env.qual none .none (some env) builtinsNs) s'):
 Wp c A (newFunctionEnv scope env.globals cl [] env.qual none .none (some env)) Q s:=by
 rw[newFunctionEnv,Option.isSome_some,if_pos rfl];dsimp only
 refine wpAny_bind (wpAny_alloc ?_)
 refine wpAny_bind (wpAny_layCells _ (fun name kind cells=>by cases hkc:kind==NameKind.cell <;> simp[hkc]) _ _ _ _ ?_)
 have ok:=cellsFrom_ok scope.names (s.heap.push {cls:=.type "dict",data:=.dict #[]}) (s.heap.objs.size+1) [] ⟨fun ν ν hm=>(nomatch hm),List.Pairwise.nil⟩ (by rw[Heap.size_push];exact Nat.le_refl _)
 rw[Heap.size_push] at ok
 rw[show({s with heap:=s.heap.push {cls:=.type "dict",data:=.dict #[]}}:Shared).heap.objs.size =s.heap.objs.size+1 from Heap.size_push ..]
 rw[List.forIn_nil]
 refine wpAny_bind (wpAny_pure (wpAny_pure ?_))
 have X:InCallC s s.heap.objs.size (fun ν=>none) (cellsFrom (s.heap.objs.size+1) scope.names []) (fun ν=>none)
  {s with heap:=pushCells (s.heap.push {cls:=.type "dict",data:=.dict #[]}) scope.names}:=
  ⟨⟨⟨_,_,rfl⟩,(Heap.Ns.new s.heap (.type "dict")).keeps (pushCells_keeps _ _),fun b o e=>pushCells_keeps _ _ b o (Heap.get?_push_of_some _ e),Nat.le_refl _⟩,
   fun n c hc=>(ok.empty n c (mem_of_lookup hc)).1,ok.apart,fun n c hm=>(ok.empty n c hm).2⟩
 exact h _ _ (S.lH hn X (Nat.le_refl _))
noncomputable def cy(ifs:List Expr)(env:Env):Sem Bool:=forIn ifs true fun c r=>if r=true then do let ok ←isTrue c env (eval c env);pure (ForInStep.yield ok) else pure (ForInStep.yield r)
theorem qG{Q:Bool→Shared→Prop}(h:Q true s):Wp c A (cy [] env) Q s:=wpAny_pure h
theorem uF{e:Expr}{Q:Bool→Shared→Prop}(h:Wp c A (isTrue e env (eval e env)) Q s):Wp c A (cy [e] env) Q s:=by
 unfold cy
 rw[List.forIn_cons]
 rw[if_pos rfl]
 refine wpAny_bind (wpAny_bind (wpAny_mono h (fun b s' hq=>wpAny_pure ?_) fun ν ν x=>x))
 show Wp c A (forIn [] b _) Q s'
 rw[List.forIn_nil]
 exact wpAny_pure hq
structure ig(c:Cx){α:Type}(it:Value)(target:Expr)(T:Ty α)(xs:List α)(F:Nat→List Fa)(Z:List Fa):Prop where
 src:Src c it target T xs F Z
 self:∀{A:Around} {L:Addr} {V:ay} {G:List Fa} {s:Shared} {i:Nat} {Q:Value→Shared→Prop},aa c L V (F i++G) s→Q it s→Wp c A (pyIter it) Q s
noncomputable def oE(e:Expr)(depth:Nat)(it acc:Value)(env:Env)(g:Comprehension)(body:Sem PySem.Fin):Sem PySem.Fin:=
 standAt g.iter.pos>>=fun ν=>pyNext it>>=fun r=>match r with
  |none=>pure (.done .next)
  |some v=>letOwnedTupleGo g.target it v>>=fun ν=>assign g.target env v>>=fun ν=>cy g.ifs env>>=fun ok=>
   if ok=true then body else again (.compLoop e depth it acc env)
noncomputable def nU(e:Expr)(depth:Nat)(it acc:Value)(env:Env)(g:Comprehension)(body:Sem Unit):Sem PySem.Fin:=oE e depth it acc env g (body>>=fun ν=>again (.compLoop e depth it acc env))
theorem lu{α:Type}{e:Expr}{depth:Nat}{it acc:Value}{T:Ty α}{xs:List α}{F:Nat→List Fa}{Z:List Fa}{g:Comprehension}{body:Sem PySem.Fin}{G₀:List Fa}(src:Src c it g.target T xs F Z)(hh:A.handled=none)
 {P:Result→Shared→Prop} (hturn:compTurn e depth it acc env=oE e depth it acc env g body)
 (hden:∀prog w,(model prog w).den (.compLoop e depth it acc env)=(compTurn e depth it acc env).onRaise (fun x=>do noteFrame x env;theTreesLotGoes x)) (hA:A.under (.compLoop e depth it acc env)=A) (hq:(Code.compLoop e depth it acc env).quiet =true)
 (I:List α→ay→List Fa→Prop) (S:aa c C V (F 0++G₀) s) (h0:∃G,I [] V G∧Sub G₀ G)
 (step:∀done x rest V G X v s,xs=done++x::rest→I done V G→aa c C V (.kn (is T v x)::(G++X)) s→
   Wp c A (assign g.target env v) (fun ν s₂=>Wp c A (cy g.ifs env) (fun ok s₃=>if ok=true then Wp c A body (fun fin s₄=>fin= .again (.compLoop e depth it acc env)∧∃V' G',I (done++[x]) V' G'∧aa c C V' (G'++X) s₄) s₃ else∃V' G',I (done++[x]) V' G'∧aa c C V' (G'++X) s₃) s₂) s)
 (hend:∀V G s',I xs V G→aa c C V (Z++G) s'→P (.ok .next) s'):codeAny (model c.prog c.w) A (.compLoop e depth it acc env) P s:=by
 refine aj h0 fun G π31 hsub=>?_;try clear h0;revert π31;intro h0
 have S:=S.sub (Sub.ia (l:=F 0) hsub)
 refine codeAny_loop' hq (fun n s'=>∃done rest V G,xs=done++rest∧n=rest.length+1∧I done V G∧aa c C V (F done.length++G) s') (fun n s' hI=>?_) (xs.length+1) ⟨[],xs,V,G,rfl,rfl,h0,S⟩
 refine fK hI fun done rest V G ex π85 π86 S=>?_;try clear hI;rcases π85 with rfl;revert π86;intro hI
 rw[hA,hden]
 refine wpAny_noted ?_
 rw[hturn]
 refine wpAny_bind (wpAny_standAt (wpAny_bind (jq ?_)))
 cases rest with
 |nil=>
  have hx:xs[done.length]?=none:=by rw[ex];simp
  have e':xs=done:=by simpa using ex
  refine src.stop hh S hx fun s₁ S₁=>?_
  exact wpAny_pure (hend V G s₁ (e'▸hI) S₁)
 |cons x rest=>
  have hx:xs[done.length]?=some x:=by rw[ex];simp
  refine wpAny_mono (src.next (Q:=fun v s₁=>aa c C V (.kn (is T v x)::(F (done.length+1)++G)) s₁) hh S hx fun v s₁ S₁=>S₁) (fun r s₁ h₁=>?_) fun ν ν x=>x.elim
  refine aj h₁ fun v π31 π32=>?_;try clear h₁;rcases π31 with rfl;revert π32;intro h₁
  refine wpAny_bind (jq (wpAny_mono h₁ (fun ν s₁ S₁=>?_) fun ν ν x=>x))
  have S₃:aa c C V (.kn (is T v x)::(G++F (done.length+1))) s₁:=S₁.perm ((List.perm_append_comm).cons _)
  have again':∀s₅,(∃V' G',I (done++[x]) V' G'∧aa c C V' (G'++F (done.length+1)) s₅)→∃m,m<(x::rest).length +1∧∃done rest V G,xs=done++rest∧m=rest.length+1∧I done V G∧aa c C V (F done.length++G) s₅:=by
   intro s₅ υ1;obtain⟨V',G',hI',S'⟩:=υ1
   exact⟨rest.length+1,by simp,done++[x],rest,V',G',by rw[ex];simp,rfl,hI',by
    have:(done++[x]).length =done.length+1:=by simp
    rw[this];exact S'.perm List.perm_append_comm⟩
  refine wpAny_bind (jq (wpAny_mono (step done x rest V G _ v s₁ ex hI S₃) (fun ν s₂ h₂=>?_) fun ν ν x=>x.elim))
  refine wpAny_bind (jq (wpAny_mono h₂ (fun ok s₃ h₃=>?_) fun ν ν x=>x.elim))
  cases ok with
  |false=>
   rw[if_neg (by decide)] at h₃
   rw[if_neg (by decide)]
   exact wpAny_pure (.inl ⟨rfl,again' _ h₃⟩)
  |true=>
   rw[if_pos rfl] at h₃
   rw[if_pos rfl]
   exact jq (wpAny_mono h₃ (fun fin s₄ h₄=>by obtain⟨rfl,h₄⟩:=h₄;exact .inl ⟨rfl,again' _ h₄⟩) fun ν ν x=>x.elim)
theorem jk{α:Type}{e:Expr}{depth:Nat}{it acc:Value}{T:Ty α}{xs:List α}{F:Nat→List Fa}{Z:List Fa}{g:Comprehension}{body:Sem Unit}{G₀:List Fa}(src:Src c it g.target T xs F Z)(hh:A.handled=none)
 {P:Result→Shared→Prop} (hturn:compTurn e depth it acc env=nU e depth it acc env g body)
 (hden:∀prog w,(model prog w).den (.compLoop e depth it acc env)=(compTurn e depth it acc env).onRaise (fun x=>do noteFrame x env;theTreesLotGoes x)) (hA:A.under (.compLoop e depth it acc env)=A) (hq:(Code.compLoop e depth it acc env).quiet =true)
 (I:List α→ay→List Fa→Prop) (S:aa c C V (F 0++G₀) s) (h0:∃G,I [] V G∧Sub G₀ G)
 (step:∀done x rest V G X v s,xs=done++x::rest→I done V G→aa c C V (.kn (is T v x)::(G++X)) s→
   Wp c A (assign g.target env v) (fun ν s₂=>Wp c A (cy g.ifs env) (fun ok s₃=>if ok=true then Wp c A body (fun ν s₄=>∃V' G',I (done++[x]) V' G'∧aa c C V' (G'++X) s₄) s₃ else∃V' G',I (done++[x]) V' G'∧aa c C V' (G'++X) s₃) s₂) s)
 (hend:∀V G s',I xs V G→aa c C V (Z++G) s'→P (.ok .next) s'):codeAny (model c.prog c.w) A (.compLoop e depth it acc env) P s:=by
 refine lu src hh hturn hden hA hq I S h0 (fun done x rest V G X v s ex hI S=>wpAny_mono (step done x rest V G X v s ex hI S) (fun ν s₂ h₂=>wpAny_mono h₂ (fun ok s₃ h₃=>?_) fun ν ν x=>x) fun ν ν x=>x) hend
 cases ok with
 |false=>exact h₃
 |true=>
  rw[if_pos rfl] at h₃⊢
  exact wpAny_bind (wpAny_mono h₃ (fun ν s₄ h₄=>wpAny_pure ⟨rfl,h₄⟩) fun ν ν x=>x)
theorem fh{e:Expr}{depth:Nat}{it acc:Value}{g:Comprehension}{P:Result→Shared→Prop}(hg:(clausesOf e)[depth]?=some g)(ha:g.is_async=0)
 (hden:∀prog w,(model prog w).den (.compStart e depth it acc env)=(compStart e depth it acc env).onRaise (fun x=>do noteFrame x env;standAt theWindowsPlace)) (hA:A.under (.compStart e depth it acc env)=A) (hq:(Code.compLoop e depth it acc env).quiet =true)
 (h0:codeAny (model c.prog c.w) A (.compLoop e depth it acc env) P s) (h:Wp c A (pyIter it) (fun it' s'=>codeAny (model c.prog c.w) A (.compLoop e depth it' acc env) P s') s) (hq':∀it',(Code.compLoop e depth it' acc env).quiet =true):
 codeAny (model c.prog c.w) A (.compStart e depth it acc env) P s:=by
 refine codeAny_of_tree ?_
 rw[hA,hden]
 refine wpAny_onRaise (jq ?_)
 unfold compStart
 rw[hg]
 rw[Option.elim,ha,bne_self_eq_false,if_neg Bool.false_ne_true]
 refine wpAny_bind (wpAny_askSetting (wpAny_ite ?_))
 split
 ·exact wpAny_bind (wpAny_pure (wpAny_pure (And.intro hq h0)))
 ·refine wpAny_bind (wpAny_rule (wpAny_bind (wpAny_standAt (wpAny_bind (wpAny_mono h (fun it' s' h'=>wpAny_pure (And.intro (hq' it') h')) fun ν ν x=>x)))))
end
end Mine
namespace Mine
noncomputable def aN(scope:Scope)(cl:List (Str×Addr))(C:Addr)(env:Env):Env:=
 {newEnv scope C env.globals (cellsFrom (C+1) scope.names cl) env.qual none .none (some env) builtinsNs with scope:=relabel scope env}
section
variable{c:Cx}{A:Around}{L C:Addr}{V V' VC:ay}{G R:List Fa}{s:Shared}{env cenv:Env}{t u:Tok}
noncomputable def bh(c:Cx)(A:Around)(L:Addr)(use:Option (Value→Sem Unit))(Q:Value→Shared→Prop)(acc:Value)(C:Addr)(s:Shared):Prop:=
 ∃V VC G,aa c L V (.ow (own C bC VC)::G) s∧match use with
  |none=>∀s',aa c L V G s'→Q acc s'
  |some f=>Wp c A (f acc) (fun ν s'=>∃V' VC' G',aa c L V' (.ow (own C bC VC')::G') s'∧∀s'',aa c L V' G' s''→Q .none s'') s
theorem bh.post{use:Option (Value→Sem Unit)}{Q:Value→Shared→Prop}{acc:Value}(h:bh c A L use Q acc C s):compPost (model c.prog c.w) A (fun ν ν=>False) use Q acc C (.ok .next) s:=by
 refine gJ h fun V VC G S π54=>?_;try clear h;revert π54;intro h
 have key:∀{V VC G s},aa c L V (.ow (own C bC VC)::G) s→∃m,s.heap.Ns C m∧∀h',Heap.SameBut C s.heap h'→aa c L V G {s with heap:=h'}:=fun{V VC G s} S=>by
  obtain⟨B,o,e,⟨m,n,f⟩,_⟩:=S.get (.head _)
  exact⟨m,n.ns e,fun h' hs=>aa.lose S (w:=own C bC VC) .here hs.extBut⟩
 cases use with
 |none=>
  refine aj (key S) fun m hm hk=>?_
  exact⟨m,hm,fun h' hs=>h _ (hk h' hs)⟩
 |some f=>
  refine wpAny_mono h (fun ν s' h'=>?_) fun ν ν x=>x
  refine gJ h' fun V' VC' G' S' π54=>?_;try clear h';revert π54;intro h'
  refine aj (key S') fun m hm hk=>?_
  exact⟨m,hm,fun h'' hs=>h' _ (hk h'' hs)⟩
theorem gG{e:Expr}{scope:Scope}{cl:List (Str×Addr)}{pos:Pos}{newAcc first:Sem Value}{g:Comprehension}{gs:List Comprehension}{use:Option (Value→Sem Unit)}{Q:Value→Shared→Prop}
 (hcl:clausesOf e=g::gs) (hs:∀x,foldedSetIterable g.iter env x=pure x) (hclos:closureFor scope env=pure cl)
 (hkind:scope.kind= .function) (hn:(scope.names.map (·.1)).Nodup)
 (h:Wp c A first (fun x s₁=>Wp c A (pyIter x) (fun it s₂=>Wp c A newAcc (fun acc s₃=>∃L V G,aa c L V G s₃∧∀C s₄,aa c C (bN scope.names) (aI (aG (cellsFrom (C+1) scope.names []) (fun ν=>none) scope.names)++ .ow (own L bC V)::G) s₄→
   codeAny (model c.prog c.w) A (.compStart e 0 it acc (aN scope cl C env)) (fun r s₅=>r= .ok .next∧bh c A L use Q acc C s₅) s₄) s₂) s₁) s):
 Wp c A (comprehension e scope env pos newAcc false first use) Q s:=by
 refine wpAny_comprehension_free hcl hs hclos hkind (fun x hx hl=>?_) (wpAny_mono h (fun x s₁ h₁=>wpAny_mono h₁ (fun it s₂ h₂=>wpAny_mono h₂ (fun acc s₃ h₃=>?_) fun ν ν x=>x) fun ν ν x=>x) fun ν ν x=>x)
 ·have:∀(l:List (Str×NameKind)),(l.map (·.1)).Nodup→∀x∈l,x.2= .local→l.lookup x.1=some .local:=by
   intro l
   induction l with
   |nil=>intro _ x hx;cases hx
   |cons y l ih=>
    intro hnd x hx hl
    rw[List.lookup_cons]
    rcases List.mem_cons.mp hx with rfl|hx
    ·simp[hl]
    ·have h1:=List.nodup_cons.mp hnd
     have:(x.1==y.1)=false:=by
      rw[beq_eq_false_iff_ne]
      intro q
      exact h1.1 (List.mem_map.mpr ⟨x,hx,q⟩)
     rw[this]
     exact ih h1.2 x hx hl
  exact this _ hn x hx hl
 ·refine gJ h₃ fun L V G S π54=>?_;try clear h₃;revert π54;intro h₃
  refine S.newEnv hkind hn fun C s₄ S₄=>?_
  exact codeAny_mono (h₃ C s₄ S₄) fun r s₅ ⟨e,h₅⟩=>by subst e;exact h₅.post
theorem sq(elt target iter:Expr)(ifs:List Expr)(scope:Scope)(pos:Pos)(it acc:Value)(env:Env):
 compTurn (.ListComp elt [⟨target,iter,ifs,0⟩] scope pos) 0 it acc env=nU (.ListComp elt [⟨target,iter,ifs,0⟩] scope pos) 0 it acc env ⟨target,iter,ifs,0⟩ (eval elt env>>=fun x=>call (.builtin "list.append") [acc,x]>>=fun ν=>pure ()):=rfl
theorem sy(kx vx target iter:Expr)(ifs:List Expr)(scope:Scope)(pos:Pos)(it:Value)(D:Addr)(env:Env):
 compTurn (.DictComp kx vx [⟨target,iter,ifs,0⟩] scope pos) 0 it (.ref D) env=nU (.DictComp kx vx [⟨target,iter,ifs,0⟩] scope pos) 0 it (.ref D) env ⟨target,iter,ifs,0⟩ (do
  let kv ←eval kx env
  let vv ←holding [kv] (eval vx env)
  standAt {kx.pos with endLine:=vx.pos.endLine,endCol:=vx.pos.endCol}
  holding [kv,vv] (dictSet D kv vv)):=rfl
theorem vm{α β:Type}{T:Ty α}{xs:List α}{F:Nat→List Fa}{Z:List Fa}{it:Value}{elt target iter:Expr}{ifs:List Expr}{scope:Scope}{cl:List (Str×Addr)}{pos:Pos}{use:Option (Value→Sem Unit)}{Q:Value→Shared→Prop}
 (src:ig c it target T xs F Z) (hh:A.handled=none) (U:Ty β) (out:List α→List β) (I:Addr→List α→ay→List Fa→Prop) (S:aa c L V (F 0++G) s) (hout:out []=[]) (hsz:∀l,(out l).length≤l.length) (hlen:xs.length≤1000000)
 (h0:∀C,∃G',I C [] (bN scope.names) G'∧Sub (aI (aG (cellsFrom (C+1) scope.names []) (fun ν=>none) scope.names)++G) G')
 (step:∀C a done x rest VC G' X v s,xs=done++x::rest→I C done VC G'→aa c C VC (.kn (is T v x):: .ow (own a (ai U) (out done)):: .ow (own L bC V)::(G'++X)) s→
   Wp c A (assign target (aN scope cl C env) v) (fun ν s₂=>Wp c A (cy ifs (aN scope cl C env)) (fun ok s₃=>if ok=true
    then Wp c A (eval elt (aN scope cl C env)) (fun y s₄=>∃VC' G'' z,out (done++[x])=out done++[z]∧I C (done++[x]) VC' G''∧aa c C VC' (.kn (is U y z):: .ow (own a (ai U) (out done)):: .ow (own L bC V)::(G''++X)) s₄) s₃
    else∃VC' G'',out (done++[x])=out done∧I C (done++[x]) VC' G''∧aa c C VC' (.ow (own a (ai U) (out done)):: .ow (own L bC V)::(G''++X)) s₃) s₂) s)
 (hend:∀C a VC G' s',I C xs VC G'→aa c L V (.ow (own C bC VC):: .ow (own a (ai U) (out xs))::(Z++G')) s'→bh c A L use Q (.ref a) C s'):
 Wp c A (newList []) (fun acc s₃=>∃L V G,aa c L V G s₃∧∀C s₄,aa c C (bN scope.names) (aI (aG (cellsFrom (C+1) scope.names []) (fun ν=>none) scope.names)++ .ow (own L bC V)::G) s₄→
  codeAny (model c.prog c.w) A (.compStart (.ListComp elt [⟨target,iter,ifs,0⟩] scope pos) 0 it acc (aN scope cl C env)) (fun r s₅=>r= .ok .next∧bh c A L use Q acc C s₅) s₄) s:=by
 have hL:=S.above
 refine S.nList U [] (fun ν ν=>.nil) (by decide) fun a s₃ S₃=>⟨L,V,_,S₃,fun C s₄ S₄=>?_⟩
 refine aj (h0 C) fun G0 hI0 hsub=>?_
 have S5:aa c C (bN scope.names) (F 0++(.ow (own a (ai U) (out [])):: .ow (own L bC V)::G0)) s₄:=by
  rw[hout]
  have p1:(aI (aG (cellsFrom (C+1) scope.names []) (fun ν=>none) scope.names)++ .ow (own L bC V):: .ow (own a (ai U) [])::(F 0++G)).Perm (F 0++(.ow (own a (ai U) []):: .ow (own L bC V)::(aI (aG (cellsFrom (C+1) scope.names []) (fun ν=>none) scope.names)++G))):=by
   refine List.perm_middle.trans ?_
   refine(List.Perm.cons _ List.perm_middle).trans ?_
   refine(List.Perm.swap ..).trans ?_
   refine List.Perm.trans (List.Perm.cons _ (List.Perm.cons _ ?_)) ((List.perm_middle.trans (List.Perm.cons _ List.perm_middle)).symm)
   rw[←List.append_assoc,←List.append_assoc]
   exact List.Perm.append_right _ List.perm_append_comm
  have h1:=S₄.perm p1
  refine h1.sub (Sub.ia ?_)
  exact .own .here (.own .here hsub)
 have loop:codeAny (model c.prog c.w) A (.compLoop (.ListComp elt [⟨target,iter,ifs,0⟩] scope pos) 0 it (.ref a) (aN scope cl C env)) (fun r s₅=>r= .ok .next∧bh c A L use Q (.ref a) C s₅) s₄:=by
  refine jk (g:=⟨target,iter,ifs,0⟩) src.src hh (sq ..) (fun ν ν=>rfl) (Around.under_of_weight rfl) rfl
   (fun done VC G'=>∃G'',I C done VC G''∧G'= .ow (own a (ai U) (out done)):: .ow (own L bC V)::G'') S5 ⟨_,⟨_,hI0,rfl⟩,.all⟩ ?_ ?_
  ·intro done x rest VC _ X v s₆ ex υ9 S₆;obtain⟨G',hI,rfl⟩:=υ9
   refine wpAny_mono (step C a done x rest VC G' X v s₆ ex hI S₆) (fun ν s₇ h₇=>wpAny_mono h₇ (fun ok s₈ h₈=>?_) fun ν ν x=>x) fun ν ν x=>x
   cases ok with
   |false=>
    rw[if_neg (by decide)] at h₈⊢
    refine av h₈ fun VC' G'' eo hI' S₈=>?_;try clear h₈
    exact⟨VC',_,⟨G'',hI',rfl⟩,by rw[eo];exact S₈⟩
   |true=>
    rw[if_pos rfl] at h₈⊢
    refine wpAny_bind (wpAny_mono h₈ (fun y s₉ h₉=>?_) fun ν ν x=>x)
    refine gh h₉ fun VC' G'' z eo hI' S₉=>?_;try clear h₉
    refine wpAny_bind ?_
    have hl:(out done).length≤1000000:=by
     have h1:=hsz done
     have h2:done.length≤xs.length:=by rw[ex];simp
     exact id (ω198 (hsz done) (ω198 h2 hlen))
    refine S₉.gB (T:=U) (x:=z) (.there .here) (fun B k=>k.at (.head _)) hl fun s' S'=>wpAny_pure ⟨VC',_,⟨G'',hI',rfl⟩,?_⟩
    rw[eo]
    exact S'.sub (.own .here (.drop .all))
  ·intro VC _ s₆ υ3 S₆;obtain⟨G',hI,rfl⟩:=υ3
   refine⟨rfl,hend C a VC G' s₆ hI ?_⟩
   have p2:(Z++(.ow (own a (ai U) (out xs)):: .ow (own L bC V)::G')).Perm (.ow (own L bC V):: .ow (own a (ai U) (out xs))::(Z++G')):=
    (List.perm_middle.trans (List.Perm.cons _ List.perm_middle)).trans (List.Perm.swap ..)
   exact(S₆.perm p2).swap .here hL
 refine fh (g:=⟨target,iter,ifs,0⟩) rfl rfl (fun ν ν=>rfl) (Around.under_of_weight rfl) rfl loop (src.self S5 loop) fun ν=>rfl
theorem c9{elt target iter:Expr}{ifs:List Expr}{scope:Scope}(cl:List (Str×Addr)){pos:Pos}{Q:Value→Shared→Prop}
 (h:Wp c A (eval iter env) (fun x s₁=>Wp c A (pyIter x) (fun it s₂=>Wp c A (newList []) (fun acc s₃=>∃L V G,aa c L V G s₃∧∀C s₄,aa c C (bN scope.names) (aI (aG (cellsFrom (C+1) scope.names []) (fun ν=>none) scope.names)++ .ow (own L bC V)::G) s₄→
   codeAny (model c.prog c.w) A (.compStart (.ListComp elt [⟨target,iter,ifs,0⟩] scope pos) 0 it acc (aN scope cl C env)) (fun r s₅=>r= .ok .next∧bh c A L none Q acc C s₅) s₄) s₂) s₁) s)
 (hclos:autoParam (closureFor scope env=pure cl) af) (hs:autoParam (∀x,foldedSetIterable iter env x=pure x) ua) (hkind:autoParam (scope.kind= .function) af) (hn:autoParam ((scope.names.map (·.1)).Nodup) ym):
 Wp c A (eval (.ListComp elt [⟨target,iter,ifs,0⟩] scope pos) env) Q s:=by
 rw[eval_ListComp]
 exact gG (use:=none) rfl hs hclos hkind hn h
theorem zm{elt target iter:Expr}{ifs:List Expr}{scope:Scope}(cl:List (Str×Addr)){pos spos ypos:Pos}{y:Str}{Q:Flow→Shared→Prop}
 (h:Wp c A (eval iter env) (fun x s₁=>Wp c A (pyIter x) (fun it s₂=>Wp c A (newList []) (fun acc s₃=>∃L V G,aa c L V G s₃∧∀C s₄,aa c C (bN scope.names) (aI (aG (cellsFrom (C+1) scope.names []) (fun ν=>none) scope.names)++ .ow (own L bC V)::G) s₄→
   codeAny (model c.prog c.w) A (.compStart (.ListComp elt [⟨target,iter,ifs,0⟩] scope pos) 0 it acc (aN scope cl C env)) (fun r s₅=>r= .ok .next∧bh c A L (some (assign (.Name y ypos) env)) (fun ν s'=>Q .next s') acc C s₅) s₄) s₂) s₁) s)
 (hclos:autoParam (closureFor scope env=pure cl) af) (hs:autoParam (∀x,foldedSetIterable iter env x=pure x) ua) (hkind:autoParam (scope.kind= .function) af) (hn:autoParam ((scope.names.map (·.1)).Nodup) ym)
 (hsw:autoParam (swapsWith (.ListComp elt [⟨target,iter,ifs,0⟩] scope pos) (some (.Name y ypos)) spos.line env=pure true) af):
 Wp c A (exec (.Assign [.Name y ypos] (.ListComp elt [⟨target,iter,ifs,0⟩] scope pos) spos) env) Q s:=by
 rw[exec_Assign_Name_used _ _ _ _ hsw]
 refine wpAny_bind (wpAny_standAt (wpAny_bind ?_))
 exact wpAny_bind (wpAny_mono (gG (Q:=fun ν s'=>Q .next s') rfl hs hclos hkind hn h) (fun ν s' hq=>wpAny_pure (wpAny_pure hq)) fun ν ν x=>x)
theorem aa.Bc{a:Value}{C:Addr}{Q:Value→Shared→Prop}(S:aa c L V (.ow (own C bC VC)::G) s)(h:∀s',aa c L V G s'→Q a s'):bh c A L none Q a C s:=⟨V,VC,G,S,h⟩
theorem aa.BZ{a:Value}{C:Addr}{y:Str}{ypos:Pos}{Q:Value→Shared→Prop}(S:aa c L V (.ow (own C bC VC)::G) s)(hp:rB V y a V')(h:∀s',aa c L V' G s'→Q .none s')(hL:autoParam (env.locals=L) af)(hk:autoParam (env.scope.kind= .function) af)
 (hl:autoParam (env.kindOf y=some .local) b7):bh c A L (some (assign (.Name y ypos) env)) Q a C s:=
 ⟨V,VC,G,S,wpAny_assign_Name (S.st hp (fun ν S'=>⟨_,_,_,S',h⟩) hL hk hl)⟩
theorem tU{α:Type}{T:Ty α}{a it:Addr}{xs:List α}{vs:List Value}{n:Nat}{target:Expr}:
 ig c (.ref it) target T xs (fun i=>[.ow (own it (bE "list_iterator" #[.ref a,.int i 0]) ()),.kn (held a (aC vs n)),.kn (rows T vs xs)]) [] where
 src:=src_list
 self:=by
  intro A L V G s i Q S h
  refine av (S.get (.head _)) fun B o e π53 ν4=>?_;obtain⟨hc,hd⟩:=π53
  exact wpAny_pyIter_listiter (l:=a) (i:=i) ⟨o,e,hc,hd⟩ h
theorem aa.mV{α:Type}{T:Ty α}{v:Value}{xs:List α}{Q:Value→Shared→Prop}(S:aa c L V G s)(h: .kn (is (Ty.list T) v xs)∈G)
 (hQ:∀it (F:Nat→List Fa) s',(∀target,ig c it target T xs F [])→aa c L V (F 0++G) s'→Q it s'):Wp c A (pyIter v) Q s:=by
 refine aj (S.cX h) fun a π31 ν2=>?_;rcases π31 with rfl
 refine fZ (S.eF h) fun vs n S=>?_
 have src:=fun target=>tU (c:=c) (T:=T) (a:=a) (it:=s.heap.objs.size) (xs:=xs) (vs:=vs) (n:=n) (target:=target)
 refine wpAny_pyIter_list (aA (S.aF (.head _))) (hQ _ _ _ src ?_)
 have S':=S.push (tk:=s.toks) (o:={cls:=.type "list_iterator",data:=.fields #[.ref a,.int 0 0]}) (bE "list_iterator" #[.ref a,.int (0:Nat) 0]) () fun ν ν=>⟨rfl,rfl⟩
 exact S'.sub (.own .here (.kn (.head _) (.kn (.tail _ (.head _)) (.drop (.drop .all)))))
end
end Mine
namespace Mine
section
variable{c:Cx}{A:Around}{L C:Addr}{V V' VC:ay}{G R R1:List Fa}{s:Shared}{env cenv:Env}{t u:Tok}
theorem wX{α:Type}{T:Ty α}{a it:Addr}{xs:List α}{vs:List Value}{n:Nat}{target:Expr}:
 ig c (.ref it) target T xs (fun i=>[.ow (own it (bE "tuple_iterator" #[.ref a,.int i 0]) ()),.kn (held a (om vs n)),.kn (rows T vs xs)]) [] where
 src:={
  next:=by
   intro A L V G s i x Q hh S hx h
   refine av (S.get (.head _)) fun B o e π53 ν4=>?_;obtain⟨hc,hd⟩:=π53
   have ha:=S.aF (.tail _ (.head _))
   refine aj (S.dX (.tail _ (.tail _ (.head _))) hx) fun v hv S=>?_
   refine wpAny_pyNext_tuple_item (items:=vs.toArray) (t:=a) ⟨o,e,hc,hd⟩ ⟨_,ha,rfl,n,rfl⟩ (by simpa using hv) fun h' hit' hs=>⟨v,rfl,?_⟩
   refine bL hit' fun o' e' hc' hd'=>?_;try clear hit'
   refine lE e' hc' (by decide) (h _ _ (aa.perm (S.turn (.there .here) (bE "tuple_iterator" #[.ref a,.int (i+1:Nat) 0]) () hs e' fun ν ν ν ν ν=>⟨hc',hd'⟩) (List.Perm.swap ..)))
  stop:=by
   intro A L V G s i Q hh S hx h
   refine av (S.get (.head _)) fun B o e π53 ν4=>?_;obtain⟨hc,hd⟩:=π53
   have ha:=S.aF (.tail _ (.head _))
   have hlen:=S.gC (.tail _ (.tail _ (.head _)))
   have hn:vs.toArray[i]?=none:=by
    have:xs.length≤i:=by simpa using hx
    simp[hlen,this]
   exact wpAny_pyNext_tuple_end (items:=vs.toArray) (t:=a) hh ⟨o,e,hc,hd⟩ ⟨_,ha,rfl,n,rfl⟩ hn fun h' hk=>h _ ((S.lose .here hk).sub (.drop (.drop .all)))}
 self:=by
  intro A L V G s i Q S h
  refine av (S.get (.head _)) fun B o e π53 ν4=>?_;obtain⟨hc,hd⟩:=π53
  have hT:s.TypeIs (.ref it) "tuple_iterator":=⟨o,e,hc⟩
  refine wpAny_pyIter_slot hT F.slot_tuple_iterator_iter (wpAny_call_entry F.slot_tuple_iterator_iter hT F.entry_tuple_iterator_iter ?_ (F.args_tuple_iterator_iter_1 _))
  exact wpAny_pure ⟨_,rfl,"tuple_iterator",_,hT,F.slot_tuple_iterator_next.lookup,h⟩
theorem aa.uD{α β:Type}{T:Ty β}{W:Row α}{v:Value}{x:α}{xs:List β}{Q:Value→Shared→Prop}(S:aa c L V G s)(h: .kn (is (Ty.tup W) v x)∈G)(hr:∀vs B,vs.length=W.n→AllP (W.facts vs x) B→az (T.rel B) vs xs)
 (hQ:∀it (F:Nat→List Fa) s',(∀target,ig c it target T xs F [])→aa c L V (F 0++G) s'→Q it s'):Wp c A (pyIter v) Q s:=by
 refine gh (S.jQ h) fun a vs n π63 hl S'=>?_;rcases π63 with rfl
 have S2:=S'.add (rows T vs xs) fun B k=>hr vs B hl (by
  obtain⟨a',o,e,_,ho,ws,m,rfl,l,r⟩:=k.at (.tail _ (List.mem_append_right _ h))
  have h1:B a=some (om vs n):=k.at (.head _)
  cases e
  rw[h1] at ho
  have hv:vs=ws:=by simp at ho;exact ho.1
  rw[hv];exact r)
 have ha:=S2.aF (.tail _ (.head _))
 have src:=fun target=>wX (c:=c) (T:=T) (a:=a) (it:=s.heap.objs.size) (xs:=xs) (vs:=vs) (n:=n) (target:=target)
 refine wpAny_pyIter_tuple (items:=vs.toArray) ⟨_,ha,rfl,n,rfl⟩ (hQ _ _ _ src ?_)
 have S3:=S2.push (tk:=s.toks) (o:={cls:=.type "tuple_iterator",data:=.fields #[.ref a,.int 0 0]}) (bE "tuple_iterator" #[.ref a,.int (0:Nat) 0]) () fun ν ν=>⟨rfl,rfl⟩
 exact S3.sub (.own .here (.kn (.tail _ (.head _)) (.kn (.head _) (.drop (.drop (.right .all))))))
noncomputable abbrev iX(a b d:Int)(t u v:Tok):Obj:={cls:=.type "range",dict:=none,data:=.fields #[.int a t,.int b u,.int d v],slots:=#[]}
noncomputable abbrev gH(x left d:Int):Obj:={cls:=.type "range_iterator",dict:=none,data:=.fields #[rawInt x,rawInt left,rawInt d],slots:=#[]}
noncomputable def runs(a d:Int)(n:Nat):List Int:=(List.range n).map fun(i:Nat)=>a+(i:Int)*d
theorem src_range{it:Addr}{a d:Int}{n:Nat}{target:Expr}:
 ig c (.ref it) target ao (runs a d n) (fun i=>[.ow (own it (ck (gH (a+(i:Int)*d) ((n:Int)-i) d)) ())]) [] where
 src:={
  next:=by
   intro A L V G s i x Q hh S hx h
   refine av (S.get (.head _)) fun B o e π53 ν4=>?_;rcases π53 with rfl
   have hi:i<n:=by
    have:=(List.getElem?_eq_some_iff.mp hx).1
    simpa[runs] using this
   have hx':x=a+(i:Int)*d:=by
    rw[runs,List.getElem?_map,List.getElem?_range hi] at hx
    simpa using hx.symm
   subst hx'
   refine wpAny_pyNext_range_item e (by exact ω220 hi) fun h' hit' hs=>⟨_,rfl,?_⟩
   have e1:a+(i:Int)*d+d=a+((i+1:Nat):Int)*d:=by rw[Int.natCast_succ,Int.add_mul];lia
   have e2:(n:Int)-i-1=(n:Int)-((i+1:Nat):Int):=by lia
   rw[e1,e2] at hit'
   refine lE hit' rfl (by decide) (h _ _ ?_)
   have S2:=S.turn (tk:=s.toks+1) .here (ck (gH (a+((i+1:Nat):Int)*d) ((n:Int)-((i+1:Nat):Int)) d)) () hs hit' fun ν ν ν ν ν=>rfl
   exact S2.add _ fun ν ν=>⟨_,rfl⟩
  stop:=by
   intro A L V G s i Q hh S hx h
   refine av (S.get (.head _)) fun B o e π53 ν4=>?_;rcases π53 with rfl
   have hi:n≤i:=by
    have:=List.getElem?_eq_none_iff.mp hx
    simpa[runs] using this
   exact wpAny_pyNext_range_end hh e (by lia) fun h' hk=>h _ (S.lose .here hk)}
 self:=by
  intro A L V G s i Q S h
  refine av (S.get (.head _)) fun B o e π53 ν4=>?_;rcases π53 with rfl
  exact wpAny_pyIter_rangeiter e h
theorem aa.mq{r:Addr}{a b d:Int}{t u v:Tok}{n:Nat}{Q:Value→Shared→Prop}(S:aa c L V G s)(h: .ow (own r (ck (iX a b d t u v)) ())∈G)(hs:Builtin.Range.small a b d=true)(hn:Builtin.Range.rangeSize a b d=n)
 (hQ:∀it (F:Nat→List Fa) s',(∀target,ig c it target ao (runs a d n) F [])→aa c L V (F 0++G) s'→Q it s'):Wp c A (pyIter (.ref r)) Q s:=by
 refine av (S.get h) fun B o e π53 ν4=>?_;rcases π53 with rfl
 refine wpAny_pyIter_range e hs (hQ _ _ _ (fun target=>src_range (it:=s.heap.objs.size) (a:=a) (d:=d) (n:=n) (target:=target)) ?_)
 have S2:=S.push (tk:=s.toks) (ck (gH (a+((0:Nat):Int)*d) ((n:Int)-((0:Nat):Int)) d)) () (o:=gH a (Builtin.Range.rangeSize a b d) d) fun ν ν=>by
  show gH a _ d=gH _ _ d
  rw[hn];simp
 exact S2
theorem range_one{n:Nat}(h:n≤1000000):Builtin.Range.small 0 n 1=true∧Builtin.Range.rangeSize 0 n 1=n:=by
 have h2:Builtin.Range.rangeSize 0 n 1=n:=by
  unfold Builtin.Range.rangeSize
  simp;lia
 refine⟨?_,h2⟩
 unfold Builtin.Range.small
 rw[h2]
 unfold Builtin.Range.rangeFitsLong
 simp;exact ω133 h rfl
theorem sC{n:Nat}(h:n≤1000000):Builtin.Range.small 0 (2*n) 2=true∧Builtin.Range.rangeSize 0 (2*n) 2=n:=by
 have h2:Builtin.Range.rangeSize 0 (2*n) 2=n:=by
  unfold Builtin.Range.rangeSize
  simp;exact ω247
 refine⟨?_,h2⟩
 unfold Builtin.Range.small
 rw[h2]
 unfold Builtin.Range.rangeFitsLong
 simp;exact ω134 h rfl
theorem aa.yg{b:Int}{u:Tok}{Q:Value→Shared→Prop}(S:aa c L V G s)(h:∀r t v s',aa c L V (.ow (own r (ck (iX 0 b 1 t u v)) ())::G) s'→Q (.ref r) s'):Wp c A (call (.type "range") [.int b u]) Q s:=
 call_range_1 (h _ _ _ _ (S.push (tk:=s.toks+1+1) (ck (iX 0 b 1 s.toks u (s.toks+1))) () (fun ν ν=>rfl) (by lia)))
theorem aa.xW{a b d:Int}{t u v:Tok}{Q:Value→Shared→Prop}(S:aa c L V G s)(hd:d≠0)(hp:d.natAbs<1073741824)(h:∀r s',aa c L V (.ow (own r (ck (iX a b d t u v)) ())::G) s'→Q (.ref r) s'):Wp c A (call (.type "range") [.int a t,.int b u,.int d v]) Q s:=
 call_range_3 hd (h _ _ (S.push (ck (iX a b d t u v)) () fun ν ν=>rfl)) (.inl (PyProof.noPylong_small hp))
theorem aa.uB{α β γ δ ε:Type}{a b d:Addr}{T:Tb α}{x:α}{U:Tb β}{y:β}(S:aa c L V G s)(h:bA G (.ow (own a T x)) R1)(h2:bA R1 (.ow (own b U y)) R){h':Heap}{tk:Nat}{oa ob od:Obj}(T':Tb γ)(x':γ)(U':Tb δ)(y':δ)(W:Tb ε)(z:ε)
 (hk:∀p o,p≠a→p≠b→s.heap.get? p=some o→h'.get? p=some o) (ha:h'.get? a=some oa) (hb:h'.get? b=some ob) (hd':s.heap.objs.size≤d) (hd:h'.get? d=some od)
 (ra:∀B,Kh R B→T'.rel B oa x') (rb:∀B,Kh R B→U'.rel B ob y') (rd:∀B,Kh R B→W.rel B od z) (ht:autoParam (s.toks≤tk) B8):
 aa c L V (.ow (own d W z):: .ow (own a T' x'):: .ow (own b U' y')::R) {s with heap:=h',toks:=tk}:=by
 have hdn:=bS hd'
 obtain⟨B,S⟩:=(S.front h).perm ((h2.perm.cons _).trans (List.Perm.refl _))
 refine gb (S.own _ (.head _)) fun o1 e1 eB1 eL1 eS1 r1=>?_
 refine gb (S.own _ (.tail _ (.head _))) fun o2 e2 eB2 eL2 eS2 r2=>?_
 simp only[kc] at e1 eB1 eL1 eS1 e2 eB2 eL2 eS2
 have hnd:=List.nodup_cons.mp S.nodup
 have hnd2:=List.nodup_cons.mp hnd.2
 refine⟨B,{S with tk:=Nat.le_trans S.tk ht,keep:=fun p x e'=>hk p x (by intro υ0;obtain rfl:=υ0;rw[eB1] at e';cases e') (by intro υ0;obtain rfl:=υ0;rw[eB2] at e';cases e') (S.keep p x e'),loc:=?_,own:=fun w hw=>?_,nodup:=?_}⟩
 ·obtain⟨m,⟨o,es,ep,eo,r⟩,hv⟩:=S.loc
  exact⟨m,⟨o,es,ep,hk _ _ (Ne.symm eL1) (Ne.symm eL2) eo,r⟩,hv⟩
 ·rcases List.mem_cons.mp hw with rfl|hw
  ·exact⟨od,hd,S.oW hdn,S.newL hdn,S.tY hd',rd B S.know⟩
  rcases List.mem_cons.mp hw with rfl|hw
  ·exact⟨oa,ha,eB1,eL1,eS1,ra B S.know⟩
  rcases List.mem_cons.mp hw with rfl|hw
  ·exact⟨ob,hb,eB2,eL2,eS2,rb B S.know⟩
  ·refine aj (S.own w (.tail _ (.tail _ hw))) fun o₁ e₁ r₁=>?_
   have n1:w.a≠a:=fun q=>hnd.1 (List.mem_map.mpr ⟨w,.tail _ hw,q⟩)
   have n2:w.a≠b:=fun q=>hnd2.1 (List.mem_map.mpr ⟨w,hw,q⟩)
   exact⟨o₁,hk _ _ n1 n2 e₁,r₁⟩
 ·exact List.nodup_cons.mpr ⟨S.wC hdn,S.nodup⟩
theorem aa.apart{w w':Ow}(S:aa c L V (.ow w:: .ow w'::G) s):w.a≠w'.a:=by
 obtain⟨B,S⟩:=S
 intro q
 exact(List.nodup_cons.mp S.nodup).1 (List.mem_map.mpr ⟨w',.head _,q.symm⟩)
noncomputable def u9(it:Addr)(i:Int):Tb Unit:=⟨fun ν o ν=>∃old,o={cls:=.type "enumerate",dict:=none,data:=.fields #[.none,.bool false,.ref it,rawInt i,.none,old],slots:=#[]},fun ν r=>r,fun⟨_,e⟩=>e▸rfl⟩
noncomputable def numbered{α:Type}(xs:List α):List (Int×α):=((List.range xs.length).map fun(i:Nat)=>(i:Int)).zip xs
theorem qb{α:Type}{xs:List α}{i:Nat}{p:Int×α}:(numbered xs)[i]?=some p↔p.1=i∧xs[i]?=some p.2:=by
 unfold numbered
 rw[List.getElem?_zip_eq_some]
 rw[List.getElem?_map]
 constructor
 ·intro υ0;obtain⟨h1,h2⟩:=υ0
  refine aj (Option.map_eq_some_iff.mp h1) fun j hj e=>?_
  have:=(List.getElem?_eq_some_iff.mp hj).2
  simp at this
  exact⟨by rw[←e,this],h2⟩
 ·intro υ0;obtain⟨h1,h2⟩:=υ0
  have:=(List.getElem?_eq_some_iff.mp h2).1
  exact⟨by rw[List.getElem?_range this,h1];rfl,h2⟩
theorem oz{α:Type}{xs:List α}{i:Nat}(h:(numbered xs)[i]?=none):xs[i]?=none:=by
 have:=List.getElem?_eq_none_iff.mp h
 unfold numbered at this
 rw[List.length_zip,List.length_map,List.length_range,Nat.min_self] at this
 exact List.getElem?_eq_none_iff.mpr this
theorem ud{α:Type}{T:Ty α}{a it e:Addr}{xs:List α}{vs:List Value}{n:Nat}{elts:List Expr}{x1:Nat}{pos:Pos}:
 ig c (.ref e) (.Tuple elts x1 pos) (bY ao T) (numbered xs) (fun i=>[.ow (own e (u9 it i) ()),.ow (own it (bE "list_iterator" #[.ref a,.int i 0]) ()),.kn (held a (aC vs n)),.kn (rows T vs xs)]) [] where
 src:={
  next:=by
   intro A L V G s i x Q hh S hx h
   have hne:=S.apart
   refine av (S.get (.head _)) fun ν0 o1 e1 π53 ν4=>?_;obtain⟨old,rfl⟩:=π53
   refine av (S.get (.tail _ (.head _))) fun ν0 o2 e2 π53 ν4=>?_;obtain⟨hc,hd⟩:=π53
   have hl:=aA (S.aF (.tail _ (.tail _ (.head _))))
   obtain⟨hx1,hx2⟩:=qb.mp hx
   refine aj (S.dX (.tail _ (.tail _ (.tail _ (.head _)))) hx2) fun v hv S=>?_
   refine wpAny_pyNext_enum_item (it:=it) (l:=a) (i:=i) e1 ⟨o2,e2,hc,hd⟩ hl (by simpa using hv) hne fun h' hout hit' htup hsz hk=>⟨_,rfl,?_⟩
   refine wpAny_letOwnedTupleGo_enum hout fun h'' hen hs=>h _ _ ?_
   refine bL hit' fun o2' e2' hc' hd'=>?_;try clear hit'
   have n1:s.heap.objs.size≠e:=Nat.ne_of_gt (Heap.lt_size e1)
   have n2:it≠e:=Ne.symm hne
   have S2:=S.uB (tk:=s.toks+1) (.there .here) (.there .here) (u9 it ((i+1:Nat):Int)) () (bE "list_iterator" #[.ref a,.int (i+1:Nat) 0]) () (pX (Row.cons ao (Row.one T))) x
    (fun p o q1 q2 e'=>(hs.2 p q1).trans (hk p o q1 q2 e')) hen ((hs.2 _ n2).trans e2') (Nat.le_refl _) ((hs.2 _ n1).trans htup) (fun ν ν=>⟨_,by simp;rfl⟩) (fun ν ν=>⟨hc',hd'⟩)
    fun B k=>⟨[.int (i:Nat) s.toks,v],0,rfl,rfl,⟨s.toks,by rw[hx1]⟩,k.at (.head _),trivial⟩
   have S3:=S2.freeze .here
   exact S3.sub (.kn (.head _) (.drop (.own .here (.own .here (.drop .all)))))
  stop:=by
   intro A L V G s i Q hh S hx h
   have hne:=S.apart
   refine av (S.get (.head _)) fun ν0 o1 e1 π53 ν4=>?_;obtain⟨old,rfl⟩:=π53
   refine av (S.get (.tail _ (.head _))) fun ν0 o2 e2 π53 ν4=>?_;obtain⟨hc,hd⟩:=π53
   have hl:=aA (S.aF (.tail _ (.tail _ (.head _))))
   have hlen:=S.gC (.tail _ (.tail _ (.tail _ (.head _))))
   have hn:vs.toArray[i]?=none:=by
    have:=List.getElem?_eq_none_iff.mp (oz hx)
    simp[hlen,this]
   exact wpAny_pyNext_enum_end (it:=it) (l:=a) (i:=i) hh e1 ⟨o2,e2,hc,hd⟩ hl hn fun h' hk=>h _ ((S.lose (.there .here) hk).sub (.drop (.drop (.drop .all))))}
 self:=by
  intro A L V G s i Q S h
  refine av (S.get (.head _)) fun ν0 o1 e1 π53 ν4=>?_;obtain⟨old,rfl⟩:=π53
  exact wpAny_pyIter_enum e1 h
theorem aa.Ae{α:Type}{T:Ty α}{v:Value}{xs:List α}{Q:Value→Shared→Prop}(S:aa c L V G s)(h: .kn (is (Ty.list T) v xs)∈G)
 (hQ:∀e (F:Nat→List Fa) s',(∀elts x1 pos,ig c (.ref e) (.Tuple elts x1 pos) (bY ao T) (numbered xs) F [])→aa c L V (F 0++G) s'→Q (.ref e) s'):Wp c A (call (.type "enumerate") [v]) Q s:=by
 refine aj (S.cX h) fun a π31 ν2=>?_;rcases π31 with rfl
 refine fZ (S.eF h) fun vs n S=>?_
 have ha:=S.aF (.head _)
 refine call_enumerate_1 ha fun h' hen hit hsz hk=>?_
 refine hQ _ (fun i=>[.ow (own (s.heap.objs.size+1) (u9 s.heap.objs.size i) ()),.ow (own s.heap.objs.size (bE "list_iterator" #[.ref a,.int i 0]) ()),.kn (held a (aC vs n)),.kn (rows T vs xs)]) _ (fun ν ν ν=>ud) ?_
 refine bL hit fun o2 e2 hc hd=>?_;try clear hit
 obtain⟨B,S⟩:=S
 have n1:=bS (h:=s.heap) (a:=s.heap.objs.size) (Nat.le_refl _)
 have n2:=bS (h:=s.heap) (a:=s.heap.objs.size+1) (Nat.le_succ _)
 have S':=S.heap (tk:=s.toks) hk
 refine⟨B,{S' with know:=fun k hk=>S.know k hk,own:=fun w hw=>?_,nodup:=?_}⟩
 ·rcases List.mem_cons.mp hw with rfl|hw
  ·exact⟨_,hen,S.oW n2,S.newL n2,S.tY (Nat.le_succ _),⟨_,rfl⟩⟩
  rcases List.mem_cons.mp hw with rfl|hw
  ·exact⟨_,e2,S.oW n1,S.newL n1,S.tY (Nat.le_refl _),hc,hd⟩
  ·exact S'.own w hw
 ·refine List.nodup_cons.mpr ⟨fun hm=>?_,List.nodup_cons.mpr ⟨S.wC n1,S.nodup⟩⟩
  rcases List.mem_cons.mp hm with q|hm
  ·exact absurd q (Nat.succ_ne_self _)
  ·exact S.wC n2 hm
end
end Mine
namespace Mine
noncomputable def jG(l:List Str):List Tx:=l.map fun x=>x.cps.toList
noncomputable def cnt(x y:Tx):Int:=Txt.count (tx x) (tx y)
noncomputable def aJ(x y:Tx):List Tx:=jG (Txt.split (tx x) (tx y))
noncomputable def gz(x y:Tx):List Tx:=jG (Txt.splitMax (tx x) (tx y) 1)
noncomputable def cK(x y:Tx):List Tx:=jG (Txt.rsplitMax (tx x) (tx y) 1)
noncomputable def dR(x y z:Tx):Tx:=(Txt.replace (tx x) (tx y) (tx z)).cps.toList
noncomputable def cE(x:Tx)(l:List Tx):Tx:=(Txt.join (tx x) (l.map tx)).cps.toList
noncomputable def bZ(n:Int):Tx:=(Str.ofString (toString n)).cps.toList
theorem mJ(B:Mem):∀(l:List Str) (k:Nat),az (ah.rel B) (strsFrom k l) (jG l)
 | [],_=>.nil
 |x::l,k=>.cons ⟨k,rfl⟩ (mJ B l (k+1))
section
variable{c:Cx}{A:Around}{L C:Addr}{V V' VC:ay}{G R R1:List Fa}{s:Shared}{env cenv:Env}{t u v:Tok}
theorem aa.zv{x y:Tx}{Q:Value→Shared→Prop}(S:aa c L V G s)(h:∀t s',aa c L V G s'→Q (.int (cnt x y) t) s'):Wp c A (call (.builtin "str.count") [.str (tx x) t,.str (tx y) u]) Q s:=SC.count (h _ _ S.toks)
theorem aa.kQ{x y z:Tx}{Q:Value→Shared→Prop}(S:aa c L V G s)(hu:u≠0)(hv:v≠0)(huv:u≠v)(hyz:y≠z)(hsz:x.length+(x.length+1)*z.length≤16777216)(h:∀t s',aa c L V G s'→Q (.str (tx (dR x y z)) t) s'):
 Wp c A (call (.builtin "str.replace") [.str (tx x) t,.str (tx y) u,.str (tx z) v]) Q s:=
 wt (SC.replace hu hv huv (by
  rw[beq_eq_false_iff_ne];exact fun q=>hyz (dM q)) (by simpa using hsz) fun t' k hk=>h _ _ (S.toks (ht:=hk)))
theorem aa.nB{l:List Str}{k:Nat}{Q:Value→Shared→Prop}(S:aa c L V G s)(h:∀a s',aa c L V (.ow (own a (ai ah) (jG l))::G) s'→Q (.ref a) s'):
 Q (.ref s.heap.objs.size) {s with toks:=s.toks+k,heap:=s.heap.push {cls:=.type "list",data:=.seq (strsFrom s.toks l).toArray}}:=
 h _ _ (S.push (tk:=s.toks+k) (ai ah) (jG l) (fun B ν=>⟨_,0,rfl,mJ B l s.toks⟩) (by lia))
theorem aa.dD{x:Tx}{Q:Value→Shared→Prop}(S:aa c L V G s)(h:∀a s',aa c L V (.ow (own a (ai ah) [x])::G) s'→Q (.ref a) s'):
 Q (.ref s.heap.objs.size) {s with heap:=s.heap.push {cls:=.type "list",data:=.seq [Value.str (tx x) t].toArray}}:=
 h _ _ (S.push (tk:=s.toks) (ai ah) [x] fun B ν=>⟨_,0,rfl,.cons ⟨t,rfl⟩ .nil⟩)
theorem aa.yM{x y:Tx}{Q:Value→Shared→Prop}(S:aa c L V G s)(hy:y≠[])(hsz:x.length≤1000000)(h2:(aJ x y).length≤1000000)(h:∀a s',aa c L V (.ow (own a (ai ah) (aJ x y))::G) s'→Q (.ref a) s'):
 Wp c A (call (.builtin "str.split") [.str (tx x) t,.str (tx y) u]) Q s:=by
 have hy':((tx y).length ==0)=false:=by rw[aq,beq_eq_false_iff_ne];exact fun q=>hy (List.length_eq_zero_iff.mp q)
 have hx:(tx x).length≤sizeLine:=by rw[aq];unfold sizeLine;lia
 unfold aJ Txt.split at h h2
 cases h1:(decide ((tx x).length <(tx y).length)||decide (Builtin.Str.strKind (tx x)<Builtin.Str.strKind (tx y)))
 ·rw[h1] at h h2
  rw[if_neg Bool.false_ne_true] at h h2
  cases hf:(Builtin.Str.occurrences (tx x) (tx y) 0 (tx x).length ((tx x).length +1)).isEmpty
  ·rw[hf] at h h2
   rw[if_neg Bool.false_ne_true] at h h2
   refine call_meets F.slot_str_split (typeIs_str _ _ _) F.entry_str_split (F.args_str_split_2 _ _) (meets_str_split_sep (tx x) (tx y) t u h1 hy' hf hx (by unfold sizeLine;unfold jG at h2;rw[List.length_map] at h2;lia)) (S.nB h)
  ·rw[hf] at h
   rw[if_pos rfl] at h
   exact call_meets F.slot_str_split (typeIs_str _ _ _) F.entry_str_split (F.args_str_split_2 _ _) (meets_str_split_not_found (tx x) (tx y) t u h1 hy' hf) (S.dD h)
 ·rw[h1] at h
  rw[if_pos rfl] at h
  exact call_meets F.slot_str_split (typeIs_str _ _ _) F.entry_str_split (F.args_str_split_2 _ _) (meets_str_split_cannot_occur (tx x) (tx y) t u h1) (S.dD h)
theorem aa.xU{x y:Tx}{Q:Value→Shared→Prop}(S:aa c L V G s)(hy:y≠[])(hsz:x.length≤1000000)(h2:(gz x y).length≤1000000)(h:∀a s',aa c L V (.ow (own a (ai ah) (gz x y))::G) s'→Q (.ref a) s'):
 Wp c A (call (.builtin "str.split") [.str (tx x) t,.str (tx y) u,.int 1 v]) Q s:=by
 have hy':((tx y).length ==0)=false:=by rw[aq,beq_eq_false_iff_ne];exact fun q=>hy (List.length_eq_zero_iff.mp q)
 have hx:(tx x).length≤sizeLine:=by rw[aq];unfold sizeLine;lia
 unfold gz Txt.splitMax at h h2
 cases h1:(decide ((tx x).length <(tx y).length)||decide (Builtin.Str.strKind (tx x)<Builtin.Str.strKind (tx y)))
 ·rw[h1] at h h2
  rw[if_neg Bool.false_ne_true] at h h2
  cases hf:(Builtin.Str.occurrences (tx x) (tx y) 0 (tx x).length (limitOf (tx x) 1)).isEmpty
  ·rw[hf] at h h2
   rw[if_neg Bool.false_ne_true] at h h2
   refine call_meets F.slot_str_split (typeIs_str _ _ _) F.entry_str_split (F.args_str_split_3 _ _ _) (meets_str_split_sep_max (tx x) (tx y) 1 t u v (by decide) h1 hy' hf hx (by unfold sizeLine;unfold jG at h2;rw[List.length_map] at h2;lia)) (S.nB h)
  ·rw[hf] at h
   rw[if_pos rfl] at h
   exact call_meets F.slot_str_split (typeIs_str _ _ _) F.entry_str_split (F.args_str_split_3 _ _ _) (meets_str_split_max_not_found (tx x) (tx y) 1 t u v (by decide) h1 hy' hf) (S.dD h)
 ·rw[h1] at h
  rw[if_pos rfl] at h
  exact call_meets F.slot_str_split (typeIs_str _ _ _) F.entry_str_split (F.args_str_split_3 _ _ _) (meets_str_split_max_cannot_occur (tx x) (tx y) 1 t u v (by decide) h1) (S.dD h)
theorem aa.uY{x y:Tx}{Q:Value→Shared→Prop}(S:aa c L V G s)(hy:y≠[])(hsz:x.length≤1000000)(h2:(cK x y).length≤1000000)(h:∀a s',aa c L V (.ow (own a (ai ah) (cK x y))::G) s'→Q (.ref a) s'):
 Wp c A (call (.builtin "str.rsplit") [.str (tx x) t,.str (tx y) u,.int 1 v]) Q s:=by
 have hy':((tx y).length ==0)=false:=by rw[aq,beq_eq_false_iff_ne];exact fun q=>hy (List.length_eq_zero_iff.mp q)
 have hx:(tx x).length≤sizeLine:=by rw[aq];unfold sizeLine;lia
 unfold cK Txt.rsplitMax at h h2
 cases h1:(decide ((tx x).length <(tx y).length)||decide (Builtin.Str.strKind (tx x)<Builtin.Str.strKind (tx y)))
 ·rw[h1] at h h2
  rw[if_neg Bool.false_ne_true] at h h2
  cases hf:(Builtin.Str.occurrencesFromRight (tx x) (tx y) (limitOf (tx x) 1)).isEmpty
  ·rw[hf] at h h2
   rw[if_neg Bool.false_ne_true] at h h2
   refine call_meets F.slot_str_rsplit (typeIs_str _ _ _) F.entry_str_rsplit (F.args_str_rsplit_3 _ _ _) (meets_str_rsplit_sep_max (tx x) (tx y) 1 t u v (by decide) h1 hy' hf hx (by unfold sizeLine;unfold jG at h2;rw[List.length_map] at h2;lia)) (S.nB h)
  ·rw[hf] at h
   rw[if_pos rfl] at h
   exact call_meets F.slot_str_rsplit (typeIs_str _ _ _) F.entry_str_rsplit (F.args_str_rsplit_3 _ _ _) (meets_str_rsplit_max_not_found (tx x) (tx y) 1 t u v (by decide) h1 hy' hf) (S.dD h)
 ·rw[h1] at h
  rw[if_pos rfl] at h
  exact call_meets F.slot_str_rsplit (typeIs_str _ _ _) F.entry_str_rsplit (F.args_str_rsplit_3 _ _ _) (meets_str_rsplit_max_cannot_occur (tx x) (tx y) 1 t u v (by decide) h1) (S.dD h)
theorem mT{B:Mem}{vs:List Value}{xs:List Tx}(h:az (ah.rel B) vs xs):∃l:List (Str×Tok),strValues l=vs∧l.map (·.1)=xs.map tx:=by
 induction h with
 |nil=>exact⟨[],rfl,rfl⟩
 |cons h _ ih=>
  refine aj ih fun l e1 e2=>?_;try clear ih
  obtain⟨t,e⟩:=h
  exact⟨(_,t)::l,by rw[e,←e1];rfl,by rw[List.map_cons,List.map_cons,e2];rfl⟩
theorem l8(sep:Nat)(l:List Str)(k:Nat)(b n:Nat)(hb:∀x∈l,x.length≤b)(hn:l.length≤n):l.foldl (fun a x=>a+x.length+sep) k≤k+n*(b+sep):=by
 induction l generalizing k n with
 |nil=>simp
 |cons x l ih=>
  cases n with
  |zero=>simp at hn
  |succ n=>
   rw[List.foldl_cons]
   have h1:=ih (k+x.length+sep) n (fun y hy=>hb y (.tail _ hy)) (by simpa using hn)
   have h2:=hb x (.head _)
   have h3:(n+1)*(b+sep)=n*(b+sep)+(b+sep):=Nat.succ_mul _ _
   exact id (ω112 h1 h2)
theorem zC{x:Tx}{l:List Tx}(hx:x.length≤100)(hb:∀y∈l,y.length≤1000)(hn:l.length≤1000):JoinOk (tx x) (l.map tx)=true:=by
 unfold JoinOk Builtin.Str.tooLong sizeLine
 have:=l8 x.length (l.map tx) 0 1000 1000 (fun y hy=>by
  refine aj (List.mem_map.mp hy) fun z hz π32=>?_;rcases π32 with rfl
  rw[aq];exact hb z hz) (by rw[List.length_map];exact hn)
 rw[List.foldl_toArray',aq]
 simp only[gt_iff_lt,Bool.not_eq_true',decide_eq_false_iff_not,Nat.not_lt]
 have h2:1000*(1000+x.length)≤1000*1100:=Nat.mul_le_mul_left _ (by lia)
 exact id (ω137 hx this rfl)
 simp
theorem aa.Ab{x:Tx}{w:Value}{xs:List Tx}{Q:Value→Shared→Prop}(S:aa c L V G s)(hm:At G w (ai ah) xs)(hx:x.length≤100)(hb:∀y∈xs,y.length≤1000)(hn:xs.length≤1000)(h:∀t s',aa c L V G s'→Q (.str (tx (cE x xs)) t) s'):
 Wp c A (call (.builtin "str.join") [.str (tx x) t,w]) Q s:=by
 refine jH (S.gP hm) fun a vs n π83 ν4 e ν6 S'=>?_;rcases π83 with rfl
 refine aj (S'.fact fun B k ν=>mT (k.at (.head _):az (ah.rel B) vs xs)) fun l e1 e2=>?_
 refine wt (SC.join (l:=l) (texts:=xs.map tx) ⟨_,e,rfl,n,by rw[e1]⟩ e2 (zC hx hb hn) fun t' k hk=>h _ _ (S.toks (ht:=hk)))
theorem aa.xE{i:Int}{Q:Value→Shared→Prop}(S:aa c L V G s)(hi:i.natAbs<10^10)(h:∀t s',aa c L V G s'→Q (.str (tx (bZ i)) t) s'):Wp c A (call (.type "str") [.int i t]) Q s:=by
 refine P.str_of_int (Nat.lt_of_le_of_lt (m:=40) ?_ (by decide)) (h _ _ S.toks)
 rcases Nat.eq_zero_or_pos i.natAbs with e|e
 ·rw[e];decide
 ·have:=Nat.log2_lt (n:=i.natAbs) (k:=40) (by exact id (ω177 rfl e))
  exact Nat.le_of_lt (this.mpr (by exact ω193 hi rfl))
theorem aa.xY{i:Int}{Q:Value→Shared→Prop}(S:aa c L V G s)(h0:0≤i)(hi:i<10^10)(h:∀t s',aa c L V G s'→Q (.int i t) s'):Wp c A (call (.type "int") [.str (tx (bZ i)) t]) Q s:=
 KIN.call_num h0 hi (h _ _ S.toks)
theorem tG{B:Mem}{vs:List Value}{xs:List Int}(h:az (ao.rel B) vs xs):AllInts vs.toArray∧numsOf vs=xs:=by
 induction h with
 |nil=>exact⟨fun v hv=>by simp at hv,rfl⟩
 |cons h _ ih=>
  obtain⟨t,rfl⟩:=h
  refine⟨fun v hv=>?_,by unfold numsOf;rw[ih.2]⟩
  rcases List.mem_cons.mp (by simpa using hv) with rfl|hv
  ·exact⟨_,_,rfl⟩
  ·exact ih.1 v (by simpa using hv)
theorem aa.BG{w:Value}{xs:List Int}{Q:Value→Shared→Prop}(hh:A.handled=none)(S:aa c L V G s)(hm:At G w (ai ao) xs)(h:∀t s',aa c L V G s'→Q (.int xs.sum t) s'):Wp c A (call (.builtin "sum") [w]) Q s:=by
 refine jH (S.gP hm) fun a vs n π83 ν4 e ν6 S'=>?_;rcases π83 with rfl
 obtain⟨hall,hnum⟩:=S'.fact fun B k ν=>tG (k.at (.head _):az (ao.rel B) vs xs)
 obtain⟨ys,hys⟩:=hall.items
 refine wt (sum_intListG (xs:=ys) hh (hys▸⟨_,e,rfl,n,rfl⟩) fun h' tk t' hk ht=>?_)
 have e2:preSum (numAt ys) ys.size=xs.sum:=by
  rw[←hnum]
  have:=nums_intItems ys
  rw[←hys] at this
  rw[preSum_eq,List.take_of_length_le (by simp),←this]
 rw[e2]
 exact h _ _ (S.heap hk ht)
theorem az.dropLast{α β:Type}{r:α→β→Prop}{l:List α}{m:List β}(h:az r l m):az r l.dropLast m.dropLast:=by
 rw[List.dropLast_eq_take,List.dropLast_eq_take,h.length];exact h.take _
theorem aa.BE{α:Type}{T:Ty α}{a:Addr}{xs:List α}{x:α}{pos:Pos}{Q:Value→Shared→Prop}(S:aa c L V G s)(hm:bA G (.ow (own a (ai T) (xs++[x]))) R)(hsz:xs.length≤1000000)
 (h:∀v s',aa c L V (.kn (is T v x):: .ow (own a (ai T) xs)::R) s'→Q v s'):Wp c A (callWith pos (.builtin "list.pop") [.ref a] [] []) Q s:=by
 refine av (S.aQ (hm.perm.mem_iff.mpr (.head _))) fun vs n e hl S'=>?_
 rw[List.length_append,List.length_singleton] at hl
 refine aj (S'.dX (i:=xs.length) (x:=x) (.head _) (by simp)) fun y hy S'=>?_
 refine P.pop_list (n:=n) (y:=y) e (by rw[List.size_toArray,hl];simpa using hy) (h _ _ ?_) (by rw[List.size_toArray,hl];unfold sizeLine;lia)
 have e3:vs.toArray.eraseIdxIfInBounds (vs.toArray.size-1)=vs.dropLast.toArray:=by
  have hlt:vs.toArray.size-1<vs.toArray.size:=by rw[List.size_toArray];exact ω185 hl
  rw[Array.eraseIdxIfInBounds,dif_pos hlt]
  apply Array.toList_inj.mp
  rw[Array.toList_eraseIdx]
  rw[List.size_toArray]
  simp only[List.dropLast_eq_take]
  rw[List.eraseIdx_eq_take_drop_succ,List.drop_of_length_le (by exact ω115 hl),List.append_nil]
 obtain⟨n',he⟩:∃n',(s.heap.update a (Obj.mapSeq fun xs=>xs.eraseIdxIfInBounds (vs.toArray.size-1))).get? a=some (aC vs.dropLast n'):=by
  have:=get?_update_seq e fun xs=>xs.eraseIdxIfInBounds (vs.toArray.size-1)
  rw[e3] at this
  exact⟨_,this⟩
 have S2:=S'.turn (tk:=s.toks) (.there (.there hm)) (ai T) xs (Heap.SameBut.update s.heap a _) he fun B ν ν k ν=>⟨vs.dropLast,n',rfl,by
  have:=az.dropLast (k.at (.tail _ (.head _)):az (T.rel B) vs (xs++[x]))
  simpa using this⟩
 exact S2.sub (.kn (.tail _ (.head _)) (.own .here (.drop (.drop .all))))
end
end Mine
namespace Mine
section
variable{c:Cx}{A:Around}{L C:Addr}{V V' VC:ay}{G R R1:List Fa}{s:Shared}{env cenv:Env}{t u v:Tok}
theorem yS(elt target iter target' iter':Expr)(ifs':List Expr)(scope:Scope)(pos:Pos)(it acc:Value)(env:Env):
 compTurn (.ListComp elt [⟨target,iter,[],0⟩,⟨target',iter',ifs',0⟩] scope pos) 0 it acc env=oE (.ListComp elt [⟨target,iter,[],0⟩,⟨target',iter',ifs',0⟩] scope pos) 0 it acc env ⟨target,iter,[],0⟩
  (do let x ←eval iter' env
      standAt iter'.pos
      let x ←foldedSetIterable iter' env x
      let _ ←runOwn (.compStart (.ListComp elt [⟨target,iter,[],0⟩,⟨target',iter',ifs',0⟩] scope pos) 1 (←holding [x] (pyIter x)) acc env) env
      again (.compLoop (.ListComp elt [⟨target,iter,[],0⟩,⟨target',iter',ifs',0⟩] scope pos) 0 it acc env)):=rfl
theorem zz(elt target iter target' iter':Expr)(ifs':List Expr)(scope:Scope)(pos:Pos)(it acc:Value)(env:Env):
 compTurn (.ListComp elt [⟨target,iter,[],0⟩,⟨target',iter',ifs',0⟩] scope pos) 1 it acc env=nU (.ListComp elt [⟨target,iter,[],0⟩,⟨target',iter',ifs',0⟩] scope pos) 1 it acc env ⟨target',iter',ifs',0⟩
  (eval elt env>>=fun x=>call (.builtin "list.append") [acc,x]>>=fun ν=>pure ()):=rfl
theorem w9{elt target iter target' iter':Expr}{ifs':List Expr}{scope:Scope}(cl:List (Str×Addr)){pos spos ypos:Pos}{y:Str}{Q:Flow→Shared→Prop}
 (h:Wp c A (eval iter env) (fun x s₁=>Wp c A (pyIter x) (fun it s₂=>Wp c A (newList []) (fun acc s₃=>∃L V G,aa c L V G s₃∧∀C s₄,aa c C (bN scope.names) (aI (aG (cellsFrom (C+1) scope.names []) (fun ν=>none) scope.names)++ .ow (own L bC V)::G) s₄→
   codeAny (model c.prog c.w) A (.compStart (.ListComp elt [⟨target,iter,[],0⟩,⟨target',iter',ifs',0⟩] scope pos) 0 it acc (aN scope cl C env)) (fun r s₅=>r= .ok .next∧bh c A L (some (assign (.Name y ypos) env)) (fun ν s'=>Q .next s') acc C s₅) s₄) s₂) s₁) s)
 (hclos:autoParam (closureFor scope env=pure cl) af) (hs:autoParam (∀x,foldedSetIterable iter env x=pure x) ua) (hkind:autoParam (scope.kind= .function) af) (hn:autoParam ((scope.names.map (·.1)).Nodup) ym)
 (hsw:autoParam (swapsWith (.ListComp elt [⟨target,iter,[],0⟩,⟨target',iter',ifs',0⟩] scope pos) (some (.Name y ypos)) spos.line env=pure true) af):
 Wp c A (exec (.Assign [.Name y ypos] (.ListComp elt [⟨target,iter,[],0⟩,⟨target',iter',ifs',0⟩] scope pos) spos) env) Q s:=by
 rw[exec_Assign_Name_used _ _ _ _ hsw]
 refine wpAny_bind (wpAny_standAt (wpAny_bind ?_))
 show Wp c A (do let _ ←comprehension (.ListComp elt [⟨target,iter,[],0⟩,⟨target',iter',ifs',0⟩] scope pos) scope env _ (newList []) false (eval iter env) (some (assign (.Name y ypos) env))) _ s
 exact wpAny_bind (wpAny_mono (gG (Q:=fun ν s'=>Q .next s') rfl hs hclos hkind hn h) (fun ν s' hq=>wpAny_pure (wpAny_pure hq)) fun ν ν x=>x)
end
end Mine
namespace Mine
theorem we{o:Obj}{vs:Array Value}{n:Nat}(h:o.data= .seq vs n):o.isFreed=false:=by obtain⟨c,d,dt,sl⟩:=o;subst h;rfl
noncomputable def gS{α β:Type}(T:Ty α)(U:Ty β):Tb (α×β):=
 ⟨fun B o x=>∃v w n,o.cls= .type "list"∧o.data= .seq #[v,w] n∧T.rel B v x.1∧U.rel B w x.2,fun h ⟨v,w,n,e1,e2,r1,r2⟩=>⟨v,w,n,e1,e2,T.up h r1,U.up h r2⟩,fun⟨_,_,_,_,e,_⟩=>we e⟩
noncomputable def bW:Ty Addr:=⟨fun ν v a=>v= .ref a,fun ν r=>r⟩
section
variable{c:Cx}{A:Around}{L C:Addr}{V V' VC:ay}{G R R1:List Fa}{s:Shared}{env cenv:Env}{t u v:Tok}
theorem aa.iE{α β:Type}{T:Ty α}{U:Ty β}{a:Addr}{x:α×β}(S:aa c L V G s)(h: .ow (own a (gS T U) x)∈G):
 ∃v w,s.heap.IsList a #[v,w]∧aa c L V (.kn (is T v x.1):: .kn (is U w x.2)::G) s:=by
 obtain⟨B,S⟩:=S
 obtain⟨o,e,eB,eL,eS,v,w,n,e1,e2,r1,r2⟩:=S.own _ (dh.mpr h)
 refine⟨v,w,⟨o,e,e1,n,e2⟩,B,{S with know:=fun k hk=>?_}⟩
 rcases List.mem_cons.mp hk with rfl|hk
 ·exact r1
 rcases List.mem_cons.mp hk with rfl|hk
 ·exact r2
 ·exact S.know k hk
theorem aa.Am{α β:Type}{T:Ty α}{U:Ty β}{v w:Value}{x:α×β}{Q:Value→Shared→Prop}(S:aa c L V G s)(hr:∀B,Kh G B→T.rel B v x.1∧U.rel B w x.2)(h:∀a s',aa c L V (.ow (own a (gS T U) x)::G) s'→Q (.ref a) s'):Wp c A (newList [v,w]) Q s:=
 wpAny_newList (h _ _ (S.push (gS T U) x fun B k=>⟨v,w,0,rfl,rfl,(hr B k).1,(hr B k).2⟩)) (Nat.le_of_ble_eq_true rfl)
theorem aa.j3{α β:Type}{T:Ty α}{U:Ty β}{a:Addr}{x:α×β}{elts:List Expr}{x1:Nat}{pos:Pos}{Q:Unit→Shared→Prop}(hh:A.handled=none)(S:aa c L V G s)(h: .ow (own a (gS T U) x)∈G)
 (k:∀v w s',aa c L V (.kn (is T v x.1):: .kn (is U w x.2)::G) s'→Wp c A (assignInOrder ((assignEach elts env).map (·.2)) [v,w]) Q s') (hn:autoParam ((assignEach elts env).length =2) af) (hst:autoParam ((assignEach elts env).findIdx? (·.1)=none) af):Wp c A (assign (.Tuple elts x1 pos) env (.ref a)) Q s:=by
 refine aB (S.iE h) fun v w hl S'=>?_
 rw[arm_assign_Tuple]
 refine wpAny_bind (wpAny_standAt ?_)
 unfold unpack
 rw[hst]
 exact wpAny_bind (wpAny_holding (jA hh hl (by rw[hn];rfl) fun h' he=>k v w _ (S'.ext iC he)))
theorem aa.zL{α β:Type}{T:Ty α}{U:Ty β}{a:Addr}{x:α×β}{Q:Value→Shared→Prop}(S:aa c L V G s)(h: .ow (own a (gS T U) x)∈G)(k:∀w,aa c L V (.kn (is U w x.2)::G) s→Q w s):Wp c A (getItem (.ref a) (.int 1 t)) Q s:=by
 refine aB (S.iE h) fun v w hl S'=>?_
 exact wpAny_getItem_list hl (by exact ω19 1) (by lia) rfl (k w (S'.sub (.kn (.tail _ (.head _)) (.drop (.drop .all)))))
theorem qU{α β:Type}{T:Ty α}{U:Ty β}{a:Addr}{x:α×β}{i:Value}{Q:Value→Shared→Prop}(S:aa c L V G s)(h: .ow (own a (gS T U) x)∈G)(hg:Wp c A (getItem (.ref a) i) Q s):gk c A (.ref a) i Q s:=by
 refine aB (S.iE h) fun v w hl S'=>?_
 exact⟨"list",_,slot_list_getitem.lookup,hl.typeIs,hg⟩
theorem aa.yL{α β:Type}{T:Ty α}{U:Ty β}{a:Addr}{x:α×β}{y:β}{w:Value}{Q:Unit→Shared→Prop}(S:aa c L V G s)(h:bA G (.ow (own a (gS T U) x)) R)(hw:∀B,Kh R B→U.rel B w y)(k:∀s',aa c L V (.ow (own a (gS T U) (x.1,y))::R) s'→Q () s'):Wp c A (setItem (.ref a) (.int 1 t) w) Q s:=by
 refine aB (S.iE (h.perm.mem_iff.mpr (.head _))) fun v w0 hl S'=>?_
 refine wpAny_setItem_list hl (by exact ω19 1) (by lia) (by simp) fun h' hl' hs=>k _ ?_
 obtain⟨o',e',ec,n',ed⟩:=hl'
 have S2:=S'.turn (tk:=s.toks) (.there (.there h)) (gS T U) (x.1,y) hs e' fun B ν ν kh ν=>⟨v,w,n',ec,by rw[ed];rfl,kh.at (.head _),hw B fun q hq=>kh q (.tail _ (.tail _ hq))⟩
 exact S2.sub (.own .here (.drop (.drop .all)))
theorem qX{α:Type}{T:Ty α}{a it:Addr}{xs:List α}{target:Expr}:
 ig c (.ref it) target T xs (fun i=>[.ow (own it (bE "list_iterator" #[.ref a,.int i 0]) ()),.ow (own a (ai T) xs)]) [.ow (own a (ai T) xs)] where
 src:={
  next:=by
   intro A L V G s i x Q hh S hx h
   refine av (S.get (.head _)) fun B o e π53 ν4=>?_;obtain⟨hc,hd⟩:=π53
   refine av (S.aQ (T:=T) (xs:=xs) (.tail _ (.head _))) fun vs n eo hl S'=>?_
   refine aj (S'.dX (.head _) hx) fun v hv S'=>?_
   refine wpAny_pyNext_list_item ⟨o,e,hc,hd⟩ (aA eo) (by simpa using hv) fun h' hit' hs=>⟨v,rfl,?_⟩
   refine bL hit' fun o' e' hc' hd'=>?_;try clear hit'
   have S2:=S'.turn (tk:=s.toks) (.there (.there .here)) (bE "list_iterator" #[.ref a,.int (i+1:Nat) 0]) () hs e' fun ν ν ν ν ν=>⟨hc',hd'⟩
   exact lE e' hc' (by decide) (h _ _ (S2.sub (.kn (.tail _ (.head _)) (.own .here (.drop (.drop .all))))))
  stop:=by
   intro A L V G s i Q hh S hx h
   refine av (S.get (.head _)) fun B o e π53 ν4=>?_;obtain⟨hc,hd⟩:=π53
   refine av (S.aQ (T:=T) (xs:=xs) (.tail _ (.head _))) fun vs n eo hl S'=>?_
   have hn:vs.toArray[i]?=none:=by
    have:xs.length≤i:=by simpa using hx
    simp[hl,this]
   exact wpAny_pyNext_list_end hh ⟨o,e,hc,hd⟩ (aA eo) hn fun h' hk=>h _ (S.lose .here hk)}
 self:=by
  intro A L V G s i Q S h
  refine av (S.get (.head _)) fun B o e π53 ν4=>?_;obtain⟨hc,hd⟩:=π53
  exact wpAny_pyIter_listiter (l:=a) (i:=i) ⟨o,e,hc,hd⟩ h
theorem aa.iO{α:Type}{T:Ty α}{a:Addr}{xs:List α}{Q:Value→Shared→Prop}(S:aa c L V G s)(h:bA G (.ow (own a (ai T) xs)) R)
 (hQ:∀it (F:Nat→List Fa) s',(∀target,ig c it target T xs F [.ow (own a (ai T) xs)])→aa c L V (F 0++R) s'→Q it s'):Wp c A (pyIter (.ref a)) Q s:=by
 refine av (S.aQ (h.perm.mem_iff.mpr (.head _))) fun vs n eo hl S'=>?_
 refine wpAny_pyIter_list (aA eo) (hQ _ _ _ (fun target=>qX (T:=T) (a:=a) (it:=s.heap.objs.size) (xs:=xs) (target:=target)) ?_)
 have S2:=(S.front h).push (tk:=s.toks) (o:={cls:=.type "list_iterator",data:=.fields #[.ref a,.int 0 0]}) (bE "list_iterator" #[.ref a,.int (0:Nat) 0]) () fun ν ν=>⟨rfl,rfl⟩
 exact S2
theorem aa.zo{α β:Type}{T:Ty α}{U:Ty β}{a b:Addr}{xs:List α}{Q:Value→Shared→Prop}(S:aa c L V G s)(h: .ow (own a (ai T) xs)∈G)(h': .ow (own b (ai U) [])∈G)(hu:A.units+1<cLine)(hQ:Q (.bool (!xs.isEmpty)) s):Wp c A (compareOp .NotEq (.ref a) (.ref b)) Q s:=by
 refine av (S.aQ h) fun vs n e hl ν4=>?_
 refine av (S.aQ h') fun ws m e' hl' ν4=>?_
 have hws:ws=[]:=List.length_eq_zero_iff.mp hl'
 subst hws
 cases xs with
 |nil=>
  have hvs:vs=[]:=List.length_eq_zero_iff.mp hl
  subst hvs
  exact SeqAt.RcNeAt.lists (e:=fun ν=>true) (aA e) (aA e') rfl (by exact ω75 hu) (fun j h1 ν=>absurd h1 (by simp)) c.prog c.w _ Q (by simpa using hQ)
 |cons x r=>
  exact SeqAt.RcNeAt.lists_lengths (aA e) (aA e') (by simp[hl]) (by exact ω75 hu) c.prog c.w _ Q (by simpa using hQ)
theorem wW{o:Expr}{name:Str}{apos pos:Pos}{Q:Value→Shared→Prop}
 (h:Wp c A (eval o env) (fun ov s₁=>∃T id,oM T name id∧Of s₁ ov T∧Wp c A (callWith pos (.builtin id) [ov] [] []) Q s₁) s)
 (hbase:autoParam (attributeBase o name env (eval o env)=eval o env) af) (hline:autoParam ((apos.endLine==pos.line)=true) af):Wp c A (eval (.Call (.Attribute o name apos) [] [] pos) env) Q s:=
 wpAny_Call_method0_late hbase hline (wpAny_mono h (fun ν ν ⟨T,id,m,o,w⟩=>⟨T,id,m.pa,m.slot,m.ty,o.1,o.2,w⟩) fun ν ν x=>x)
theorem aa.yP{α:Type}{T:Ty α}{v:Value}{xs:List α}{Q:Bool→Shared→Prop}(S:aa c L V G s)(hm:At G v (ai T) xs)(hsz:xs.length≤1000000)(h:∀s',aa c L V G s'→Q (!xs.isEmpty) s'):Wp c A (truthy v) Q s:=by
 refine jH (S.gP hm) fun a vs n π83 ν4 e hl ν7=>?_;rcases π83 with rfl
 refine wpAny_truthy_list (aA e) (by rw[List.size_toArray,hl];exact ω15 hsz rfl) ?_
 have e2:(!vs.toArray.isEmpty)= !xs.isEmpty:=by
  cases vs with
  |nil=>cases xs with
   |nil=>rfl
   |cons _ _=>simp at hl
  |cons _ _=>cases xs with
   |nil=>simp at hl
   |cons _ _=>simp
 rw[e2]
 exact h _ (S.toks (ht:=by lia))
theorem pD{α β γ:Type}(out:α→List β→List γ)(hsz:∀x l,(out x l).length≤l.length)(ys:List β):∀(xs:List α),(xs.flatMap fun x=>out x ys).length≤xs.length*ys.length
 | []=>by simp
 |x::xs=>by
  rw[List.flatMap_cons,List.length_append,List.length_cons,Nat.succ_mul]
  have:=pD out hsz ys xs
  have:=hsz x ys
  (expose_names;exact id (ω71 this_1 (hsz x ys)))
theorem sD{α β γ:Type}{T:Ty α}{T':Ty β}{xs:List α}{ys:List β}{F:Nat→List Fa}{Z:List Fa}{it:Value}{elt target iter target' iter':Expr}{ifs':List Expr}{scope:Scope}{cl:List (Str×Addr)}{pos:Pos}{use:Option (Value→Sem Unit)}{Q:Value→Shared→Prop}
 (src:ig c it target T xs F Z) (hh:A.handled=none) (U:Ty γ) (out:α→List β→List γ) (Pv:Option α→ay→Prop) (G1:List Fa) (S:aa c L V (F 0++G) s) (hout:∀x,out x []=[]) (hsz:∀x l,(out x l).length≤l.length) (hlen:xs.length*ys.length≤100000)
 (hno:aG (cellsFrom 0 scope.names []) (fun ν=>none) scope.names=[]) (hno':∀C,aG (cellsFrom (C+1) scope.names []) (fun ν=>none) scope.names=[]) (h0:Pv none (bN scope.names)) (hsub:Sub G G1)
 (stepA:∀C a zs o VC x v X s,Pv o VC→aa c C VC (.kn (is T v x):: .ow (own a (ai U) zs):: .ow (own L bC V)::(G1++X)) s→
   Wp c A (assign target (aN scope cl C env) v) (fun ν s₂=>Wp c A (eval iter' (aN scope cl C env)) (fun y s₃=>∃VC',Pv (some x) VC'∧.kn (is (Ty.list T') y ys)∈G1∧aa c C VC' (.ow (own a (ai U) zs):: .ow (own L bC V)::(G1++X)) s₃) s₂) s)
 (stepB:∀C a zs x done y rest VC v X s,ys=done++y::rest→Pv (some x) VC→aa c C VC (.kn (is T' v y):: .ow (own a (ai U) (zs++out x done)):: .ow (own L bC V)::(G1++X)) s→
   Wp c A (assign target' (aN scope cl C env) v) (fun ν s₂=>Wp c A (cy ifs' (aN scope cl C env)) (fun ok s₃=>if ok=true
    then Wp c A (eval elt (aN scope cl C env)) (fun w s₄=>∃VC' z,out x (done++[y])=out x done++[z]∧Pv (some x) VC'∧aa c C VC' (.kn (is U w z):: .ow (own a (ai U) (zs++out x done)):: .ow (own L bC V)::(G1++X)) s₄) s₃
    else∃VC',out x (done++[y])=out x done∧Pv (some x) VC'∧aa c C VC' (.ow (own a (ai U) (zs++out x done)):: .ow (own L bC V)::(G1++X)) s₃) s₂) s)
 (hs':∀C x,foldedSetIterable iter' (aN scope cl C env) x=pure x)
 (hend:∀C a VC s',aa c L V (.ow (own C bC VC):: .ow (own a (ai U) (xs.flatMap fun x=>out x ys))::(Z++G1)) s'→bh c A L use Q (.ref a) C s'):
 Wp c A (newList []) (fun acc s₃=>∃L V G,aa c L V G s₃∧∀C s₄,aa c C (bN scope.names) (aI (aG (cellsFrom (C+1) scope.names []) (fun ν=>none) scope.names)++ .ow (own L bC V)::G) s₄→
  codeAny (model c.prog c.w) A (.compStart (.ListComp elt [⟨target,iter,[],0⟩,⟨target',iter',ifs',0⟩] scope pos) 0 it acc (aN scope cl C env)) (fun r s₅=>r= .ok .next∧bh c A L use Q acc C s₅) s₄) s:=by
 have hL:=S.above
 refine S.nList U [] (fun ν ν=>.nil) (by decide) fun a s₃ S₃=>⟨L,V,_,S₃,fun C s₄ S₄=>?_⟩
 rw[hno' C] at S₄
 have S5:aa c C (bN scope.names) (F 0++(.ow (own a (ai U) []):: .ow (own L bC V)::G1)) s₄:=by
  have p1:(aI []++ .ow (own L bC V):: .ow (own a (ai U) [])::(F 0++G)).Perm (F 0++(.ow (own a (ai U) []):: .ow (own L bC V)::G)):=by
   refine(List.Perm.swap ..).trans ?_
   exact(List.perm_middle.trans (List.Perm.cons _ List.perm_middle)).symm
  exact(S₄.perm p1).sub (Sub.ia (.own .here (.own .here hsub)))
 have outer:codeAny (model c.prog c.w) A (.compLoop (.ListComp elt [⟨target,iter,[],0⟩,⟨target',iter',ifs',0⟩] scope pos) 0 it (.ref a) (aN scope cl C env)) (fun r s₅=>r= .ok .next∧bh c A L use Q (.ref a) C s₅) s₄:=by
  refine lu (g:=⟨target,iter,[],0⟩) src.src hh (yS ..) (fun ν ν=>rfl) (Around.under_of_weight rfl) rfl
   (fun done VC G'=>∃o,Pv o VC∧G'= .ow (own a (ai U) (done.flatMap fun x=>out x ys)):: .ow (own L bC V)::G1) S5 ⟨_,⟨none,h0,rfl⟩,.all⟩ ?_ ?_
  ·intro done x rest VC _ X v s₆ ex υ9 S₆;obtain⟨o,hP,rfl⟩:=υ9
   refine wpAny_mono (stepA C a _ o VC x v X s₆ hP S₆) (fun ν s₇ h₇=>qG (p7 ?_)) fun ν ν x=>x
   refine wpAny_bind (wpAny_mono h₇ (fun y s₈ h₈=>?_) fun ν ν x=>x)
   refine bL h₈ fun VC1 hP1 hys S₈=>?_;try clear h₈
   refine wpAny_bind (wpAny_standAt (wpAny_bind (wpAny_of_eq (hs' C y) (wpAny_bind (wpAny_holding ?_)))))
   refine S₈.mV (T:=T') (xs:=ys) (.tail _ (.tail _ (List.mem_append_left _ hys))) fun it2 F2 s₉ src2 S₉=>?_
   have inner:codeAny (model c.prog c.w) A (.compLoop (.ListComp elt [⟨target,iter,[],0⟩,⟨target',iter',ifs',0⟩] scope pos) 1 it2 (.ref a) (aN scope cl C env))
    (fun r s'=>r= .ok .next∧∃VC',Pv (some x) VC'∧aa c C VC' (.ow (own a (ai U) ((done++[x]).flatMap fun x=>out x ys)):: .ow (own L bC V)::(G1++X)) s') s₉:=by
    refine jk (g:=⟨target',iter',ifs',0⟩) (src2 _).src hh (zz ..) (fun ν ν=>rfl) (Around.under_of_weight rfl) rfl
     (fun done2 VC G'=>Pv (some x) VC∧G'= .ow (own a (ai U) ((done.flatMap fun x=>out x ys)++out x done2)):: .ow (own L bC V)::(G1++X)) S₉ ⟨_,⟨hP1,rfl⟩,by rw[hout,List.append_nil];exact .all⟩ ?_ ?_
    ·intro done2 y2 rest2 VC2 _ X2 v2 t₁ ex2 υ9 T₁;obtain⟨hP2,rfl⟩:=υ9
     have T₁':aa c C VC2 (.kn (is T' v2 y2):: .ow (own a (ai U) ((done.flatMap fun x=>out x ys)++out x done2)):: .ow (own L bC V)::(G1++(X++X2))) t₁:=by rw[←List.append_assoc];exact T₁
     refine wpAny_mono (stepB C a _ x done2 y2 rest2 VC2 v2 _ t₁ ex2 hP2 T₁') (fun ν t₂ k₂=>wpAny_mono k₂ (fun ok t₃ k₃=>?_) fun ν ν x=>x) fun ν ν x=>x
     cases ok with
     |false=>
      rw[if_neg (by decide)] at k₃⊢
      refine bL k₃ fun VC3 eo hP3 T₃=>?_;try clear k₃
      rw[←List.append_assoc] at T₃
      exact⟨VC3,_,⟨hP3,rfl⟩,by rw[eo];exact T₃⟩
     |true=>
      rw[if_pos rfl] at k₃⊢
      refine wpAny_bind (wpAny_mono k₃ (fun w t₄ k₄=>?_) fun ν ν x=>x)
      refine av k₄ fun VC3 z eo hP3 T₄=>?_;try clear k₄
      rw[←List.append_assoc] at T₄
      refine wpAny_bind ?_
      have hl:((done.flatMap fun x=>out x ys)++out x done2).length≤1000000:=by
       have k1:=pD out hsz ys done
       have k2:=hsz x done2
       have k3:done2.length≤ys.length:=by rw[ex2];simp
       have k4:(done.length+1)*ys.length≤xs.length*ys.length:=Nat.mul_le_mul_right _ (by rw[ex];simp)
       rw[Nat.succ_mul] at k4
       rw[List.length_append];lia
      refine T₄.gB (T:=U) (x:=z) (.there .here) (fun B k=>k.at (.head _)) hl fun t₅ T₅=>wpAny_pure ⟨VC3,_,⟨hP3,rfl⟩,?_⟩
      rw[eo,←List.append_assoc]
      exact T₅.sub (.own .here (.drop .all))
    ·intro VC2 _ t₁ υ3 T₁;obtain⟨hP2,rfl⟩:=υ3
     exact⟨rfl,VC2,hP2,by rw[List.flatMap_append];simpa using T₁⟩
   refine wpAny_bind (wpAny_runOwn (show codeAny (model c.prog c.w) A _ _ _ from ?_))
   refine codeAny_mono (fh (g:=⟨target',iter',ifs',0⟩) rfl rfl (fun ν ν=>rfl) (Around.under_of_weight rfl) rfl inner ((src2 target).self S₉ inner) fun ν=>rfl) fun r s' hr=>?_
   obtain⟨rfl,VC2,hP2,S'⟩:=hr
   exact wpAny_pure ⟨rfl,VC2,_,⟨some x,hP2,rfl⟩,S'⟩
  ·intro VC _ s₆ υ3 S₆;obtain⟨o,hP,rfl⟩:=υ3
   refine⟨rfl,hend C a VC s₆ ?_⟩
   have p2:(Z++(.ow (own a (ai U) (xs.flatMap fun x=>out x ys)):: .ow (own L bC V)::G1)).Perm (.ow (own L bC V):: .ow (own a (ai U) (xs.flatMap fun x=>out x ys))::(Z++G1)):=
    (List.perm_middle.trans (List.Perm.cons _ List.perm_middle)).trans (List.Perm.swap ..)
   exact(S₆.perm p2).swap .here hL
 refine fh (g:=⟨target,iter,[],0⟩) rfl rfl (fun ν ν=>rfl) (Around.under_of_weight rfl) rfl outer (src.self S5 outer) fun ν=>rfl
end
end Mine
namespace Mine
noncomputable abbrev B9:=Nat→Nat→(Bool→Shared→Prop)→Shared→Prop
structure Ask(cmp:B9)(n:Nat)(lt:Nat→Nat→Bool)(I:Shared→Prop):Prop where
 ans:∀i j (C:Bool→Shared→Prop) s,i<n→j<n→i≠j→I s→(∀s',I s'→C (lt i j) s')→cmp i j C s
 tr:∀i j k,i<n→j<n→k<n→lt i j=true→lt j k=true→lt i k=true
 tot:∀i j,i<n→j<n→i≠j→lt i j=false→lt j i=true
 oJ:∀i j,i<n→j<n→lt i j=true→lt j i=false
noncomputable def Pn(n:Nat)(p:Array Nat):Prop:=p.toList.Perm (List.range n)
noncomputable def at_(p:Array Nat)(i:Nat):Nat:=p.getD i 0
theorem Pn.size{n:Nat}{p:Array Nat}(h:Pn n p):p.size=n:=by have:=h.length_eq;simpa using this
theorem pV{p:Array Nat}{i:Nat}(h:i<p.size):at_ p i=p[i]:=by unfold at_;simp[Array.getD,h]
theorem at_of{p q:Array Nat}{i j:Nat}(h:p[i]?=q[j]?):at_ p i=at_ q j:=by
 unfold at_;rw[Array.getD_eq_getD_getElem?,Array.getD_eq_getD_getElem?,h]
theorem Pn.lt{n:Nat}{p:Array Nat}(h:Pn n p){i:Nat}(hi:i<n):at_ p i<n:=by
 have hi':i<p.size:=by rw[h.size];exact hi
 rw[pV hi']
 have:=h.mem_iff.mp (show p[i]∈p.toList by simp)
 simpa using this
theorem Pn.ne{n:Nat}{p:Array Nat}(h:Pn n p){i j:Nat}(hi:i<n)(hj:j<n)(hij:i≠j):at_ p i≠at_ p j:=by
 have hi':i<p.size:=by rw[h.size];exact hi
 have hj':j<p.size:=by rw[h.size];exact hj
 rw[pV hi',pV hj']
 have hnd:p.toList.Nodup:=h.symm.nodup List.nodup_range
 intro e
 have e2:p.toList[i]'(by simpa using hi')=p.toList[j]'(by simpa using hj'):=by simpa using e
 have hp:=List.pairwise_iff_getElem.mp hnd
 rcases Nat.lt_or_gt_of_ne hij with q|q
 ·exact hp i j (by simpa using hi') (by simpa using hj') q e2
 ·exact hp j i (by simpa using hj') (by simpa using hi') q e2.symm
theorem Pn.rev{n:Nat}{p:Array Nat}(h:Pn n p)(i j:Nat):Pn n (kas_rev p i j):=(Array.perm_iff_toList_perm.mp (mirror_perm ..)).trans h
theorem Pn.Ca{n:Nat}{p:Array Nat}(h:Pn n p)(i j:Nat):Pn n (bubble p i j):=(Array.perm_iff_toList_perm.mp (bubble_perm ..)).trans h
section
variable{cmp:B9}{n:Nat}{lt:Nat→Nat→Bool}{I:Shared→Prop}
noncomputable def Up(lt:Nat→Nat→Bool)(p:Array Nat)(k:Nat):Prop:=∀i j,i<j→j<k→lt (at_ p i) (at_ p j)=true
noncomputable def Dn(lt:Nat→Nat→Bool)(p:Array Nat)(k:Nat):Prop:=∀i j,i<j→j<k→lt (at_ p j) (at_ p i)=true
theorem Up.one{p:Array Nat}:Up lt p 1:=fun i j h1 h2=>by lia
theorem Up.more(a:Ask cmp n lt I){p:Array Nat}(hp:Pn n p){k:Nat}(hk:k<n)(h1:1≤k)(h:Up lt p k)(hl:lt (at_ p (k-1)) (at_ p k)=true):Up lt p (k+1):=by
 intro i j hij hj
 by_cases e:j<k
 ·exact h i j hij e
 ·obtain rfl:j=k:=by lia
  by_cases e2:i=j-1
  ·subst e2;exact hl
  ·exact a.tr _ _ _ (hp.lt (by exact ω149 hk hij)) (hp.lt (by lia)) (hp.lt hk) (h i (j-1) (by exact ω70 hij e2) (by exact ω56 h1)) hl
theorem Dn.more(a:Ask cmp n lt I){p:Array Nat}(hp:Pn n p){k:Nat}(hk:k<n)(h1:1≤k)(h:Dn lt p k)(hl:lt (at_ p k) (at_ p (k-1))=true):Dn lt p (k+1):=by
 intro i j hij hj
 by_cases e:j<k
 ·exact h i j hij e
 ·obtain rfl:j=k:=by lia
  by_cases e2:i=j-1
  ·subst e2;exact hl
  ·exact a.tr _ _ _ (hp.lt hk) (hp.lt (by lia)) (hp.lt (by exact ω149 hk hij)) hl (h i (j-1) (by exact ω70 hij e2) (by exact ω56 h1))
theorem Dn.rev{p:Array Nat}(hp:Pn n p){k:Nat}(hk:k≤n)(h:Dn lt p k):Up lt (kas_rev p 0 k) k:=by
 intro i j hij hj
 have e:=fun x (hx:x<k)=>at_of (p:=kas_rev p 0 k) (q:=p) (i:=x) (j:=0+k-1-x) (by
  unfold kas_rev
  rw[getElem?_mirror_all (by rw[hp.size];exact hk),if_pos ⟨Nat.zero_le _,hx⟩])
 rw[e i (by exact ω149 hj hij),e j hj]
 exact h _ _ (by exact ω61 hij hj) (by exact ω62 hij hj)
theorem q7(a:Ask cmp n lt I){p:Array Nat}(hp:Pn n p){Q:Nat→Shared→Prop}:∀(f k:Nat) (s:Shared),1≤k→k+f≤n→Up lt p k→I s→
 (∀m s',k≤m→m≤k+f→Up lt p m→(m=k+f∨lt (at_ p m) (at_ p (m-1))=true)→I s'→Q m s')→(kas_asc p f k).kasWp cmp Q s
 |0,k,s,_,_,hu,hI,h=>h k s (Nat.le_refl _) (Nat.le_refl _) hu (.inl rfl) hI
 |f+1,k,s,h1,hk,hu,hI,h=>by
  refine a.ans (at_ p k) (at_ p (k-1)) _ s (hp.lt (by exact ω75 hk)) (hp.lt (by exact ω57 h1 hk)) (hp.ne (by exact ω75 hk) (by exact ω57 h1 hk) (by exact id (ω58 h1))) hI fun s' hI'=>?_
  cases hl:lt (at_ p k) (at_ p (k-1)) with
  |true=>exact h k s' (Nat.le_refl _) (by lia) hu (.inr hl) hI'
  |false=>
   refine q7 a hp f (k+1) s' (by exact ω0 rfl) (by exact ω76 hk) (hu.more a hp (by exact ω75 hk) h1 (a.tot _ _ (hp.lt (by exact ω75 hk)) (hp.lt (by exact ω57 h1 hk)) (hp.ne (by exact ω75 hk) (by exact ω57 h1 hk) (by exact id (ω58 h1))) hl)) hI' fun m s'' m1 m2 m3 m4 m5=>h m s'' (by exact ω88 m1) (by exact ω93 m2) m3 (m4.elim (fun e=>.inl (by lia)) .inr) m5
theorem rt(a:Ask cmp n lt I){p:Array Nat}(hp:Pn n p){Q:Array Nat×Nat×Nat→Shared→Prop}:∀(f k:Nat) (s:Shared),1≤k→k+f≤n→Dn lt p k→I s→
 (∀m s',k≤m→m≤k+f→Dn lt p m→I s'→Q (p,m,0) s')→(kas_desc f p k 0).kasWp cmp Q s
 |0,k,s,_,_,hu,hI,h=>h k s (Nat.le_refl _) (Nat.le_refl _) hu hI
 |f+1,k,s,h1,hk,hu,hI,h=>by
  have hne:=hp.ne (i:=k) (j:=k-1) (by exact ω75 hk) (by exact ω57 h1 hk) (by exact id (ω58 h1))
  refine a.ans (at_ p k) (at_ p (k-1)) _ s (hp.lt (by exact ω75 hk)) (hp.lt (by exact ω57 h1 hk)) hne hI fun s' hI'=>?_
  cases hl:lt (at_ p k) (at_ p (k-1)) with
  |true=>exact rt a hp f (k+1) s' (by exact ω0 rfl) (by exact ω76 hk) (hu.more a hp (by exact ω75 hk) h1 hl) hI' fun m s'' m1 m2 m3 m4=>h m s'' (by exact ω88 m1) (by exact ω93 m2) m3 m4
  |false=>
   have hl2:=a.tot _ _ (hp.lt (by exact ω75 hk)) (hp.lt (by exact ω57 h1 hk)) hne hl
   refine a.ans (at_ p (k-1)) (at_ p k) _ s' (hp.lt (by exact ω57 h1 hk)) (hp.lt (by exact ω75 hk)) (Ne.symm hne) hI' fun s'' hI''=>?_
   rw[hl2]
   exact h k s'' (Nat.le_refl _) (by lia) hu hI''
theorem jX(a:Ask cmp n lt I){p:Array Nat}(hp:Pn n p){k:Nat}(hk:k<n)(hu:Up lt p k){Q:Nat→Shared→Prop}:∀(f l r:Nat) (s:Shared),l≤r→r≤k→r-l≤f→(∀i,i<l→lt (at_ p i) (at_ p k)=true)→(∀i,r≤i→i<k→lt (at_ p k) (at_ p i)=true)→I s→
 (∀m s',m≤k→(∀i,i<m→lt (at_ p i) (at_ p k)=true)→(∀i,m≤i→i<k→lt (at_ p k) (at_ p i)=true)→I s'→Q m s')→(kas_place p k f l r).kasWp cmp Q s
 |0,l,r,s,hlr,hr,hf,h1,h2,hI,h=>h l s (by exact ω198 hlr hr) h1 (fun i hi=>h2 i (by exact ω32 hlr hf hi)) hI
 |f+1,l,r,s,hlr,hr,hf,h1,h2,hI,h=>by
  unfold kas_place
  by_cases e:l≥r
  ·rw[if_pos e]
   exact h l s (by exact ω198 hlr hr) h1 (fun i hi=>h2 i (by exact ω198 e hi)) hI
  ·rw[if_neg e]
   have hm:(l+r)/2<k:=by exact ω30 hr e
   have hne:=hp.ne (i:=k) (j:=(l+r)/2) hk (by exact ω149 hk hm) (by exact id (ω177 rfl hm))
   refine a.ans (at_ p k) (at_ p ((l+r)/2)) _ s (hp.lt hk) (hp.lt (by exact ω149 hk hm)) hne hI fun s' hI'=>?_
   cases hl:lt (at_ p k) (at_ p ((l+r)/2)) with
   |true=>
    refine jX a hp hk hu f l ((l+r)/2) s' (by exact ω26 hlr) (by exact ω210 hm) (by exact ω29 e hf) h1 (fun i hi hik=>?_) hI' h
    by_cases e2:i=(l+r)/2
    ·rw[e2];exact hl
    ·exact a.tr _ _ _ (hp.lt hk) (hp.lt (by exact ω149 hk hm)) (hp.lt (by exact ω149 hk hik)) hl (hu _ _ (by exact ω228 hi e2) hik)
   |false=>
    have hl2:=a.tot _ _ (hp.lt hk) (hp.lt (by exact ω149 hk hm)) hne hl
    refine jX a hp hk hu f ((l+r)/2+1) r s' (by exact ω33 e) hr (by exact ω28 e hf) (fun i hi=>?_) h2 hI' h
    by_cases e2:i=(l+r)/2
    ·rw[e2];exact hl2
    ·exact a.tr _ _ _ (hp.lt (by exact ω138 hk hm hi)) (hp.lt (by exact ω149 hk hm)) (hp.lt hk) (hu i _ (by exact ω227 hi e2) hm) hl2
theorem Up.put{p:Array Nat}(hp:Pn n p){k l:Nat}(hk:k<n)(hl:l≤k)(hu:Up lt p k)(h1:∀i,i<l→lt (at_ p i) (at_ p k)=true)(h2:∀i,l≤i→i<k→lt (at_ p k) (at_ p i)=true):Up lt (bubble p k (k-l)) (k+1):=by
 have e:=fun x=>getElem?_bubble (xs:=p) (src:=k) (by rw[hp.size];exact hk) (k-l) (by exact ω46) x
 have ekl:k-(k-l)=l:=by exact ω45 hl
 have e1:at_ (bubble p k (k-l)) l=at_ p k:=at_of (by rw[e l,if_pos ekl.symm])
 have e2:∀x,l<x→x≤k→at_ (bubble p k (k-l)) x=at_ p (x-1):=fun x a b=>at_of (by rw[e x,if_neg (by exact ω177 ekl a),if_pos (by exact ω175 ekl a b)])
 have e3:∀x,x<l→at_ (bubble p k (k-l)) x=at_ p x:=fun x a=>at_of (by rw[e x,if_neg (by lia),if_neg (by exact ω176 ekl a)])
 intro i j hij hj
 by_cases a1:j<l
 ·rw[e3 i (by exact ω149 a1 hij),e3 j a1];exact hu i j hij (by exact ω166 a1 rfl hl)
 by_cases a2:j=l
 ·rw[a2,e1,e3 i (by exact ω154 hij (id (Eq.symm a2)))];exact h1 i (by exact ω154 hij (id (Eq.symm a2)))
 rw[e2 j (by exact ω97 a1 a2) (by lia)]
 by_cases a3:i<l
 ·rw[e3 i a3];exact hu i (j-1) (by exact ω68 a1 a2 a3) (by exact ω69 hj a1 a2)
 by_cases a4:i=l
 ·rw[a4,e1];exact h2 (j-1) (by exact ω67 a1 a2) (by exact ω69 hj a1 a2)
 ·rw[e2 i (by exact ω97 a3 a4) (by exact ω180 hij hj)];exact hu (i-1) (j-1) (by exact ω66 hij a3 a4) (by exact ω69 hj a1 a2)
theorem vB(a:Ask cmp n lt I){Q:Array Nat→Shared→Prop}:∀(f k:Nat) (p:Array Nat) (s:Shared),k+f=n→Pn n p→Up lt p k→I s→(∀p' s',Pn n p'→Up lt p' n→I s'→Q p' s')→(kas_bin f p k).kasWp cmp Q s
 |0,k,p,s,hk,hp,hu,hI,h=>h p s hp (by rw[show n=k from by exact id (Eq.symm hk)];exact hu) hI
 |f+1,k,p,s,hk,hp,hu,hI,h=>by
  rw[show kas_bin (f+1) p k=(kas_place p k k 0 k).bind fun l=>kas_bin f (bubble p k (k-l)) (k+1) from rfl,KasT.kasWp_bind]
  refine jX a hp (by exact ω74 hk) hu k 0 k s (Nat.zero_le _) (Nat.le_refl _) (by exact ω46) (fun i hi=>by lia) (fun i h1 h2=>by exact hu k i (ω209 h1 h2) h2) hI fun m s' m1 m2 m3 hI'=>?_
  exact vB a f (k+1) _ s' (by exact ω73 hk) (hp.Ca _ _) (Up.put hp (by exact ω74 hk) m1 hu m2 m3) hI' h
theorem xG(a:Ask cmp n lt I)(h1:1≤n){Q:Array Nat→Shared→Prop}{s:Shared}(hI:I s)(h:∀p s',Pn n p→Up lt p n→I s'→Q p s'):(kas_sort n).kasWp cmp Q s:=by
 have hp0:Pn n (List.toArray (List.range n)):=List.Perm.refl _
 have fin:∀(m:Nat) (p:Array Nat) s',1≤m→m≤n→Pn n p→Up lt p m→I s'→(if m<n then kas_bin (n-max m 1) p (max m 1) else KasT.ret p).kasWp cmp Q s':=by
  intro m p s' m1 m2 hp hu hI'
  by_cases e:m<n
  ·rw[if_pos e]
   have em:max m 1=m:=by exact ω183 m1
   rw[em]
   exact vB a (n-m) m p s' (by exact ω100 e) hp hu hI' h
  ·rw[if_neg e]
   obtain rfl:m=n:=by exact ω208 m2 e
   exact h p s' hp hu hI'
 unfold kas_sort
 rw[KasT.kasWp_bind]
 unfold kas_count
 rw[KasT.kasWp_bind]
 refine q7 a hp0 (n-1) 1 s (Nat.le_refl _) (Nat.le_of_eq (Nat.add_sub_cancel' h1)) Up.one hI fun m s' m1 m2 m3 m4 hI'=>?_
 by_cases e1:(m==n)=true
 ·rw[if_pos e1]
  obtain rfl:m=n:=by simpa using e1
  exact fin m _ s' m1 (Nat.le_refl _) hp0 m3 hI'
 rw[if_neg e1]
 have hmn:m<n:=by
  have:m≠n:=by simpa using e1
  exact id (ω205 h1 m2 e1)
 by_cases e2:m>1
 ·rw[if_pos e2]
  have hl:lt ((List.toArray (List.range n)).getD 0 0) ((List.toArray (List.range n)).getD (m-1) 0)=true:=m3 0 (m-1) (Nat.sub_pos_of_lt e2) (by exact ω56 m1)
  refine a.ans _ _ _ s' (hp0.lt (by exact h1)) (hp0.lt (by lia)) (hp0.ne (by exact h1) (by lia) (by exact id (ω207 e2))) hI' fun s'' hI''=>?_
  dsimp only;rw[hl,if_pos rfl]
  exact fin m _ s'' m1 (by exact ω210 hmn) hp0 m3 hI''
 ·rw[if_neg e2]
  obtain rfl:m=1:=by lia
  have hd:lt (at_ (List.toArray (List.range n)) 1) (at_ (List.toArray (List.range n)) 0)=true:=by
   rcases m4 with m4|m4
   ·exact ω206 h1 e1 m4
   ·exact m4
  have hD2:Dn lt (List.toArray (List.range n)) 2:=fun i j hij hj=>by
   obtain rfl:j=1:=by lia
   obtain rfl:i=0:=by lia
   exact hd
  unfold kas_descPart
  rw[KasT.kasWp_bind]
  refine rt a hp0 (n-(1+1)) (1+1) s' (by exact ω0 rfl) (Nat.le_of_eq (ω201 h1 e1)) hD2 hI' fun k s'' k1 k2 k3 hI''=>?_
  rw[if_neg (by simp)]
  unfold kas_tail3
  rw[KasT.kasWp_bind]
  refine q7 a (hp0.rev 0 k) (n-k) k s'' (by exact ω87 k1) (by exact ω203 h1 e1 k2) (k3.rev hp0 (by exact ω202 h1 e1 k2)) hI'' fun m2 s3 n1 n2 n3 ν hI3=>?_
  exact fin m2 _ s3 (by exact ω167 k1 rfl n1) (by exact ω204 h1 e1 k2 n2) (hp0.rev 0 k) n3 hI3
end
end Mine
namespace Mine
structure Ord{α:Type}(f:α→α→Bool):Prop where
 tr:∀x y z,f x y=true→f y z=true→f x z=true
 tot:∀x y,x≠y→f x y=false→f y x=true
 oJ:∀x y,f x y=true→f y x=false
structure cQ(c:Cx){α:Type}(T:Ty α)(f:α→α→Bool)(n:Nat):Prop where
 kind:∀{A:Around} {s:Shared} {B:Mem} {vs:List Value} {xs:List α} {Q:SortKind→Shared→Prop},(∀b o,B b=some o→s.heap.get? b=some o)→az (T.rel B) vs xs→2≤vs.length→
  (∀κ,(∀{A':Around} {v w:Value} {x y:α} {C:Bool→Shared→Prop},A'.units+n<cLine→T.rel B v x→T.rel B w y→x≠y→C (f x y) s→Wp c A' (keyLt' κ v w) C s)→Q κ s)→Wp c A (keyKind' vs.toArray) Q s
noncomputable def iR{α:Type}(f:α→α→Bool)(xs:List α)(i j:Nat):Bool:=match xs[i]?,xs[j]? with
 |some x,some y=>f x y
 |_,_=>false
noncomputable def picked{α:Type}(xs:List α)(l:List Nat):List α:=l.filterMap fun i=>xs[i]?
theorem gV{α:Type}{r:Value→α→Prop}{vs:List Value}{xs:List α}(h:az r vs xs):∀(l:List Nat),(∀i∈l,i<xs.length)→az r (l.map fun i=>vs.getD i Value.none) (picked xs l)
 | [],_=>.nil
 |i::l,hl=>by
  have hi:=hl i (.head _)
  refine aj (h.at (i:=i) (b:=xs[i]) (List.getElem?_eq_getElem hi)) fun v ev rv=>?_
  unfold picked
  rw[List.filterMap_cons,List.getElem?_eq_getElem hi,List.map_cons]
  refine .cons ?_ (gV h l fun j hj=>hl j (.tail _ hj))
  rw[List.getD_eq_getElem?_getD,ev];exact rv
theorem ko{α β:Type}{f g:α→Option β}:∀(l:List α),(∀a∈l,f a=g a)→l.filterMap f=l.filterMap g
 | [],_=>rfl
 |a::l,h=>by rw[List.filterMap_cons,List.filterMap_cons,h a (.head _),ko l fun b hb=>h b (.tail _ hb)]
theorem iu{α:Type}(xs:List α):picked xs (List.range xs.length)=xs:=by
 unfold picked
 apply List.ext_getElem?
 intro i
 induction xs with
 |nil=>rfl
 |cons x xs ih=>
  clear ih
  have:∀(k:Nat) (ys:List α),(List.range' k ys.length).filterMap (fun i=>(List.replicate k x++ys)[i]?)=ys:=by
   intro k ys
   induction ys generalizing k with
   |nil=>rfl
   |cons y ys ih=>
    rw[List.length_cons,List.range'_succ,List.filterMap_cons]
    have e1:(List.replicate k x++y::ys)[k]?=some y:=by simp
    rw[e1]
    refine congrArg (y:: ·) (Eq.trans ?_ (ih (k+1)))
    refine ko _ fun j hj=>?_
    have hj':=(List.mem_range'_1.mp hj).1
    rw[List.getElem?_append_right (by simp;exact ω88 hj'),List.getElem?_append_right (by simp;exact hj')]
    simp only[List.length_replicate]
    rw[show j-k=(j-(k+1))+1 from by exact ω43 hj',List.getElem?_cons_succ]
  have h0:=this 0 (x::xs)
  rw[←List.range_eq_range'] at h0
  simp only[List.replicate_zero,List.nil_append] at h0
  rw[h0]
theorem gT{α:Type}{f:α→α→Bool}{xs:List α}{n:Nat}{p:Array Nat}(hn:xs.length=n)(hp:Pn n p)(hu:Up (iR f xs) p n):(picked xs p.toList).Perm xs∧(picked xs p.toList).Pairwise fun x y=>f x y=true:=by
 constructor
 ·have h1:(picked xs p.toList).Perm (picked xs (List.range xs.length)):=by rw[hn];exact hp.filterMap _
  rwa [iu] at h1
 ·have h2:p.toList.Pairwise fun i j=>iR f xs i j=true:=by
   rw[List.pairwise_iff_getElem]
   intro i j hi hj hij
   have hi':i<p.size:=by simpa using hi
   have hj':j<p.size:=by simpa using hj
   have:=hu i j hij (by rw[←hp.size];exact hj')
   rw[pV hi',pV hj'] at this
   simpa using this
  unfold picked
  rw[List.pairwise_filterMap]
  refine h2.imp fun{a b} hab x hx y hy=>?_
  unfold iR at hab
  rw[hx,hy] at hab
  exact hab
section
variable{c:Cx}{A:Around}{L C:Addr}{V V' VC:ay}{G R R1:List Fa}{s:Shared}{env cenv:Env}{t u v:Tok}
theorem vn{α:Type}{T:Ty α}{f:α→α→Bool}(hO:Ord f){B:Mem}{κ:SortKind}{ks:List Value}{xs:List α}(hr:az (T.rel B) ks xs)(hnd:xs.Nodup)
 (hk:∀{v w:Value} {x y:α} {C:Bool→Shared→Prop},T.rel B v x→T.rel B w y→x≠y→C (f x y) s→Wp c A (keyLt' κ v w) C s):Ask (kas_ask c.prog c.w A κ ks) xs.length (iR f xs) (fun s'=>s'=s):=by
 have key:∀i,i<xs.length→∃v x,ks.getD i Value.none=v∧xs[i]?=some x∧T.rel B v x:=fun i hi=>by
  refine aj (hr.at (i:=i) (b:=xs[i]) (List.getElem?_eq_getElem hi)) fun v ev rv=>?_
  exact⟨v,xs[i],by rw[List.getD_eq_getElem?_getD,ev];rfl,List.getElem?_eq_getElem hi,rv⟩
 have ne:∀i j x y,i≠j→xs[i]?=some x→xs[j]?=some y→x≠y:=fun i j x y hij ei ej e=>by
  obtain⟨hi,ei⟩:=List.getElem?_eq_some_iff.mp ei
  obtain⟨hj,ej⟩:=List.getElem?_eq_some_iff.mp ej
  have hp:=List.pairwise_iff_getElem.mp hnd
  rcases Nat.lt_or_gt_of_ne hij with q|q
  ·exact hp i j hi hj q (by rw[ei,ej,e])
  ·exact hp j i hj hi q (by rw[ei,ej,e])
 refine⟨fun i j C s' hi hj hij e hC=>?_,fun i j k hi hj hk' h1 h2=>?_,fun i j hi hj hij h1=>?_,fun i j hi hj h1=>?_⟩
 ·subst e
  refine av (key i hi) fun v x ev ex rv=>?_
  refine av (key j hj) fun w y ew ey rw'=>?_
  show Wp c A (keyLt' κ (ks.getD i Value.none) (ks.getD j Value.none)) C s'
  rw[ev,ew]
  refine hk rv rw' (ne i j x y hij ex ey) ?_
  have:=hC s' rfl
  unfold iR at this
  rw[ex,ey] at this
  exact this
 ·refine av (key i hi) fun ν0 x ν2 ex ν4=>?_
  refine av (key j hj) fun ν0 y ν2 ey ν4=>?_
  refine av (key k hk') fun ν0 z ν2 ez ν4=>?_
  unfold iR at h1 h2⊢
  rw[ex,ey] at h1
  rw[ey,ez] at h2
  rw[ex,ez]
  exact hO.tr _ _ _ h1 h2
 ·refine av (key i hi) fun ν0 x ν2 ex ν4=>?_
  refine av (key j hj) fun ν0 y ν2 ey ν4=>?_
  unfold iR at h1⊢
  rw[ex,ey] at h1
  rw[ey,ex]
  exact hO.tot _ _ (ne i j x y hij ex ey) h1
 ·refine av (key i hi) fun ν0 x ν2 ex ν4=>?_
  refine av (key j hj) fun ν0 y ν2 ey ν4=>?_
  unfold iR at h1⊢
  rw[ex,ey] at h1
  rw[ey,ex]
  exact hO.oJ _ _ h1
theorem qa{α:Type}{f:α→α→Bool}{κ:SortKind}{ks vs:List Value}{xs:List α}(hl:ks.length=vs.length)(hn:vs.length=xs.length)(h2:2≤xs.length)(h64:xs.length<64)(a:Ask (kas_ask c.prog c.w A κ ks) xs.length (iR f xs) (fun s'=>s'=s)){Q:SortSt→Shared→Prop}
 (h:∀st p,Pn xs.length p→Up (iR f xs) p xs.length→failedOf st=none→(arrOf st).map (·.2)=(p.toList.map fun i=>vs.getD i Value.none).toArray→Q st s):
 Wp c A ((sortRuns').run (SortSt.mk' κ (ks.toArray.zip vs.toArray) #[] 7 none)) (fun r s'=>Q r.2 s') s:=by
 refine kat_run (G:=fun p s'=>s'=s∧Pn xs.length p∧Up (iR f xs) p xs.length) hl (by exact ω154 h2 hn) (by exact ω168 h64 hn) (fun p st s' hp har hf hG=>?_) ?_
 ·refine ny hG fun π30 h1 h2=>?_;try clear hG;rcases π30 with rfl
  exact h st p h1 h2 hf (kat_snds hl har)
 ·rw[hn]
  exact xG a (by exact ω87 h2) rfl fun p s' h1 h2 e=>⟨e,h1,h2⟩
theorem aa.uu{α:Type}{T:Ty α}{f:α→α→Bool}{n:Nat}(hS:cQ c T f n)(hO:Ord f){a:Addr}{xs:List α}{P:PySem.Fin→Shared→Prop}(S:aa c L V G s)(hm:bA G (.ow (own a (ai T) xs)) R)(hnd:xs.Nodup)(h2:2≤xs.length)(h64:xs.length<64)(hu:A.units+n<cLine)
 (h:∀ys s',ys.Perm xs→(ys.Pairwise fun x y=>f x y=true)→aa c L V (.ow (own a (ai T) ys)::R) s'→P (.done (.ret .none)) s'):Wp c A (Builtin.«list.sort» ⟨[.ref a],[]⟩) P s:=by
 refine av (S.aQ (hm.perm.mem_iff.mpr (.head _))) fun vs k ho hl S'=>?_
 have ha:a<s.heap.objs.size:=Heap.lt_size ho
 have s1:=Heap.SameBut.update s.heap a (Obj.mapSeq fun ν=>(#[]:Array Value))
 obtain⟨e1,ho1⟩:∃e1,(s.heap.update a (Obj.mapSeq fun ν=>(#[]:Array Value))).get? a=some (seqObj "list" #[] e1):=⟨_,get?_update_seq ho fun ν=>#[]⟩
 have S1:=S'.turn (tk:=s.toks) (.there hm) (ck (seqObj "list" #[] e1)) () s1 ho1 fun ν ν ν ν ν=>rfl
 have S2:=(S1.rY (o:={cls:=.type "tuple",data:=.seq vs.toArray}) (tk:=s.toks)).rY (o:={cls:=.type "list",data:=.seq ([]:List Value).toArray}) (tk:=s.toks)
 have ho6:(((s.heap.update a (Obj.mapSeq fun ν=>(#[]:Array Value))).push {cls:=.type "tuple",data:=.seq vs.toArray}).push {cls:=.type "list",data:=.seq ([]:List Value).toArray}).get? a=some (seqObj "list" #[] e1):=
  Heap.get?_push_of_some _ (Heap.get?_push_of_some _ ho1)
 rw[list_sort_plain]
 refine wpAny_bind (listItems_at ho rfl ?_)
 refine wpAny_bind (listUpdate_at ho rfl ?_ (by rw[List.size_toArray,sizeLine_eq];exact ω8 hl h64 rfl) (Nat.zero_le _))
 refine wpAny_bind (seqEpoch_at ho1 rfl ?_)
 refine wpAny_bind (wpAny_newTuple ?_ (by show vs.length≤_;rw[sizeLine_eq];exact ω8 hl h64 rfl))
 refine wpAny_bind (wpAny_newList ?_ (Nat.zero_le _))
 refine wpAny_holding ?_
 dsimp only
 have hn2:¬vs.toArray.size<2:=by rw[List.size_toArray];lia
 rw[if_neg hn2,if_neg hn2]
 obtain⟨B,S3⟩:=S2
 have hr:az (T.rel B) vs xs:=S3.know _ (.head _)
 refine wpAny_bind (hS.kind (B:=B) S3.keep hr (by exact ω154 h2 hl) fun κ hκ=>?_)
 refine wpAny_bind (wpAny_mono (qa (f:=f) (ks:=vs) (vs:=vs) (xs:=xs) rfl hl h2 h64 (vn hO hr hnd fun rv rw' ne hC=>hκ hu rv rw' ne hC) (Q:=fun st s'=>s'=_∧∃p,Pn xs.length p∧Up (iR f xs) p xs.length∧failedOf st=none∧(arrOf st).map (·.2)=(p.toList.map fun i=>vs.getD i Value.none).toArray) fun st p h1 h2 h3 h4=>⟨rfl,p,h1,h2,h3,h4⟩) ?_ fun ν ν x=>x)
 rintro⟨⟨⟩,st'⟩ s' ⟨rfl,p,hp,hup,hf,hout⟩
 obtain⟨q1,q2⟩:=gT rfl hp hup
 have hpl:∀i∈p.toList,i<xs.length:=fun i hi=>by simpa using hp.mem_iff.mp hi
 rw[hout]
 have hsz:((p.toList.map fun i=>vs.getD i Value.none).toArray).size≤sizeLine:=by
  rw[List.size_toArray,List.length_map,Array.length_toList,hp.size,sizeLine_eq];exact ω3 h64 rfl
 refine wpAny_bind (seqEpoch_at ho6 rfl ?_)
 refine wpAny_bind (listUpdate_at ho6 rfl ?_ (Nat.zero_le _) (Nat.le_succ_of_le hsz))
 rw[hf]
 rw[bne_self_eq_false,if_neg Bool.false_ne_true]
 refine wpAny_pure (h (picked xs p.toList) _ q1 q2 ?_)
 have S4:aa c L V (.ow (own a (ck (seqObj "list" #[] e1)) ()):: .kn (rows T vs xs)::R) _:=⟨B,S3⟩
 have S5:=S4.turn (tk:=s.toks) .here (ai T) (picked xs p.toList) (Heap.SameBut.update _ a (Obj.mapSeq fun ν=>(p.toList.map fun i=>vs.getD i Value.none).toArray)) (get?_update_seq ho6 fun ν=>(p.toList.map fun i=>vs.getD i Value.none).toArray) fun B' ν ν kh ν=>⟨p.toList.map fun i=>vs.getD i Value.none,_,rfl,gV (kh.at (.head _):az (T.rel B') vs xs) _ hpl⟩
 exact S5.sub (.own .here (.drop .all))
end
end Mine
namespace Mine
noncomputable def eO(x y:Tx):Bool:=decide (x<y)
theorem fM:Ord eO where
 tr:=fun x y z h1 h2=>PyProof.Rows.strKind.trans x y z h1 h2
 tot:=fun x y h h1=>by
  cases h2:eO y x with
  |true=>rfl
  |false=>exact absurd (PyProof.Rows.strKind.total x y h1 h2) h
 oJ:=fun x y h=>by
  cases h2:eO y x with
  |false=>rfl
  |true=>
   have:=PyProof.Rows.strKind.trans x y x h h2
   rw[PyProof.Rows.strKind.irrefl] at this
   cases this
noncomputable def bJ(x y:Tx×Tx):Bool:=if x.1=y.1 then eO x.2 y.2 else eO x.1 y.1
theorem vO(x:Tx):eO x x=false:=PyProof.Rows.strKind.irrefl x
theorem ng{x y:Tx}(h:eO x y=true):x≠y:=by intro υ0;obtain rfl:=υ0;rw[vO] at h;cases h
theorem gI:Ord bJ where
 tr:=by
  intro x y z h1 h2
  unfold bJ at*
  by_cases e1:x.1=y.1
  ·rw[if_pos e1] at h1
   by_cases e2:y.1=z.1
   ·rw[if_pos e2] at h2;rw[if_pos (e1.trans e2)];exact fM.tr _ _ _ h1 h2
   ·rw[if_neg e2] at h2;rw[if_neg (by rw[e1];exact e2),e1];exact h2
  ·rw[if_neg e1] at h1
   by_cases e2:y.1=z.1
   ·rw[←e2,if_neg e1];exact h1
   ·rw[if_neg e2] at h2
    have h3:=fM.tr _ _ _ h1 h2
    rw[if_neg (ng h3)];exact h3
 tot:=by
  intro x y h h1
  unfold bJ at*
  by_cases e1:x.1=y.1
  ·rw[if_pos e1] at h1
   rw[if_pos e1.symm]
   exact fM.tot _ _ (fun q=>h (Prod.ext e1 q)) h1
  ·rw[if_neg e1] at h1
   rw[if_neg (Ne.symm e1)]
   exact fM.tot _ _ e1 h1
 oJ:=by
  intro x y h1
  unfold bJ at*
  by_cases e1:x.1=y.1
  ·rw[if_pos e1] at h1;rw[if_pos e1.symm];exact fM.oJ _ _ h1
  ·rw[if_neg e1] at h1;rw[if_neg (Ne.symm e1)];exact fM.oJ _ _ h1
section
variable{c:Cx}{A:Around}{L C:Addr}{V V' VC:ay}{G R R1:List Fa}{s:Shared}{env cenv:Env}{t u v:Tok}
noncomputable abbrev cL:Ty (Tx×Tx):=bY ah ah
theorem kG{B:Mem}(hB:∀b o,B b=some o→s.heap.get? b=some o){v:Value}{x:Tx×Tx}(h:cL.rel B v x):∃a t u n,v= .ref a∧s.heap.get? a=some (om [.str (tx x.1) t,.str (tx x.2) u] n):=by
 obtain⟨a,o,rfl,_,ho,vs,n,rfl,hl,h12⟩:=h
 refine fZ (oq hl) fun v1 v2 π32=>?_;rcases π32 with rfl
 refine ny h12 fun h1 h2 ν2=>?_;try clear h12
 obtain⟨t,e1⟩:=h1
 obtain⟨u,e2⟩:=h2
 cases e1;cases e2
 exact⟨a,t,u,n,rfl,hB _ _ ho⟩
theorem ly:cQ c cL bJ 0 where
 kind:=by
  intro A s B vs xs Q hB hr h2 hQ
  obtain⟨fs,ht,hne,hT⟩:∃fs:List Value,KatTups s.heap vs fs∧fs.length=vs.length∧∀v∈fs,∃x t,v= .str x t:=by
   clear h2 hQ
   induction hr with
   |nil=>exact⟨[],.nil,rfl,fun v hv=>nomatch hv⟩
   |cons h _ ih=>
    refine bL ih fun fs ht hl hT=>?_;try clear ih
    refine sP (kG hB h) fun a t u n π64 ho=>?_;rcases π64 with rfl
    refine⟨_::fs,.cons ho rfl rfl rfl ht,by simp[hl],fun v hv=>?_⟩
    rcases List.mem_cons.mp hv with rfl|hv
    ·exact⟨_,_,rfl⟩
    ·exact hT v hv
  refine kat_kind (T:=.type "str") ht (by lia) (fun v hv=>?_) rfl (hQ _ ?_)
  ·refine fZ (hT v hv) fun x t π32=>?_;rcases π32 with rfl
   exact Looks.of_pure rfl
  ·intro A' v w x y C _ hv hw hne hC
   refine sP (kG hB hv) fun a t u n π64 ho=>?_;rcases π64 with rfl
   refine sP (kG hB hw) fun b t' u' n' π64 ho'=>?_;rcases π64 with rfl
   refine kat_lt ho rfl ho' rfl ?_
   unfold bJ at hC
   have eqb:∀(p q:Tx),decide (tx p=tx q)=decide (p=q):=fun p q=>by
    by_cases e:p=q
    ·subst e;simp
    ·have:tx p≠tx q:=fun k=>e (dM k)
     simp[this,e]
   refine kat_cons (wpAny_eqBool_str ?_)
   rw[eqb]
   by_cases e1:x.1=y.1
   ·rw[decide_eq_true e1]
    rw[if_pos e1] at hC
    refine kat_yes (kat_cons (wpAny_eqBool_str ?_))
    rw[eqb]
    have e2:x.2≠y.2:=fun q=>hne (Prod.ext e1 q)
    rw[decide_eq_false e2]
    refine kat_no ?_
    exact kat_one _ _ (lt_str hC)
   ·rw[decide_eq_false e1]
    rw[if_neg e1] at hC
    refine kat_no ?_
    exact oneLt_str hC
theorem aa.xD{α:Type}{T:Ty α}{f:α→α→Bool}{n:Nat}(hS:cQ c T f n)(hO:Ord f){v:Value}{xs:List α}{Q:Value→Shared→Prop}(S:aa c L V G s)(hm:At G v (ai T) xs)(hnd:xs.Nodup)(h2:2≤xs.length)(h64:xs.length<64)(hu:A.units+(n+2)<cLine)
 (h:∀a ys s',ys.Perm xs→(ys.Pairwise fun x y=>f x y=true)→aa c L V (.ow (own a (ai T) ys)::G) s'→Q (.ref a) s'):Wp c A (call (.builtin "sorted") [v]) Q s:=by
 refine jH (S.gP hm) fun l vs k π83 ν4 ho hl S'=>?_;rcases π83 with rfl
 refine Calls.call_function_entry kind_sorted plain_sorted entry_sorted (args_sorted1 _) ?_
 refine wpAny_bind (m:=checkCount "sorted" 1 1 _) (wpAny_pure ?_)
 refine wpAny_bind (collect_list (aA ho) ?_ (by rw[sizeLine_eq];exact ω8 hl h64 rfl))
 have S1:=S'.rY (o:=seqObj "list" #[] 0) (tk:=s.toks)
 have S2:aa c L V (.kn (rows T vs xs)::G) {s with heap:=(s.heap.push (seqObj "list" #[] 0)).update s.heap.objs.size (Obj.mapSeq (·++vs.toArray))}:=by
  have:=S'.push (tk:=s.toks) (o:=seqObj "list" #[] 0) (ck (seqObj "list" #[] 0)) () fun ν ν=>rfl
  have h3:=this.turn (tk:=s.toks) .here (BW fun o=>o.cls= .type "list") () (Heap.SameBut.update (s.heap.push (seqObj "list" #[] 0)) s.heap.objs.size (Obj.mapSeq (·++vs.toArray))) (get?_update_seq (Heap.get?_push_size _ rfl) (·++vs.toArray)) fun ν ν ν ν ν=>⟨rfl,rfl⟩
  exact h3.sub (.drop .all)
 refine wpAny_bind (wpAny_newList ?_ (by show vs.length≤_;rw[sizeLine_eq];exact ω8 hl h64 rfl))
 have S3:=S2.push (tk:=s.toks) (o:={cls:=.type "list",data:=.seq vs.toArray}) (ai T) xs fun B kh=>⟨vs,0,rfl,kh.at (.head _)⟩
 have hoL:=Heap.get?_push_size ((s.heap.push (seqObj "list" #[] 0)).update s.heap.objs.size (Obj.mapSeq (·++vs.toArray))) (o:={cls:=.type "list",data:=.seq vs.toArray}) rfl
 refine wpAny_bind (wpAny_holding (wpAny_call_entry slot_list_sort ⟨_,hoL,rfl⟩ entry_list_sort ?body (args_list_sort _)))
 exact S3.uu hS hO .here hnd h2 h64 (by show A.units+1+1+n<_;exact ω77 (ω77 hu)) fun ys s' p1 p2 S4=>⟨_,rfl,wpAny_pure ⟨_,rfl,h _ ys s' p1 p2 (S4.sub (.own .here (.drop .all)))⟩⟩
theorem aa.zU{α:Type}{T:Ty α}{f:α→α→Bool}{n:Nat}(hS:cQ c T f n)(hO:Ord f){a:Addr}{xs:List α}{Q:Value→Shared→Prop}(S:aa c L V G s)(hm:bA G (.ow (own a (ai T) xs)) R)(hnd:xs.Nodup)(h2:2≤xs.length)(h64:xs.length<64)(hu:A.units+(n+1)<cLine)
 (h:∀ys s',ys.Perm xs→(ys.Pairwise fun x y=>f x y=true)→aa c L V (.ow (own a (ai T) ys)::R) s'→Q .none s'):Wp c A (call (.builtin "list.sort") [.ref a]) Q s:=by
 refine av (S.aQ (hm.perm.mem_iff.mpr (.head _))) fun vs k ho hl ν4=>?_
 exact wpAny_call_entry slot_list_sort ⟨_,ho,rfl⟩ entry_list_sort (S.uu hS hO hm hnd h2 h64 (by show A.units+1+n<_;exact ω77 hu) fun ys s' p1 p2 S4=>⟨_,rfl,h ys s' p1 p2 S4⟩) (args_list_sort _)
end
end Mine
namespace Mine
theorem eV{α:Type}{f:α→α→Bool}(hO:Ord f):∀{xs ys:List α},xs.Perm ys→(xs.Pairwise fun x y=>f x y=true)→(ys.Pairwise fun x y=>f x y=true)→xs=ys
 | [],ys,p,_,_=>by rw[List.nil_perm.mp p]
 |x::xs,[],p,_,_=>by have:=p.length_eq;simp at this
 |x::xs,y::ys,p,h1,h2=>by
  have a1:=List.pairwise_cons.mp h1
  have a2:=List.pairwise_cons.mp h2
  have e:x=y:=by
   have m1:x∈y::ys:=p.mem_iff.mp (.head _)
   have m2:y∈x::xs:=p.symm.mem_iff.mp (.head _)
   rcases List.mem_cons.mp m1 with e|m1
   ·exact e
   rcases List.mem_cons.mp m2 with e|m2
   ·exact e.symm
   have b1:=a2.1 x m1
   have b2:=a1.1 y m2
   have:=hO.oJ _ _ b1
   rw[b2] at this;cases this
  subst e
  rw[eV hO (List.Perm.cons_inv p) a1.2 a2.2]
theorem fE{α:Type}{f:α→α→Bool}(hO:Ord f){xs:List α}(h:xs.Pairwise fun x y=>f x y=true):xs.Nodup:=
 h.imp fun{x y} hxy e=>by
  subst e
  have:=hO.oJ _ _ hxy
  rw[hxy] at this;cases this
section
variable{c:Cx}{A:Around}{L C:Addr}{V V' VC:ay}{G R R1:List Fa}{s:Shared}{env cenv:Env}{t u v:Tok}
theorem aa.rG{β:Type}{U:Ty β}{k w:Expr}{pos:Pos}{Q:Value→Shared→Prop}(S:aa c L V G s)
 (h:∀d s',aa c L V (.ow (own d (aK c U) [])::G) s'→Wp c A (eval k env) (fun kv s₁=>Wp c A (eval w env) (fun vv s₂=>∃x t y L V G R,kv= .str (tx x) t∧aa c L V G s₂∧bA G (.ow (own d (aK c U) [])) R∧(∀B,Kh R B→U.rel B vv y)∧
   ∀s',aa c L V (.ow (own d (aK c U) [(x,y)])::R) s'→Q (.ref d) s') s₁) s'):Wp c A (eval (.Dict [some k] [w] pos) env) Q s:=by
 have S1:aa c L V (.ow (own s.heap.objs.size (aK c U) [])::G) {s with heap:=s.heap.push {cls:=.type "dict",data:=.dict #[]}}:=by
  refine S.push (tk:=s.toks) (aK c U) [] fun B k=>⟨[],?_,.nil⟩
  refine aj (Heap.dictOf_iff.mp (Heap.DictOf.new (knd:=PySem.strKind c.prog c.w) ⟨#[],{}⟩)) fun o ho x=>?_
  have e:(⟨#[],{}⟩:Heap).push {cls:=.type "dict",data:=.dict #[]}=(⟨#[{cls:=.type "dict",data:=.dict #[]}],{}⟩:Heap):=rfl
  rw[e] at ho
  cases ho
  exact x
 refine wpAny_Dict_pairs (knd:=PySem.strKind c.prog c.w) (pairs:=[(eval k env,eval w env>>=fun x=>standAt pos>>=fun ν=>pure x)]) rfl (by simp) (by simp) (evalPairs_cons (wpAny_mono (h _ _ S1) (fun kv s₁ h₁=>?_) fun ν ν x=>x))
 refine wpAny_bind (wpAny_mono h₁ (fun vv s₂ h₂=>wpAny_bind (wpAny_standAt (wpAny_pure (evalPairs_nil ?_)))) fun ν ν x=>x)
 obtain⟨x,t,y,L,V,G,R,rfl,S2,hp,hy,hQ⟩:=h₂
 refine fO (S2.gF (hp.perm.mem_iff.mpr (.head _))) fun o kvs e hD hl ν5=>?_
 have hk:kvs=[]:=List.length_eq_zero_iff.mp hl
 subst hk
 refine⟨[(tx x,vv)],⟨strKind_is _ _ _ _,rfl,trivial⟩,aM hD e,fun h' hd' hs=>hQ _ ?_⟩
 refine aj (Heap.dictOf_iff.mp hd') fun o' e' hx=>?_
 exact S2.turn (tk:=s₂.toks+[(Value.str (tx x) t,vv)].length) hp (aK c U) [(x,y)] hs e' (fun B ν ν kh ν=>⟨_,hx,.cons ⟨rfl,hy B kh⟩ .nil⟩) (by lia)
end
end Mine
set_option tactic.hygienic true
namespace Mine
noncomputable abbrev bU:=List (Str×Value)
noncomputable def tO(e:DictEntry)(p:Str×Value):Prop:=∃h t,e=⟨h,.str p.1 t,p.2⟩
noncomputable def aR:Tb bU:=⟨fun ν o V=>∃es n,o=dictOf es n∧az tO es V,fun ν r=>r,fun⟨_,_,e,_⟩=>e▸rfl⟩
noncomputable def nA:bU→Str→Value→bU
 | [],n,v=>[(n,v)]
 |(m,w)::r,n,v=>if m==n then(m,v)::r else(m,w)::nA r n v
theorem noRef{es:List DictEntry}{V:bU}(h:az tO es V):es.any (·.refKey)=false:=by
 induction h with
 |nil=>rfl
 |cons h _ ih=>refine fZ h fun hh t π32=>?_;try clear h;rcases π32 with rfl;rw[List.any_cons,ih];rfl
theorem oh{es:List DictEntry}{V:bU}(h:az tO es V)(name:Str):getL name es=some (V.lookup name):=by
 have h1:es.any (·.refKey)=false∧(es.find? (·.key.isStr name)).map (·.val)=V.lookup name:=by
  induction h with
  |nil=>exact⟨rfl,rfl⟩
  |cons h _ ih=>
   rename_i a b _ _ _
   refine fZ h fun hh t π32=>?_;try clear h;rcases π32 with rfl
   obtain⟨i1,i2⟩:=ih
   refine⟨by rw[List.any_cons,i1];rfl,?_⟩
   obtain⟨m,w⟩:=b
   rw[List.find?_cons,List.lookup_cons]
   have e:(Value.str m t).isStr name=(name==m):=by
    show(m==name)=(name==m)
    exact Bool.eq_iff_iff.mpr ⟨fun q=>by simpa using(eq_of_beq q).symm,fun q=>by simpa using(eq_of_beq q).symm⟩
   rw[e]
   cases name==m with
   |true=>rfl
   |false=>exact i2
 unfold getL
 obtain⟨h1,h2⟩:=h1
 cases h:es.find? (·.key.isStr name) with
 |some e=>rw[h] at h2;rw[←h2];rfl
 |none=>rw[h] at h2;rw[←h2,h1];rfl
theorem xC{es:List DictEntry}{V:bU}(h:az tO es V)(name:Str)(hs:Int)(t:Tok)(v:Value):az tO (putL name hs (.str name t) v es) (nA V name v):=by
 induction h with
 |nil=>exact .cons ⟨hs,t,rfl⟩ .nil
 |cons h hr ih=>
  rename_i a b _ _
  refine fZ h fun hh t' π32=>?_;try clear h;rcases π32 with rfl
  obtain⟨m,w⟩:=b
  unfold putL nA
  have e:(Value.str m t').isStr name=(m==name):=rfl
  rw[e]
  cases m==name with
  |true=>exact .cons ⟨hh,t',rfl⟩ hr
  |false=>exact .cons ⟨hh,t',rfl⟩ ih
noncomputable abbrev aU(dx:Addr):Obj:=instObj 150 dx
structure Cj(c:Cx):Prop where
 has:(clsIn (aO c) 150).any (·.hasDict)=true
 get:findIn (aO c) (.ref 150) "__getattribute__"=some (some (.builtin "object.__getattribute__"))
 noget:findIn (aO c) (.ref 150) "__getattr__"=some none
 set:findIn (aO c) (.ref 150) "__setattr__"=some (some (.builtin "object.__setattr__"))
 plain:plainOver (aO c) 150=true
theorem fy(c:Cx):Cj c:=⟨by kernel_rfl,by kernel_rfl,by kernel_rfl,by kernel_rfl,by kernel_rfl⟩
section
variable{c:Cx}{A:Around}{L C:Addr}{V V' VC:ay}{G R R1:List Fa}{s:Shared}{env cenv:Env}{t u v:Tok}
theorem aa.nF{x dx:Addr}{AV:bU}(S:aa c L V G s)(hx: .kn (held x (aU dx))∈G)(hd: .ow (own dx aR AV)∈G):∃es n,InstAt s.heap x (aU dx) 150 (some (dictOf es n))∧s.heap.get? dx=some (dictOf es n)∧az tO es AV:=by
 obtain⟨B,o,e,⟨es,n,rfl,hr⟩,_⟩:=S.get hd
 exact⟨es,n,⟨S.aF hx,rfl,rfl,e⟩,e,hr⟩
theorem cg.oK(g:cg c)(S:aa c L V G s):(aO c).In s.heap:=g.X.keeps fun ν ν e=>S.ground e
theorem aa.gA(g:cg c){x dx:Addr}{AV:bU}{name:Str}{w:Value}{expr:Bool}{Q:Value→Shared→Prop}(S:aa c L V G s)(hx: .kn (held x (aU dx))∈G)(hd: .ow (own dx aR AV)∈G)(hv:AV.lookup name=some w)(hf:findIn (aO c) (.ref 150) name=some none)
 (hh:handedIn w=true) (h:∀s',aa c L V G s'→Q w s'):Wp c A (getAttr (.ref x) name expr) Q s:=by
 refine av (S.nF hx hd) fun es n I he hr=>?_
 refine aj (any_some (fy c).has) fun cd hc hcd=>?_
 refine get_value (g.oK S) I (fy c).get ?_ hh (h _ S.toks)
 unfold findObj
 rw[hc,Option.bind_some,hf,Option.bind_some]
 dsimp only[Option.bind_some]
 unfold W.ownOf
 rw[hcd,if_pos rfl]
 dsimp only
 rw[lookIn_dict,oh hr name,hv]
 rfl
theorem aa.sA(g:cg c){x dx:Addr}{AV:bU}{name:Str}{w:Value}{Q:Unit→Shared→Prop}(S:aa c L V G s)(hd:bA G (.ow (own dx aR AV)) R)(hx: .kn (held x (aU dx))∈R)(ht:takerIn (aO c) 150 name=some none)(hl:AV.length≤100)
 (h:∀s',aa c L V (.ow (own dx aR (nA AV name w))::R) s'→Q () s'):Wp c A (setAttr (.ref x) name w) Q s:=by
 have hd':=hd.perm.mem_iff.mpr (.head _)
 have hx': .kn (held x (aU dx))∈G:=hd.perm.mem_iff.mpr (.tail _ hx)
 have S1:=S.toks (tk:=s.toks+1)
 refine av (S1.nF hx' hd') fun es n I D hr=>?_
 have I0:InstAt s.heap x (aU dx) 150 (some (dictOf es n)):=I
 refine aj (any_some (fy c).has) fun cd hc hcd=>?_
 refine set_plain (g.oK S) I0 (fy c).set ?_
 refine osa_open (s:={s with toks:=s.toks+1}) (g.oK S1) I (fy c).plain ht fun b=>?_
 refine wpAny_bind (wpAny_pure (wpAny_bind (wpAny_bind (wpAny_loadPart I.at_ (wpAny_bind ((looks_clsIn (g.oK S1) hc).here ?_))))))
 rw[hcd]
 refine wpAny_pure (a:=some dx) (wpAny_bind (wpAny_pure (wpAny_bind ?_)))
 refine wpAny_bind (wpAny_bind (wpAny_askSetting (wpAny_pure (wpAny_bind (wpAny_mkText (wpAny_bind (wpAny_loadPart D ?_)))))))
 dsimp only
 have c0:(!es.toArray.any (·.key.isStr name)&&es.toArray.any (·.refKey))=false:=by
  have h1:es.toArray.any (·.refKey)=false:=by
   rw[List.any_toArray]
   exact noRef hr
  rw[h1,Bool.and_false]
 rw[aRefKeyMayBeTheName_at,c0]
 refine wpAny_updatePart D ?_
 have hs:=Heap.SameBut.update s.heap dx (Obj.putName name (PyData.keyHash c.w.params name) (.str name (s.toks+1)) w)
 have e2:=putName_dict name (PyData.keyHash c.w.params name) (.str name (s.toks+1)) w es n
 have D':(s.heap.update dx (Obj.putName name (PyData.keyHash c.w.params name) (.str name (s.toks+1)) w)).get? dx=some (dictOf (putL name (PyData.keyHash c.w.params name) (.str name (s.toks+1)) w es) (putN name es n)):=by
  rw[←e2]
  exact Heap.get?_update_self _ D (by rw[e2];rfl)
 have hp:=xC hr name (PyData.keyHash c.w.params name) (s.toks+1) w
 have hle:∀V:bU,(nA V name w).length≤V.length+1:=by
  intro V
  induction V with
  |nil=>exact Nat.le_refl _
  |cons p r ih=>obtain⟨m,z⟩:=p;unfold nA;split <;> simp <;> exact ih
 refine wpAny_bind (wpAny_lookBehind D' (pastItsLine_dict (by rw[List.size_toArray,hp.length,sizeLine_eq];have:=hle AV;exact id (ω237 hl (hle AV) rfl rfl))) ?_)
 exact wpAny_pure (h _ (S.turn (tk:=s.toks+1+1) hd aR (nA AV name w) hs D' fun ν ν ν ν ν=>⟨_,_,rfl,hp⟩))
end
end Mine
set_option tactic.hygienic false
namespace Mine
section
variable{c:Cx}{A:Around}{L C:Addr}{V V' VC:ay}{G R R1:List Fa}{s:Shared}{env cenv:Env}{t u v:Tok}
theorem aa.gM(g:cg c){x dx f:Addr}{AV:bU}{name:Str}{pl:Sem Bool}{Q:Value×List Value→Shared→Prop}(S:aa c L V G s)(hx: .kn (held x (aU dx))∈G)(hd: .ow (own dx aR AV)∈G)(hn:AV.lookup name=none)(hs:findIn (aO c) (.ref 150) name=some (some (.ref f)))
 (hf:typeIn (aO c) (.ref f)=some (.type "function")) (h:Q (.ref f,[.ref x]) s):Wp c A (getMethod (.ref x) name pl) Q s:=by
 refine av (S.nF hx hd) fun es n I D hr=>?_
 have X:=g.oK S
 have L1:Looks (model c.prog c.w) s.heap (specialOf (.ref x) "__getattribute__") (some (.builtin "object.__getattribute__")):=I.type.andThen (looks_findIn X (fy c).get)
 have L2:Looks (model c.prog c.w) s.heap (specialOf (.ref x) "__getattr__") none:=I.type.andThen (looks_findIn X (fy c).noget)
 have L3:Looks (model c.prog c.w) s.heap (specialOf (.ref x) name) (some (.ref f)):=I.type.andThen (looks_findIn X hs)
 have L4:=looks_typeIn (M:=model c.prog c.w) X hf
 refine wpAny_bind (L1.here ?_)
 dsimp only
 rw[if_neg (by decide+kernel)]
 refine wpAny_bind (L2.here ?_)
 rw[Option.isSome_none,if_neg Bool.false_ne_true]
 refine wpAny_bind (L3.here ?_)
 refine wpAny_bind (L4.here ?_)
 rw[if_neg (by decide+kernel)]
 refine wpAny_bind (wpAny_loadPart I.at_ ?_)
 refine wpAny_bind ?_
 have hl:nsLook name (dictOf es n)=pure none:=nsLook_of (by rw[lookIn_dict,oh hr name,hn])
 refine wpAny_bind (wpAny_loadPart D ?_)
 rw[hl]
 refine wpAny_pure ?_
 rw[if_neg (by decide)]
 exact wpAny_bind (wpAny_rule (wpAny_pure h))
theorem vd(g:cg c){o e:Expr}{rest:List Expr}{name:Str}{apos pos:Pos}{f:Addr}{pl:Sem Bool}{Q:Value→Shared→Prop}(hs:findIn (aO c) (.ref 150) name=some (some (.ref f)))(hf:typeIn (aO c) (.ref f)=some (.type "function"))(hk:keepIn (aO c) (.ref f)=true)
 (h:Wp c A (eval o env) (fun ov s₁=>∃L V G x dx AV,ov= .ref x∧aa c L V G s₁∧.kn (held x (aU dx))∈G∧.ow (own dx aR AV)∈G∧AV.lookup name=none∧
   Wp c A (spliced (backTo pos (starEach (e::rest) env))) (fun vs s₂=>(∃L V G,aa c L V G s₂)∧Wp c A (call (.ref f) (.ref x::vs)) Q s₂) s₁) s)
 (hm:autoParam (eval (.Call (.Attribute o name apos) (e::rest) [] pos) env=(do
   let ov ←eval o env
   standAt apos.atName
   let (f,first) ←holding [ov] (getMethod ov name pl)
   callWith pos f first (backTo pos (starEach (e::rest) env)) (backToKw pos (keywordEach [] env)))) af)
 (he:autoParam (starEach (e::rest) env=(false,eval e env)::starEach rest env) af) (hp:autoParam ((backTo pos (starEach rest env)).any (·.1)=false) af):Wp c A (eval (.Call (.Attribute o name apos) (e::rest) [] pos) env) Q s:=by
 refine methodCall_KW (wpAny_mono h (fun ov s₁ h₁=>?_) fun ν ν x=>x) hm
 obtain⟨L,V,G,x,dx,AV,rfl,S,hx,hd,hn,h₁⟩:=h₁
 refine S.gM g hx hd hn hs hf ?_
 exact callWith_K (g.oK S) hk (wpAny_mono h₁ (fun vs s₂ ⟨⟨_,_,_,S₂⟩,h₂⟩=>⟨g.oK S₂,h₂⟩) fun ν ν x=>x) he hp
theorem oO{n:Nat}{f:Addr}{oc:Value}{od:Option Addr}{osl:Array (Option Value)}{name qual:Str}{params:Arguments}{body:List Stmt}{scope:Scope}{dV kV doc pm cdv ct:Value}{an:Option Addr}
 {args:Args} {binds:List (Str×Value)} {C:Addr→List (Addr×Option Value)} {Rr:Result→Shared→Prop}
 (g:cg c) (S:aa c L V G s) (ok:Ok A (n+1)) (ho:(aO c).lookup f=some ⟨oc,od,.func (fnOf name qual params body scope dV kV doc pm an cdv ct),osl⟩)
 (hbind:BindsTo s (fnOf name qual params body scope dV kV doc pm an cdv ct) args binds)
 (hcd:codeIn (aO c) cdv qual=true)
 (hnd:(scope.names.map (·.1)).Nodup) (hkind:(binds.all fun x=>scope.names.lookup x.1==some .local ||scope.names.lookup x.1==some .cell)=true)
 (hV:cN scope.names (bindL (fun x=>scope.names.lookup x) binds fun ν=>none)=V')
 (hC:∀L',aG (cellsFrom (L'+1) scope.names []) (bindC (fun x=>scope.names.lookup x) binds fun ν=>none) scope.names=C L')
 (h:∀L' s',aa c L' V' (aI (C L')++ .ow (own L bC V)::G) s'→Ok (A.deeper (envOfC qual scope L' f cdv)) n→
   Wp c (A.deeper (envOfC qual scope L' f cdv)) (execs body (envOfC qual scope L' f cdv)) (fun fl s''=>Rr (.ok (.ret (match fl with | .ret v=>v|_=>.none))) s'') s')
 (hco:autoParam (scope.isCoroutine=false) af) (hgen:autoParam (scope.isGenerator=false) af) (hk:autoParam (scope.kind= .function) af):
 codeAny (model c.prog c.w) A (.call (.ref f) args) Rr s:=by
 have hG:∀b o,c.hG.get? b=some o→s.heap.get? b=some o:=fun b o e=>S.ground e
 refine codeAny_call_function ok.room (hG _ _ (g.X _ _ ho)) rfl hco hgen rfl (codeRec_of (g.X.keeps hG) hcd) ?_
 refine hbind _ _ _ _ ?_
 refine wpAny_with_toks (n:=s.toks) (Nat.le_refl _) (wpAny_mono (wpAny_newFunctionEnv_cells (Q:=fun env s'=>s.toks≤s'.toks→s'.heap.NoLimit∧codeAny (model c.prog c.w) A (.func body env) _ s') hk (fun x hx=>?_) fun env he s' X ht=>?_) (fun ν ν x=>x) fun ν ν x=>fun ν=>x)
 ·have:=List.all_eq_true.mp hkind x hx
  rcases Bool.or_eq_true _ _▸this with q|q
  ·exact .inl (eq_of_beq q)
  ·exact .inr ⟨eq_of_beq q,cellsFrom_some _ _ _ _ (.inr (eq_of_beq q))⟩
 ·subst he
  refine⟨(g.nolimit.keeps hG).keeps X.toInCall.keep,codeAny_func ?_⟩
  have S':=S.lH (ns:=scope.names) hnd X ht
  have e1:cN scope.names (bindL (Env.kindOf (newEnv scope s.heap.objs.size mainGlobals (cellsFrom (s.heap.objs.size+1) scope.names []) (qual++".<locals>.") (some f) cdv none builtinsNs)) binds fun ν=>none)=V':=hV
  have e2:aG (cellsFrom (s.heap.objs.size+1) scope.names []) (bindC (Env.kindOf (newEnv scope s.heap.objs.size mainGlobals (cellsFrom (s.heap.objs.size+1) scope.names []) (qual++".<locals>.") (some f) cdv none builtinsNs)) binds fun ν=>none) scope.names=C s.heap.objs.size:=hC _
  have S'':aa c s.heap.objs.size V' (aI (C s.heap.objs.size)++ .ow (own L bC V)::G) s':=by
   rw[←e2,←e1];exact S'
  exact wpAny_mono (h _ s' S'' (ok.deeper _)) (fun ν ν x=>x) fun ν ν x=>x.elim
theorem AM{n:Nat}(ok:Ok A (n+1))(rest:List Value)(kw:List (Str×Value)):Ok (A.under (.builtin "type.__call__" ⟨.ref 150::rest,kw⟩)) n:=by
 have h1:(Code.builtin "type.__call__" ⟨.ref 150::rest,kw⟩).weight =1:=by kernel_rfl
 have h2:(Code.builtin "type.__call__" ⟨.ref 150::rest,kw⟩).cUnits =1:=by kernel_rfl
 refine⟨ok.hd,?_,?_⟩
 ·show A.depth+(Code.builtin "type.__call__" _).weight +n<1000
  rw[h1]
  have:=ok.dp;exact id (ω77 this)
 ·show A.units+(Code.builtin "type.__call__" _).cUnits +16*n<9900
  rw[h2]
  have:=ok.un;lia
theorem aa.make(g:cg c){n:Nat}{rest:List Value}{kw:List (Str×Value)}{Q:Value→Shared→Prop}(S:aa c L V G s)(ok:Ok A (n+1))
 (h:∀x dx s',aa c L V (.kn (held x (aU dx)):: .ow (own dx aR [])::G) s'→∀A',Ok A' n→codeAny (model c.prog c.w) A' (.call (.ref 67) ⟨.ref x::rest,kw⟩) (fun r s''=>r= .ok (.ret .none)∧Q (.ref x) s'') s'):Wp c A (call (.ref 150) rest kw) Q s:=by
 refine wpAny_call ?_
 have X:=g.oK S
 have hm:makesIn (aO c) 150=true:=by kernel_rfl
 have hi:findIn (aO c) (.ref 150) "__init__"=some (some (.ref 67)):=by kernel_rfl
 have hf:typeIn (aO c) (.ref 67)=some (.type "function"):=by kernel_rfl
 obtain⟨hh,gg,d,t,os⟩:=s
 refine make_core (makes_of X hm) (looks_findIn X hi) (fun self=>bind_fn X self hf) (.inl rfl) ?_
 have S1:=S.push (tk:=t) (o:=emptyDict) aR [] fun ν ν=>⟨[],0,rfl,.nil⟩
 have S2:=S1.push (tk:=t) (o:=instObj 150 hh.objs.size) (ck (instObj 150 hh.objs.size)) () fun ν ν=>rfl
 have S3:=S2.freeze .here
 have hsz:(hh.push emptyDict).objs.size =hh.objs.size+1:=Heap.size_push ..
 have S4:=S3.add (held (hh.objs.size+1) (aU hh.objs.size)) fun B k=>by
  refine fO (k.at (k:=is (Ty.ref (ck (instObj 150 hh.objs.size))) (.ref (hh.push emptyDict).objs.size) ()) (.head _)) fun a o e ν3 ho r=>?_
  cases e
  have r:o=instObj 150 hh.objs.size:=r
  rw[r] at ho
  rw[←hsz];exact ho
 refine codeAny_mono (h (hh.objs.size+1) hh.objs.size _ (S4.sub (.kn (.head _) (.drop (.drop .all)))) _ (AM ok _ _)) fun r s' ⟨e,hq⟩=>?_
 subst e
 exact⟨rfl,hq⟩
end
end Mine
namespace Mine
section
variable{prog:Program}{w:World}{A:Around}{E:Value→Shared→Prop}{s:Shared}
theorem nc{M:Model}{Q:Value→Shared→Prop}
 (h:∀h' e vs,(∀b o,s.heap.get? b=some o→h'.get? b=some o)→h'.get? e=some {cls:=.type "StopIteration",data:=.fields vs}→vs[5]?=some .none→Q (.ref e) {s with heap:=h'}):
 wpAny M A (newExc (.type "StopIteration") []) Q E s:=by
 refine wpAny_bind (wpAny_newObj_type ?_ (by size_fits))
 refine wpAny_bind (m:=firstArgMember _ _) (wpAny_of_eq (a:=Value.none) rfl ?_)
 exact wpAny_newObj_type (h _ _ _ (fun b o hb=>Heap.get?_push_of_some _ (Heap.get?_push_of_some _ hb)) (Heap.get?_push_size _ rfl) rfl) (by size_fits)
theorem nS{α:Type}{M:Model}{F:α→Shared→Prop}{X:Value→Shared→Prop}{N:Shared→Prop}(hh:A.handled=none)(hX:∀e s',s'.TypeIs e "StopIteration"→N s'→X e s')
 (h:∀h',(∀b o,s.heap.get? b=some o→h'.get? b=some o)→N {s with heap:=h'}):wpAny M A (newExc (.type "StopIteration") []>>=fun e=>(raiseNew e:Sem α)) F X s:=
 wpAny_bind (nc fun h' ν ν hk he ν=>wpAny_raiseNew_none hh (hX _ _ ⟨_,he,rfl⟩ (h h' hk)))
theorem eU{it:Addr}{T id:String}{b:Builtin}{Q:Option Value→Shared→Prop}(hT:s.TypeIs (.ref it) T)(h:Slot T (Str.ofString "__next__") id)(hb:entryFor table id=some b)(ha:argsOk id ⟨[.ref it],[]⟩)
 (k:∀(F:Fin→Shared→Prop) (X:Value→Shared→Prop),(∀v s',Q (some v) s'→F (.done (.ret v)) s')→(∀e s',s'.TypeIs e "StopIteration"→Q none s'→X e s')→wpAny (model prog w) A.in1 (b ⟨[.ref it],[]⟩) F X s):wpAny (model prog w) A (pyNext (.ref it)) Q E s:=by
 exact wpAny_bind (wpAny_attempt (wpAny_callSpecial?_slot hT h (wpAny_call_entry h hT hb (k _ _ (fun v s' q=>⟨v,rfl,wpAny_pure q⟩) fun e s' hT q=>wpAny_bind (wpAny_isInstance (b:=true) hT isSubtype_stop (wpAny_pure q))) ha)))
theorem tP{a:Addr}{g n:Nat}{gs:GenState}{P:Nat→Shared→Shared→Prop}{Y:Protocol}{Q:Option Value→Shared→Prop}(hh:A.handled=none)
 (hl:s.heap.NoLimit) (hroom:A.depth<recursionLimit)
 (hg:s.heap.IsGen a g) (hgs:s.gens[g]?=some gs)
 (hgo:gs.Goes (model prog w) A.in1 (fun n s₀ r s₁=>r= .ok (.ret .none)∧P n s₀ s₁) Y n (.send .none) (s.setGen g .running))
 (hY:∀v s₁ gs',gs'.bare=true→Y (n-1) (s.setGen g .running) v s₁ (fun r' s''=>match n with
   |0=>False
   |m+1=>gs'.Goes (model prog w) A.in1 (fun n s₀ r s₁=>r= .ok (.ret .none)∧P n s₀ s₁) Y m r' s'')→Q (some v) (s₁.setGen g gs'))
 (hP:∀s₁,P n (s.setGen g .running) s₁→∀h',(∀b o,s₁.heap.get? b=some o→h'.get? b=some o)→Q none {s₁.setGen g .finished with heap:=h'}):
 wpAny (model prog w) A (pyNext (.ref a)) Q E s:=by
 refine eU hg.typeIs slot_gen_next entry_gen_next (args_gen_next _) fun F X hF hX=>?_
 show wpAny _ _ (Builtin.Generator.genWake (.ref a) (.send .none)) _ _ s
 refine wpAny_bind (wpAny_holding (wpAny_genNumber hg (wpAny_bind (wpAny_genState hgs ?_))))
 cases gs with
 |running=>exact hgo.elim
 |finished=>exact hgo.elim
 |_=>
  refine wpAny_bind (wpAny_roomToWake hl hroom ?_)
  refine wpAny_resumeQ hgs hgo (fun x s₁ hx=>?_) (fun v s₁ gs' hb hv=>?_)
  ·obtain⟨rfl,hp⟩:=hx
   show wpAny _ _ (newExc (.type "StopIteration") []>>=_) _ _ _
   refine wpAny_bind (nc fun h' e vs hk he ν=>wpAny_bind (wpAny_raiseNew_none (A:=A.in1) hh (hX _ _ ⟨_,he,rfl⟩ (hP s₁ hp h' hk))))
  ·exact wpAny_pure (hF _ _ (hY v s₁ gs' hb hv))
end
section
variable{M:Model}{A:Around}{R:GenEnd}{Y:Protocol}{n:Nat}{s₀:Shared}{c:Code}{fs:List Frame}{s:Shared}{env:Env}
 {K:Flow→Sem Fin} {H:Value→Sem Fin} {gd:Bool→Bool} {lv:List Value→List Value}
noncomputable def xj(env:Env)(K:Flow→Sem Fin)(H:Value→Sem Fin)(gd:Bool→Bool)(lv:List Value→List Value):Result→Sem Fin:=fun r=>
 ((match r with | .ok f=>(.pure f:Sem Flow)| .error e=>.raise e).onRaise fun(x:Value)=>do
   if(←field x 1)==Value.none then unsupported "frame.own-activation:exception-without-traceback"
   setFlight x env.frame).wrap K H gd lv
theorem wV{target iter:Expr}{body orelse:List Stmt}{pos:Pos}
 (h:wpAny M (A.over c fs) (eval iter env) (fun x s₁=>wpAny M (A.over c fs) (pyIter x) (fun it s₂=>
   ∀p,Seg M A R Y n s₀ (.forLoop target it body orelse env) (M.den (.forLoop target it body orelse env)) (.ret (xj env K H gd lv) none (gd false) (lv []) c p []::fs) s₂) (fun ν ν=>False) s₁) (fun ν ν=>False) s)
 (hs:autoParam (∀x,foldedSetIterable iter env x=pure x) ua):
 Seg M A R Y n s₀ c ((exec (.For target iter body orelse pos) env).wrap K H gd lv) fs s:=by
 rw[exec_For]
 show Seg M A R Y n s₀ c (.at pos fun ν=>((eval iter env>>=fun x₀=>(foldedSetIterable iter env x₀>>=fun x=>(standAt iter.pos>>=fun ν=>(holding [x] (pyIter x)>>=fun it=>runOwn (.forLoop target it body orelse env) env)))).wrap K H gd lv)) fs s
 refine seg_at ?_
 simp only[hs]
 rw[Sem.bind_eq_wrap',Sem.wrap_wrap]
 refine seg_wrap (wpAny_mono h (fun x s₁ h₁=>?_) fun ν ν x=>x.elim)
 show Seg M A R Y n s₀ c (.at iter.pos fun ν=>((holding [x] (pyIter x)>>=fun it=>runOwn (.forLoop target it body orelse env) env).wrap K H (fun g=>gd g) (fun l=>lv l))) fs s₁
 refine seg_at ?_
 rw[Sem.bind_eq_wrap',Sem.wrap_wrap]
 refine seg_wrap (wpAny_holding (wpAny_mono h₁ (fun it s₂ h₂=>?_) fun ν ν x=>x.elim))
 exact seg_call h₂
end
section
variable{prog:Program}{w:World}{A:Around}{R:GenEnd}{Y:Protocol}{n:Nat}{s₀:Shared}{fs:List Frame}{s:Shared}{env:Env}
noncomputable def uV(env:Env)(e:Value):Sem Fin:=(do noteFrame e env;theTreesLotGoes e:Sem Unit).wrap (fun ν=>.raise e) .raise id id
noncomputable def yu(target:Expr)(it:Value)(body:List Stmt)(env:Env):Flow→Sem Fin
 | .next | .cont=>.pure (.again (.forLoop target it body [] env))
 | .brk=>.pure (.done .next)
 | .ret v=>.pure (.done (.ret v))
theorem jD{target:Expr}{it:Value}{body:List Stmt}
 (h:wpAny (model prog w) (A.over (.forLoop target it body [] env) fs) (pyNext it) (fun r s₁=>match r with
   |none=>Seg (model prog w) A R Y n s₀ (.block [] env) (leafOf (.ok .next)) fs s₁
   |some v=>wpAny (model prog w) (A.over (.forLoop target it body [] env) fs) (letOwnedTupleGo target it v) (fun ν s₂=>
     wpAny (model prog w) (A.over (.forLoop target it body [] env) fs) (assign target env v) (fun ν s₃=>
      Seg (model prog w) A R Y n s₀ (.forLoop target it body [] env) ((execs body env).wrap (yu target it body env) (uV env) id id) fs s₃) (fun ν ν=>False) s₂) (fun ν ν=>False) s₁) (fun ν ν=>False) s):
 Seg (model prog w) A R Y n s₀ (.forLoop target it body [] env) ((model prog w).den (.forLoop target it body [] env)) fs s:=by
 show Seg _ A R Y n s₀ _ ((forTurn target it body [] env).onRaise (fun x=>do noteFrame x env;theTreesLotGoes x)) fs s
 rw[Sem.onRaise_eq_wrap]
 show Seg _ A R Y n s₀ _ (.at target.pos fun ν=>(((pyNext it).onRaise (fun ν=>standAt {target.pos with line:=0}))>>=fun r=>(match r with
  |none=>(Sem.pure (Fin.again (.block [] env)):Sem Fin)
  |some v=>letOwnedTupleGo target it v>>=fun ν=>assign target env v>>=fun ν=>execs body env>>=fun f=>match f with
   | .next | .cont=>(Sem.pure (Fin.again (.forLoop target it body [] env)):Sem Fin)
   | .brk=>Sem.pure (Fin.done .next)
   | .ret v=>Sem.pure (Fin.done (.ret v)))).wrap .pure (fun e=>((do noteFrame e env;theTreesLotGoes e:Sem Unit)).bind fun ν=>.raise e) id id) fs s
 refine seg_at ?_
 rw[Sem.onRaise_eq_wrap,Sem.bind_eq_wrap',Sem.wrap_wrap,Sem.wrap_wrap]
 refine seg_wrap (wpAny_mono h (fun r s₁ h₁=>?_) fun ν ν x=>x.elim)
 cases r with
 |none=>exact seg_again rfl h₁
 |some v=>
  show Seg _ A R Y n s₀ _ (Sem.wrap _ _ _ _ (letOwnedTupleGo target it v>>=_)) fs s₁
  rw[Sem.bind_eq_wrap',Sem.wrap_wrap]
  refine seg_wrap (wpAny_mono h₁ (fun ν s₂ h₂=>?_) fun ν ν x=>x.elim)
  rw[Sem.bind_eq_wrap',Sem.wrap_wrap]
  refine seg_wrap (wpAny_mono h₂ (fun ν s₃ h₃=>?_) fun ν ν x=>x.elim)
  rw[Sem.bind_eq_wrap',Sem.wrap_wrap]
  rw[Sem.wrap_congr (execs body env) _ _ (K':=yu target it body env) (H':=uV env) (fun f=>by cases f <;> rfl) (fun e=>by first|exact Sem.bind_eq_wrap _ _|rfl)]
  exact h₃
end
section
variable{M:Model}{A:Around}{R:GenEnd}{Y:Protocol}{n:Nat}{s₀:Shared}{c:Code}{fs:List Frame}{s:Shared}{env:Env}
 {K:Flow→Sem Fin} {H:Value→Sem Fin} {gd:Bool→Bool} {lv:List Value→List Value}
noncomputable def cR(it x:Value):Code:=.builtin "proto.yield_from" ⟨[it,.bool false,x],[]⟩
noncomputable def B5(e:Expr)(ypos pos:Pos)(K:Flow→Sem Fin)(H:Value→Sem Fin)(gd:Bool→Bool)(lv:List Value→List Value):Result→Sem Fin:=fun r=>
 (((match r with | .ok f=>(Sem.pure f:Sem Flow)| .error e=>Sem.raise e).bind fun f=>(match f with | .ret v=>(pure v:Sem Value)|_=>unsupported "internal:call-without-return-value")):Sem Value).wrap
   (fun v=>(dropValue (.YieldFrom e ypos) pos v).wrap K H gd lv) (fun x=>H x) (fun g=>gd g) (fun l=>lv l)
theorem lO{e:Expr}{ypos pos:Pos}
 (h:wpAny M (A.over c fs) (eval e env) (fun v s₁=>∃T,s₁.TypeIs v T∧(Value.type T== .type "coroutine")=false∧wpAny M (A.over c fs) (pyIter v) (fun it s₂=>
   ∀p,Seg M A R Y n s₀ (cR it .none) (M.den (cR it .none)) (.ret (B5 e ypos pos K H gd lv) none (gd false) (lv []) c p []::fs) s₂) (fun ν ν=>False) s₁) (fun ν ν=>False) s)
 (hi:autoParam (interactive env=false) af):
 Seg M A R Y n s₀ c ((exec (.Expr (.YieldFrom e ypos) pos) env).wrap K H gd lv) fs s:=by
 rw[exec_Expr env _ pos hi rfl]
 show Seg M A R Y n s₀ c (.at pos fun ν=>(((eval e env>>=fun v=>standAt ypos>>=fun ν=>yieldFrom env v)>>=fun x=>dropValue (.YieldFrom e ypos) pos x).wrap K H gd lv)) fs s
 refine seg_at ?_
 rw[Sem.bind_eq_wrap',Sem.bind_eq_wrap',Sem.wrap_wrap,Sem.wrap_wrap]
 refine seg_wrap (wpAny_mono h (fun v s₁ h₁=>?_) fun ν ν x=>x.elim)
 refine bL h₁ fun T hT hne π43=>?_;try clear h₁;revert π43;intro h₁
 show Seg M A R Y n s₀ c (.at ypos fun ν=>(yieldFrom env v).wrap _ _ _ _) fs s₁
 refine seg_at ?_
 unfold yieldFrom
 rw[Sem.bind_eq_wrap',Sem.wrap_wrap]
 refine seg_wrap (wpAny_typeOf hT ?_)
 rw[hne,if_neg Bool.false_ne_true]
 rw[Sem.bind_eq_wrap',Sem.wrap_wrap]
 refine seg_wrap (wpAny_holding (wpAny_mono h₁ (fun it s₂ h₂=>?_) fun ν ν x=>x.elim))
 exact seg_call h₂
end
end Mine
namespace Mine
section
variable{prog:Program}{w:World}{A:Around}{E:Value→Shared→Prop}{s:Shared}
theorem nv{it l:Addr}{i:Nat}{items:Array Value}{x:Value}{Q:Option Value→Shared→Prop}(hit:s.heap.IsListIter it l i)
 (hl:s.heap.IsList l items) (hx:items[i]?=some x)
 (hQ:∀h',h'.IsListIter it l (i+1)→Heap.SameBut it s.heap h'→Q (some x) {s with heap:=h'}):
 wpAny (model prog w) A (callSpecial? (.ref it) (Str.ofString "__next__")) Q E s:=by
 refine bL (id hit) fun o ho hc hd=>?_
 obtain⟨ol,hol,_,nl,hdl⟩:=hl
 refine wpAny_callSpecial?_slot (name:=Str.ofString "__next__") hit.typeIs slot_listiter_next
  (wpAny_call_entry slot_listiter_next hit.typeIs entry_listiter_next ?_ (args_listiter_next _))
 show wpAny _ _ (field (.ref it) 0>>=_) _ _ s
 refine wpAny_bind (wpAny_field ho hd (x:=.ref l) rfl ?_)
 rw[if_neg (show¬((Value.ref l==Value.none)=true) from Bool.false_ne_true)]
 refine wpAny_bind (wpAny_field ho hd (x:=.int i 0) rfl ?_)
 refine wpAny_bind (wpAny_seqItems hol hdl ?_)
 simp only[Int.toNat_natCast,hx]
 refine wpAny_bind (wpAny_setField ho hd (by simp) (wpAny_pure ⟨x,rfl,hQ _ ?_ (Heap.SameBut.update ..)⟩))
 exact⟨_,Heap.get?_update_self _ ho (Obj.isFreed_of_fields (Obj.data_mapFields hd _)),(Obj.cls_mapFields ..).trans hc,by
  rw[Obj.data_mapFields hd];simp[rawInt]⟩
theorem pM{it l:Addr}{i:Nat}{items:Array Value}{Q:Option Value→Shared→Prop}(hh:A.handled=none)
 (hit:s.heap.IsListIter it l i) (hl:s.heap.IsList l items) (hx:items[i]?=none)
 (hQ:∀h' e o vs,Heap.ExtBut it s.heap h'→h'.get? e=some o→o.cls= .type "StopIteration"→o.data= .fields vs→vs[5]?=some .none→o.slots= #[]→E (.ref e) {s with heap:=h'}):
 wpAny (model prog w) A (callSpecial? (.ref it) (Str.ofString "__next__")) Q E s:=by
 refine bL (id hit) fun o ho hc hd=>?_
 obtain⟨ol,hol,_,nl,hdl⟩:=hl
 refine wpAny_callSpecial?_slot (name:=Str.ofString "__next__") hit.typeIs slot_listiter_next
  (wpAny_call_entry slot_listiter_next hit.typeIs entry_listiter_next ?_ (args_listiter_next _))
 show wpAny _ _ (field (.ref it) 0>>=_) _ _ s
 refine wpAny_bind (wpAny_field ho hd (x:=.ref l) rfl ?_)
 rw[if_neg (show¬((Value.ref l==Value.none)=true) from Bool.false_ne_true)]
 refine wpAny_bind (wpAny_field ho hd (x:=.int i 0) rfl ?_)
 refine wpAny_bind (wpAny_seqItems hol hdl ?_)
 simp only[Int.toNat_natCast,hx]
 refine wpAny_bind (wpAny_rule (wpAny_bind (wpAny_setField ho hd (by simp) ?_)))
 exact wpAny_bind (nc fun h' e vs hk he hv=>wpAny_raiseNew_none (A:=A.in1) hh (hQ _ _ _ _ ((Heap.SameBut.update ..).extBut.trans (fun b o' ν e=>hk b o' e)) he rfl rfl hv rfl))
end
end Mine
namespace Mine
theorem vA:entryFor table "proto.yield_from"=some Builtin.«proto.yield_from»:=entryFor_of_fast (by kernel_rfl)
theorem kP:typeLookup (.type "list_iterator") (Str.ofString "close")=pure none:=am_miss_of_fast (by kernel_rfl)
section
variable{prog:Program}{w:World}{A:Around}{R:GenEnd}{Y:Protocol}{n:Nat}{s₀:Shared}{fs:List Frame}{s:Shared}
theorem nG{id:String}{args:Args}{b:Builtin}(hb:entryFor table id=some b):(model prog w).den (.builtin id args)=b args:=by
 show(match entryFor table id with |some b=>b args|none=>unsupported ((withoutEnding? id "#data").getD id))=_
 rw[hb]
theorem wD{it x:Value}:(model prog w).den (cR it x)=Builtin.«proto.yield_from» ⟨[it,.bool false,x],[]⟩:=nG vA
theorem oZ{it l:Addr}{i:Nat}{items:Array Value}{x:Value}(hfs:splitAtGen fs=none)(hfg:fs.any Frame.guarded=false)
 (hit:s.heap.IsListIter it l i) (hl:s.heap.IsList l items) (hx:items[i]?=some x)
 (h:∀h',h'.IsListIter it l (i+1)→Heap.SameBut it s.heap h'→∀kap:Resume→Shared→Prop,
   (∀s'' i',s''.heap.IsListIter it l i'→Seg (model prog w) A R Y n s'' (cR (.ref it) .none) ((model prog w).den (cR (.ref it) .none)) fs s''→kap (.send .none) s'')→Y n s₀ x {s with heap:=h'} kap):
 Seg (model prog w) A R Y (n+1) s₀ (cR (.ref it) .none) ((model prog w).den (cR (.ref it) .none)) fs s:=by
 rw[wD]
 show Seg _ A R Y (n+1) s₀ _ (Sem.attempt (holding [Value.none] _)>>=_) fs s
 refine seg_bind (wpAny_attempt (wpAny_holding ?_))
 refine wpAny_bind (wpAny_rule (wpAny_bind (nv hit hl hx fun h' hit' hs=>wpAny_pure ?_)))
 refine bL (id hit') fun o' ho' hc' ν3=>?_
 refine seg_bind (wpAny_typeOf (T:="list_iterator") ⟨o',ho',hc'⟩ ?_)
 show Seg _ A R Y (n+1) s₀ _ (typeLookup (.type "list_iterator") (Str.ofString "close")>>=_) fs _
 rw[kP]
 show Seg _ A R Y (n+1) s₀ _ (Builtin.Generator.sleptOver (.ref it) true>>=_) fs _
 refine seg_bind ?_
 refine wpAny_bind (wpAny_load ho' ?_)
 rw[hc']
 refine wpAny_pure ?_
 refine seg_yield hfs rfl hfg ?_
 refine h h' hit' hs _ fun s'' i' hit'' hseg=>?_
 refine bL (id hit'') fun o'' ho'' hc'' ν3=>?_
 show Seg _ A R Y n s'' _ (Builtin.Generator.sleptOver (.ref it) false>>=_) fs _
 refine seg_bind ?_
 refine wpAny_bind (wpAny_load ho'' ?_)
 rw[hc'']
 refine wpAny_pure ?_
 exact seg_again (Code.quiet_builtin _ (by decide+kernel)) hseg
theorem qH{it l:Addr}{i:Nat}{items:Array Value}(hA:(A.over (cR (.ref it) .none) fs).handled =none)
 (hit:s.heap.IsListIter it l i) (hl:s.heap.IsList l items) (hx:items[i]?=none)
 (h:∀h',Heap.ExtBut it s.heap h'→Seg (model prog w) A R Y n s₀ (cR (.ref it) .none) (leafOf (.ok (.ret .none))) fs {s with heap:=h'}):
 Seg (model prog w) A R Y n s₀ (cR (.ref it) .none) ((model prog w).den (cR (.ref it) .none)) fs s:=by
 rw[wD]
 show Seg _ A R Y n s₀ _ (Sem.attempt (holding [Value.none] _)>>=_) fs s
 refine seg_bind (wpAny_attempt (wpAny_holding ?_))
 refine wpAny_bind (wpAny_rule (wpAny_bind (pM hA hit hl hx fun h' e o vs hs ho hc hd h5 hsl=>?_)))
 refine seg_bind ?_
 refine wpAny_bind ?_
 refine wpAny_bind (wpAny_typeOf (T:="StopIteration") ⟨o,ho,hc⟩ ?_)
 show wpAny _ _ (isSubtype (.type "StopIteration") (.type "StopIteration")>>=_) _ _ _
 rw[isSubtype_stop]
 refine wpAny_bind (wpAny_pure (wpAny_bind (wpAny_typeOf (T:="type") rfl (wpAny_pure ?_))))
 refine wpAny_pure ?_
 refine seg_bind (wpAny_rule ?_)
 show Seg _ A R Y n s₀ _ (field (.ref e) 5>>=_) fs _
 refine seg_bind (wpAny_field ho hd h5 ?_)
 exact h h' hs
end
end Mine
namespace Mine
section
variable{M:Model}{A:Around}{R:GenEnd}{Y:Protocol}{n:Nat}{s₀:Shared}{c:Code}{fs:List Frame}{s:Shared}{env:Env}
 {K:Flow→Sem Fin} {H:Value→Sem Fin} {gd:Bool→Bool} {lv:List Value→List Value}
theorem zO{test:Expr}{body orelse:List Stmt}{pos:Pos}
 (h:wpAny M (A.over c fs) (isTrue test env (eval test env)) (fun b s₁=>Seg M A R Y n s₀ c ((if b=true then execs body env else execs orelse env).wrap K H gd lv) fs s₁) (fun ν ν=>False) s):
 Seg M A R Y n s₀ c ((exec (.If test body orelse pos) env).wrap K H gd lv) fs s:=by
 show Seg M A R Y n s₀ c (.at pos fun ν=>((isTrue test env (eval test env)>>=fun b=>if b=true then execs body env else execs orelse env).wrap K H gd lv)) fs s
 refine seg_at ?_
 rw[Sem.bind_eq_wrap',Sem.wrap_wrap]
 exact seg_wrap (wpAny_mono h (fun b s₁ h₁=>h₁) fun ν ν x=>x.elim)
end
section
variable{c:Cx}{A:Around}{L:Addr}{V:ay}{G R:List Fa}{s:Shared}{env:Env}
end
end Mine
namespace Mine
section
variable{c:Cx}{A:Around}{L:Addr}{V V':ay}{G R:List Fa}{s:Shared}{env:Env}
noncomputable def fN(g:Nat):Tb Unit:=⟨fun ν o ν=>(o.cls= .type "generator"∧∃nm qn,o.data= .fields #[.int g 0,nm,qn])∧o.slots= #[],fun ν r=>r,fun⟨⟨_,_,_,h⟩,_⟩=>gj h⟩
theorem aa.newGen{gs:GenState}(S:aa c L V G s)(hb:gs.bare=true):aa c L V G {s with gens:=s.gens.push gs}:=by
 obtain⟨B,S⟩:=S
 refine⟨B,{S with gens:=fun g hg=>?_,bare:=?_}⟩
 ·have h:=S.gens g hg
  obtain⟨hlt,_⟩:=Array.getElem?_eq_some_iff.mp h
  show(s.gens.push gs)[g.1]?=some g.2
  rw[Array.getElem?_push_lt hlt]
  exact(Array.getElem?_eq_getElem hlt).symm.trans h
 ·intro x hx
  rcases Array.mem_push.mp hx with h|h
  ·exact S.bare x h
  ·exact h▸hb
theorem uK{n:Nat}{f:Addr}{oc:Value}{od:Option Addr}{osl:Array (Option Value)}{name qual:Str}{params:Arguments}{body:List Stmt}{scope:Scope}{dV kV doc pm cdv ct:Value}{an:Option Addr}
 {args:Args} {binds:List (Str×Value)} {Q:Value→Shared→Prop}
 (g:cg c) (S:aa c L V G s) (ok:Ok A (n+1)) (hL:sysModules<L) (ho:(aO c).lookup f=some ⟨oc,od,.func (fnOf name qual params body scope dV kV doc pm an cdv ct),osl⟩)
 (hbind:BindsTo s (fnOf name qual params body scope dV kV doc pm an cdv ct) args binds)
 (hcd:codeIn (aO c) cdv qual=true)
 (hnd:(scope.names.map (·.1)).Nodup) (hkind:(binds.all fun x=>scope.names.lookup x.1==some .local ||scope.names.lookup x.1==some .cell)=true)
 (hV:cN scope.names (bindL (fun x=>scope.names.lookup x) binds fun ν=>none)=V')
 (hC:∀L',aG (cellsFrom (L'+1) scope.names []) (bindC (fun x=>scope.names.lookup x) binds fun ν=>none) scope.names=[])
 (h:∀L' a gn s',s.heap.objs.size≤L'→s'.gens[gn]?=some (.fresh (.func body (envOfC qual scope L' f cdv)))→aa c L V (.ow (own a (fN gn) ()):: .ow (own L' bC V')::G) s'→Q (.ref a) s')
 (hco:autoParam (scope.isCoroutine=false) af) (hgen:autoParam (scope.isGenerator=true) af) (hk:autoParam (scope.kind= .function) af):
 Wp c A (call (.ref f) args.pos args.kw) Q s:=by
 refine wpAny_call ?_
 have hG:∀b o,c.hG.get? b=some o→s.heap.get? b=some o:=fun b o e=>S.ground e
 refine codeAny_call_generator ok.room (hG _ _ (g.X _ _ ho)) rfl hco hgen rfl (codeRec_of (g.X.keeps hG) hcd) ?_
 refine hbind _ _ _ _ ?_
 refine wpAny_with_toks (n:=s.toks) (Nat.le_refl _) (wpAny_mono (wpAny_newFunctionEnv_cells (Q:=fun env s'=>s.toks≤s'.toks→s'.heap.NoLimit∧_) hk (fun x hx=>?_) fun env he s' X ht=>?_) (fun ν ν x=>x) fun ν ν x=>fun ν=>x)
 ·have:=List.all_eq_true.mp hkind x hx
  rcases Bool.or_eq_true _ _▸this with q|q
  ·exact .inl (eq_of_beq q)
  ·exact .inr ⟨eq_of_beq q,cellsFrom_some _ _ _ _ (.inr (eq_of_beq q))⟩
 ·subst he
  refine⟨(g.nolimit.keeps hG).keeps X.toInCall.keep,?_⟩
  have S':=S.lH (ns:=scope.names) hnd X ht
  have e1:cN scope.names (bindL (Env.kindOf (newEnv scope s.heap.objs.size mainGlobals (cellsFrom (s.heap.objs.size+1) scope.names []) (qual++".<locals>.") (some f) cdv none builtinsNs)) binds fun ν=>none)=V':=hV
  have e2:aG (cellsFrom (s.heap.objs.size+1) scope.names []) (bindC (Env.kindOf (newEnv scope s.heap.objs.size mainGlobals (cellsFrom (s.heap.objs.size+1) scope.names []) (qual++".<locals>.") (some f) cdv none builtinsNs)) binds fun ν=>none) scope.names=[]:=hC _
  have key:∀C0,aG (cellsFrom (s.heap.objs.size+1) scope.names []) (bindC (Env.kindOf (newEnv scope s.heap.objs.size mainGlobals (cellsFrom (s.heap.objs.size+1) scope.names []) (qual++".<locals>.") (some f) cdv none builtinsNs)) binds fun ν=>none) scope.names=C0→aa c s.heap.objs.size V' (aI C0++ .ow (own L bC V)::G) s':=by
   intro _ υ1;obtain rfl:=υ1;rw[←e1];exact S'
  have S'':aa c s.heap.objs.size V' (.ow (own L bC V)::G) s':=key _ e2
  have S3:=S''.swap .here hL
  have S4:=(S3.push (tk:=s'.toks+1+1) (o:={cls:=.type "generator",data:=.fields #[.int s'.gens.size 0,.str name s'.toks,.str qual (s'.toks+1)]}) (fN s'.gens.size) () fun ν ν=>⟨⟨rfl,_,_,rfl⟩,rfl⟩).newGen (gs:=.fresh (.func body (envOfC qual scope s.heap.objs.size f cdv))) rfl
  exact h _ _ _ _ (Nat.le_refl _) (Array.getElem?_push_size ..) S4
end
end Mine
namespace Mine
noncomputable def wG:Obj:={cls:=.none,data:=.freed}
noncomputable def hole(h:Heap)(X:List Addr):Heap:={h with objs:=h.objs.mapIdx fun i o=>if i∈X then wG else o}
theorem tN{h:Heap}{X:List Addr}:(hole h X).objs.size =h.objs.size:=by simp[hole]
theorem gq{h:Heap}{X:List Addr}{b:Addr}{o:Obj}:(hole h X).get? b=some o↔b∉X∧h.get? b=some o:=by
 have e:(hole h X).objs[b]?=h.objs[b]?.map fun o=>if b∈X then wG else o:=Array.getElem?_mapIdx
 rw[Heap.get?_eq_some,Heap.get?_eq_some,e]
 refine⟨fun⟨h1,h2⟩=>?_,fun⟨h1,h2,h3⟩=>⟨by rw[h2,Option.map_some,if_neg h1],h3⟩⟩
 refine aj (Option.map_eq_some_iff.mp h1) fun o' ho π32=>?_;rcases π32 with rfl
 by_cases hb:b∈X
 ·rw[if_pos hb] at h2;cases h2
 ·rw[if_neg hb] at h2⊢;exact⟨hb,ho,h2⟩
structure dg where
 C:Addr
 a:Addr
 ds:Addr
 stack:List (Addr×List Value)
noncomputable def dg.Off(k:dg)(x:Addr):Prop:=k.C≤x∧x≠k.a
noncomputable def dg.wL(k:dg)(h:Heap):Prop:=h.IsList k.ds (k.stack.map fun p=>Value.ref p.1).toArray∧(∀p∈k.stack,h.IsList p.1 p.2.toArray)∧∃o,h.get? k.a=some o
structure dg.Small(k:dg):Prop where
 ds:k.ds<k.C
 st:∀p∈k.stack,p.1<k.C
 sz:∀p∈k.stack,(p.2.length:Int)<2^63
 a:k.C≠k.a
structure Later(k:dg)(s s':Shared):Prop where
 gens:s'.gens=s.gens
 os:s'.os=s.os
 toks:s.toks≤s'.toks
 keep:∀b o,(b<k.C∨b=k.a)→s.heap.get? b=some o→s'.heap.get? b=some o
theorem Later.refl(k:dg)(s:Shared):Later k s s:=⟨rfl,rfl,Nat.le_refl _,fun ν ν ν e=>e⟩
theorem Later.trans{k:dg}{s s' s'':Shared}(h:Later k s s')(h':Later k s' s''):Later k s s'':=
 ⟨h'.gens.trans h.gens,h'.os.trans h.os,Nat.le_trans h.toks h'.toks,fun b o hb e=>h'.keep b o hb (h.keep b o hb e)⟩
theorem Later.but{k:dg}{s:Shared}{h':Heap}{tk:Nat}{x:Addr}(hx:k.Off x)(hk:Heap.ExtBut x s.heap h')(ht:autoParam (s.toks≤tk) tC):Later k s {s with heap:=h',toks:=tk}:=
 ⟨rfl,rfl,ht,fun b o hb e=>hk b o (by
  intro υ0;obtain rfl:=υ0
  rcases hb with hb|hb
  ·exact absurd hx.1 (Nat.not_le.mpr hb)
  ·exact hx.2 hb) e⟩
theorem Later.ext{k:dg}{s:Shared}{h':Heap}{tk:Nat}(hk:∀b o,s.heap.get? b=some o→h'.get? b=some o)(ht:autoParam (s.toks≤tk) B8):Later k s {s with heap:=h',toks:=tk}:=
 ⟨rfl,rfl,ht,fun b o ν e=>hk b o e⟩
theorem dg.wL.later{k:dg}(K:k.Small){s s':Shared}(x:k.wL s.heap)(h:Later k s s'):k.wL s'.heap:=by
 obtain⟨⟨o,ho,r⟩,x2,oa,ea⟩:=x
 refine⟨⟨o,h.keep _ _ (.inl K.ds) ho,r⟩,fun p hp=>?_,oa,h.keep _ _ (.inr rfl) ea⟩
 refine aj (x2 p hp) fun o ho r=>?_
 exact⟨o,h.keep _ _ (.inl (K.st p hp)) ho,r⟩
noncomputable def dg.Mid(k:dg)(ri li l:Addr)(i:Nat)(m:Nat)(h:Heap):Prop:=(∃f,h.Ns k.C f)∧h.IsRevIter ri k.ds ((m:Int)-1)∧h.IsListIter li l i
noncomputable def dg.R(k:dg):GenEnd:=fun n s0 r s1=>r= .ok (.ret .none)∧(n=0∧Later k s0 s1)
noncomputable def dg.Y(k:dg)(all:List Value):Protocol:=fun n s0 v s1 kap=>∃i,i+n+1=all.length∧all[i]?=some v∧Later k s0 s1∧
 ∃ri li l j m,k.Off ri∧k.Off li∧k.Mid ri li l j m s1.heap∧∀s'',k.wL s''.heap→k.Mid ri li l j m s''.heap→kap (.send .none) s''
noncomputable abbrev n8(p1 p2 p3 p4 p5:Pos):List Stmt:=[.If (.Name "namespaces" p1) [.Expr (.YieldFrom (.Name "namespaces" p2) p3) p4] [] p5]
section
variable{prog:Program}{w:World}{A:Around}{k:dg}{all:List Value}{env:Env}{ri:Addr}{p0 p1 p2 p3 p4 p5 pf py:Pos}{cf:Code}{K K':Flow→Sem Fin}{H H':Value→Sem Fin}{gd gd':Bool→Bool}{lv lv':List Value→List Value}
theorem nu{B:Around}(h:B.handled=none){c c1:Code}{k1:Result→Sem Fin}{g:Bool}{l:List Value}{p:Pos}:(B.over c [.ret k1 none g l c1 p []]).handled =none:=h
theorem lQ{B:Around}(h:B.handled=none){c c1 c2:Code}{k1 k2:Result→Sem Fin}{g g2:Bool}{l l2:List Value}{p q:Pos}:(B.over c [.ret k1 none g l c1 p [],.ret k2 none g2 l2 c2 q []]).handled =none:=h
theorem fW{h:Heap}{a b l d:Addr}{i:Nat}{j:Int}(x:h.IsListIter a l i)(y:h.IsRevIter b d j):b≠a:=by
 intro υ0;obtain rfl:=υ0
 refine bL x fun o e hc ν3=>?_;try clear x
 refine bL y fun o' e' hc' ν3=>?_;try clear y
 rw[e] at e';cases e';rw[hc] at hc';exact absurd hc' (by decide)
theorem gW{h:Heap}{a b l:Addr}{i:Nat}{f:Str→Option Value}(x:h.IsListIter a l i)(y:h.Ns b f):b≠a:=by
 intro υ0;obtain rfl:=υ0
 refine bL x fun o e ν2 hd=>?_;try clear x
 refine gh y fun o' ν1 ν2 e' hd' ν5=>?_;try clear y
 rw[e] at e';cases e';rw[hd] at hd';cases hd'
theorem i7{h:Heap}{a b l:Addr}{i:Int}{f:Str→Option Value}(x:h.IsRevIter a l i)(y:h.Ns b f):b≠a:=by
 intro υ0;obtain rfl:=υ0
 refine bL x fun o e ν2 hd=>?_;try clear x
 refine gh y fun o' ν1 ν2 e' hd' ν5=>?_;try clear y
 rw[e] at e';cases e';rw[hd] at hd';cases hd'
variable{co:Code}
theorem sF(Ks:k.Small)(hA:A.handled=none){rest:List Value}{m:Nat}{li l:Addr}{items:List Value}(hm:(l,items)∈k.stack)(hri:k.Off ri)(hli:k.Off li)(hg:gd false=false)(hg':gd' false=false){e:Expr}{ypos pos:Pos}
 (IH:∀s0 s,k.wL s.heap→Later k s0 s→(∃f,s.heap.Ns k.C f)→s.heap.IsRevIter ri k.ds ((m:Int)-1)→
   Seg (model prog w) A k.R (k.Y all) rest.length s0 cf (K' .next) [.ret (xj env K H gd lv) none (gd false) (lv []) co pf []] s):
 ∀(j i:Nat) (s0 s:Shared),i+j=items.length→k.wL s.heap→Later k s0 s→k.Mid ri li l i m s.heap→(∃pre,all=pre++(items.drop i++rest))→
  Seg (model prog w) A k.R (k.Y all) (j+rest.length) s0 (cR (.ref li) .none) ((model prog w).den (cR (.ref li) .none)) [.ret (B5 e ypos pos K' H' gd' lv') none (gd' false) (lv' []) cf py [],.ret (xj env K H gd lv) none (gd false) (lv []) co pf []] s:=by
 intro j
 induction j with
 |zero=>
  intro i s0 s hi hlow hlat ⟨⟨f,hns⟩,hrev,hit⟩ hall
  have hl:=hlow.2.1 _ hm
  refine qH (lQ hA) hit hl (by simp;lia) fun h' hs=>?_
  have hlat':Later k s {s with heap:=h'}:=Later.but hli hs
  refine seg_leaf _ ?_
  rw[Nat.zero_add]
  refine IH _ _ (hlow.later Ks hlat') (hlat.trans hlat') ⟨f,hns.extBut hs (gW hit hns)⟩ ?_
  refine aj (id hrev) fun o eo r=>?_
  exact⟨o,hs _ _ (fW hit hrev) eo,r⟩
 |succ j ih=>
  intro i s0 s hi hlow hlat ⟨⟨f,hns⟩,hrev,hit⟩ hall
  have hl:=hlow.2.1 _ hm
  have hlt:i<items.length:=by exact ω74 hi
  have e1:j+1+rest.length=(j+rest.length)+1:=by lia
  rw[e1]
  refine oZ (x:=items[i]) rfl (by simp[Frame.guarded,hg,hg']) hit hl (by simp[hlt]) fun h' hit' hs kap hkap=>?_
  obtain⟨pre,hpre⟩:=hall
  have hd:items.drop i=items[i]::items.drop (i+1):=List.drop_eq_getElem_cons hlt
  have hlat':Later k s {s with heap:=h'}:=Later.but hli hs.extBut
  refine⟨pre.length,?_,?_,hlat.trans hlat',ri,li,l,i+1,m,hri,hli,⟨⟨f,hns.sameBut hs (gW hit hns)⟩,?_,hit'⟩,fun s'' hlow'' hmid''=>hkap s'' (i+1) hmid''.2.2 ?_⟩
  ·rw[hpre,List.length_append,List.length_append,List.length_drop];exact ω101 hi
  ·rw[hpre,List.getElem?_append_right (Nat.le_refl _),Nat.sub_self,hd];rfl
  ·refine aj (id hrev) fun o eo r=>?_
   exact⟨o,(hs.2 _ (fW hit hrev)).trans eo,r⟩
  ·exact ih (i+1) s'' s'' (by exact ω73 hi) hlow'' (Later.refl ..) hmid'' ⟨pre++[items[i]],by rw[hpre,hd,List.append_assoc];rfl⟩
theorem vS(Ks:k.Small)(hA:A.handled=none)(hC:env.locals=k.C)(hk:env.scope.kind= .function)(hl:env.kindOf "namespaces"=some .local)(hi:interactive env=false)(hri:k.Off ri)(hg:gd false=false)
 (hK:∀s0 s',Later k s0 s'→Seg (model prog w) A k.R (k.Y all) 0 s0 co (K .next) [] s'):
 ∀(todo:List (Addr×List Value)) (s0 s:Shared),(∃past,k.stack.reverse=past++todo)→k.wL s.heap→Later k s0 s→(∃f,s.heap.Ns k.C f)→s.heap.IsRevIter ri k.ds ((todo.length:Int)-1)→(∃pre,all=pre++todo.flatMap (·.2))→
  Seg (model prog w) A k.R (k.Y all) (todo.flatMap (·.2)).length s0 (.forLoop (.Name "namespaces" p0) (.ref ri) (n8 p1 p2 p3 p4 p5) [] env) ((model prog w).den (.forLoop (.Name "namespaces" p0) (.ref ri) (n8 p1 p2 p3 p4 p5) [] env)) [.ret (xj env K H gd lv) none (gd false) (lv []) co pf []] s:=by
 intro todo
 induction todo with
 |nil=>
  intro s0 s _ hlow hlat ⟨f,hns⟩ hrev _
  refine jD (wpAny_pyNext_rev_end (nu hA) hrev fun h' hs=>?_)
  have hlat':Later k s {s with heap:=h'}:=Later.but hri hs
  refine seg_leaf _ ?_
  exact hK _ _ (hlat.trans hlat')
 |cons p todo ih=>
  intro s0 s hst hlow hlat ⟨f,hns⟩ hrev hall
  obtain⟨past,hpast⟩:=hst
  have hmem:p∈k.stack:=by
   have:p∈k.stack.reverse:=by rw[hpast];simp
   simpa using this
  obtain⟨l,items⟩:=p
  have hstk:k.stack=todo.reverse++(l,items)::past.reverse:=by
   have:=congrArg List.reverse hpast
   rw[List.reverse_reverse] at this
   rw[this];simp
  have hx:(k.stack.map fun p=>Value.ref p.1).toArray[todo.length]?=some (.ref l):=by
   rw[hstk];simp
  have e1:(((l,items)::todo).length :Int)-1=(todo.length:Int):=by simp
  rw[e1] at hrev
  refine jD (wpAny_pyNext_rev_item (i:=todo.length) hrev hlow.1 hx fun h' hrev' hs=>?_)
  have l1:Later k s {s with heap:=h'}:=Later.but hri hs.extBut
  refine bL (id hrev') fun o' eo' hc' hd'=>?_
  refine lE eo' hc' (by decide) ?_
  have hns1:h'.Ns env.locals f:=by rw[hC];exact hns.sameBut hs (i7 hrev hns)
  refine wpAny_assign_Name (wpAny_storeName_local hl hns1 (fun h2 hns2 hs2=>?_) (by rw[hk];rfl))
  have l2:Later k s {s with heap:=h2,toks:=s.toks+1}:=l1.trans (Later.but (x:=env.locals) (by rw[hC];exact⟨Nat.le_refl _,Ks.a⟩) hs2.extBut)
  have hlow2:=hlow.later Ks l2
  have hrev2:h2.IsRevIter ri k.ds ((todo.length:Int)-1):=by
   refine aj (id hrev') fun o eo r=>?_
   exact⟨o,(hs2.2 _ (fun q=>i7 hrev' hns1 q.symm)).trans eo,r⟩
  have hnv:(fun x=>if x=("namespaces":Str) then some (Value.ref l) else f x) "namespaces"=some (.ref l):=if_pos rfl
  refine seg_execs_cons (zO (isTrue_plain (wpAny_Name (wpAny_loadName_local hk hl hns2 hnv ?_) (by kernel_rfl))))
  have hlist2:=hlow2.2.1 _ hmem
  refine wpAny_truthy_list hlist2 (by rw[List.size_toArray];exact Ks.sz _ hmem) ?_
  have l3:Later k s {s with heap:=h2,toks:=s.toks+1+1+1}:=l2.trans (Later.ext (h':=h2) (fun ν ν e=>e) (by show s.toks+1≤_;lia))
  obtain⟨pre,hpre⟩:=hall
  have hIH:∀s0' s',k.wL s'.heap→Later k s0' s'→(∃f,s'.heap.Ns k.C f)→s'.heap.IsRevIter ri k.ds ((todo.length:Int)-1)→_:=fun s0' s' hlow' hlat' hns' hrev'=>
   ih s0' s' ⟨past++[(l,items)],by rw[hpast];simp⟩ hlow' hlat' hns' hrev' ⟨pre++items,by rw[hpre];simp⟩
  have hq:(Code.forLoop (.Name "namespaces" p0) (.ref ri) (n8 p1 p2 p3 p4 p5) [] env).quiet =true:=rfl
  cases items with
  |nil=>
   rw[if_neg (by simp)]
   refine seg_execs_nil ?_
   exact seg_again hq (hIH _ _ (hlow.later Ks l3) (hlat.trans l3) ⟨_,hC▸hns2⟩ hrev2)
  |cons x items=>
   rw[if_pos (by simp)]
   refine seg_execs_cons (lO (wpAny_Name (wpAny_loadName_local hk hl hns2 hnv ?_) (by kernel_rfl)) hi)
   refine⟨"list",(hlow.later Ks l3).2.1 _ hmem |>.typeIs,by decide,wpAny_pyIter_list ((hlow.later Ks l3).2.1 _ hmem) fun p=>?_⟩
   have l4:Later k s {s with heap:=h2.push {cls:=.type "list_iterator",data:=.fields #[.ref l,.int 0 0]},toks:=s.toks+1+1+1}:=l3.trans (Later.ext (fun ν ν e=>Heap.get?_push_of_some _ e))
   have e2:(((l,x::items)::todo).flatMap (·.2)).length =(x::items).length +(todo.flatMap (·.2)).length:=by simp;lia
   rw[e2]
   have hfresh:k.Off h2.objs.size:=by
    refine⟨by rw[←hC];exact Nat.le_of_lt hns2.lt,fun q=>?_⟩
    obtain⟨og,eog⟩:=hlow2.2.2
    exact absurd (Heap.lt_size eog) (by show¬k.a<h2.objs.size;rw[←q];exact Nat.lt_irrefl _)
   refine sF (all:=all) (e:=.Name "namespaces" p2) Ks hA (rest:=todo.flatMap (·.2)) (m:=todo.length) (items:=x::items) hmem hri hfresh hg ?_ (fun s0' s' a b c d=>?_) (x::items).length 0 _ _ (by simp) (hlow.later Ks l4) (hlat.trans l4) ⟨⟨_,(hC▸hns2:h2.Ns k.C _).push _⟩,?_,⟨_,Heap.get?_push_size _ rfl,rfl,rfl⟩⟩ ⟨pre,by rw[hpre];simp⟩
   ·rfl
   ·exact seg_again hq (hIH _ _ a b c d)
   ·refine aj (id hrev2) fun o eo r=>?_
    exact⟨o,Heap.get?_push_of_some _ eo,r⟩
end
end Mine
namespace Mine
noncomputable def Pure(w:Ow):Prop:=∀B B' o,w.p B o→w.p B' o
structure sX(c:Cx)(A:Around)(k:dg)(all:List Value)(n:Nat)(things:List Ow)(gs:GenState):Prop where
 bare:gs.bare=true
 off:∀w∈things,Pure w∧k.Off w.a
 go:∀s'',k.wL s''.heap→(∀w∈things,∃o B,s''.heap.get? w.a=some o∧w.p B o)→gs.Goes (model c.prog c.w) A.in1 k.R (k.Y all) n (.send .none) s''
structure BH(c:Cx)(A:Around)(k:dg)(L:Addr):Prop where
 small:k.Small
 under:∀b o,c.hG.get? b=some o→b<k.C
 L:L<k.C
 hh:A.handled=none
 room:A.depth<recursionLimit
 gs:c.gs=[]
 low:c.hG.IsList k.ds (k.stack.map fun p=>Value.ref p.1).toArray∧∀p∈k.stack,c.hG.IsList p.1 p.2.toArray
noncomputable abbrev Cx.g(c:Cx)(gn:Nat)(gs:GenState):Cx:={c with gs:=[(gn,gs)]}
section
variable{c:Cx}{A:Around}{L:Addr}{V:ay}{O:List Ow}{s:Shared}{env:Env}{k:dg}{gn:Nat}{all:List Value}{n:Nat}{things:List Ow}{gs:GenState}
theorem dQ{gs:Array GenState}{g:Nat}{x:GenState}{s:Shared}(h:AllBare s.gens)(hx:x.bare=true):AllBare (s.setGen g x).gens:=by
 intro y hy
 show y.bare=true
 have:(s.setGen g x).gens =s.gens.setIfInBounds g x:=rfl
 rw[this] at hy
 rcases Array.mem_or_eq_of_mem_setIfInBounds hy with h'|h'
 ·exact h y h'
 ·exact h'▸hx
theorem aH{O:List Ow}:ows (O.map .ow)=O∧lM (O.map .ow)=[]:=by
 induction O with
 |nil=>exact⟨rfl,rfl⟩
 |cons w r ih=>simp only[List.map_cons,ows,lM,ih,and_self]
theorem um(g:cg c)(K:BH c A k L)(inv:sX c A k all n things gs)(hO:∀w∈O,Pure w∧w.a<k.C)
 (S:aa (c.g gn gs) L V (.ow (own k.a (fN gn) ())::(things.map .ow ++O.map .ow)) s) {Q:Option Value→Shared→Prop}
 (hitem:∀m v things' gs' s',n=m+1→all[all.length-n]?=some v→sX c A k all m things' gs'→aa (c.g gn gs') L V (.ow (own k.a (fN gn) ())::(things'.map .ow ++O.map .ow)) s'→Q (some v) s')
 (hdone:∀s',n=0→aa c L V (O.map .ow) s'→Q none s'):Wp c A (pyNext (.ref k.a)) Q s:=by
 have hsys:=S.above
 have hgr:∀b o,c.hG.get? b=some o→s.heap.get? b=some o:=fun b o e=>S.ground e
 obtain⟨B,S⟩:=S
 have hgs:s.gens[gn]?=some gs:=S.gens (gn,gs) (.head _)
 refine gb (S.own _ (show own k.a (fN gn) ()∈_ from .head _)) fun oa ea eBa eLa ν4 π65=>?_;obtain⟨⟨hca,nm,qn,hda⟩,hsl⟩:=π65
 have hgB:∀{b},B b=none→c.hG.get? b=none:=fun{b} e=>by
  cases h:c.hG.get? b with
  |none=>rfl
  |some o=>rw[S.base b o h] at e;cases e
 have hthings:∀w∈things,∃o,s.heap.get? w.a=some o∧B w.a=none∧w.a≠L∧w.a≠sysModules∧w.p B o:=fun w hw=>S.own w (.tail _ (by rw[aY,aH.1,aH.1];exact List.mem_append_left _ hw))
 have hOs:∀w∈O,∃o,s.heap.get? w.a=some o∧B w.a=none∧w.a≠L∧w.a≠sysModules∧w.p B o:=fun w hw=>S.own w (.tail _ (by rw[aY,aH.1,aH.1];exact List.mem_append_right _ hw))
 have hnd:(O.map (·.a)).Nodup:=by
  have:=S.nodup
  rw[show ows (.ow (own k.a (fN gn) ())::(things.map .ow ++O.map .ow))=own k.a (fN gn) ()::(things++O) from by show _::ows _=_;rw[aY,aH.1,aH.1]] at this
  rw[List.map_cons,List.map_append] at this
  exact(List.nodup_append.mp (List.nodup_cons.mp this).2).2.1
 have hlow:k.wL s.heap:=⟨let⟨o,e,r⟩:=K.low.1;⟨o,hgr _ _ e,r⟩,fun p hp=>let⟨o,e,r⟩:=K.low.2 p hp;⟨o,hgr _ _ e,r⟩,_,ea⟩
 have haO:∀w∈O,w.a≠k.a:=by
  intro w hw q
  have:=S.nodup
  rw[show ows (.ow (own k.a (fN gn) ())::(things.map .ow ++O.map .ow))=own k.a (fN gn) ()::(things++O) from by show _::ows _=_;rw[aY,aH.1,aH.1]] at this
  exact(List.nodup_cons.mp this).1 (List.mem_map.mpr ⟨w,List.mem_append_right _ hw,q⟩)
 have later:∀{s₁:Shared},Later k (s.setGen gn .running) s₁→∀b o,b<k.C∨b=k.a→s.heap.get? b=some o→s₁.heap.get? b=some o:=fun hl b o hb e=>hl.keep b o hb e
 have rebuild:∀(s₁ s':Shared) (c':Cx) (X:List Ow),Later k (s.setGen gn .running) s₁→(∀b o,s₁.heap.get? b=some o→s'.heap.get? b=some o)→s'.os=s₁.os→s₁.toks≤s'.toks→c'.hG=c.hG→c'.os=c.os→c'.tk=c.tk→
  (∀g∈c'.gs,s'.gens[g.1]?=some g.2)→AllBare s'.gens→(∀w∈X,∃o B',s'.heap.get? w.a=some o∧Pure w∧(k.Off w.a∨w.a=k.a)∧w.p B' o)→(X.map (·.a)).Nodup→aa c' L V (X.map .ow ++O.map .ow) s':=by
  intro s₁ s' c' X hl hkeep hos htk e1 e2 e3 hgens hbare hX hndX
  have hk':∀b o,b<k.C∨b=k.a→s.heap.get? b=some o→s'.heap.get? b=some o:=fun b o hb e=>hkeep b o (later hl b o hb e)
  have hX2:∀w∈X,c.hG.get? w.a=none∧w.a≠L∧w.a≠sysModules∧(k.C≤w.a∨w.a=k.a):=by
   intro w hw
   refine fO (hX w hw) fun o B' ν2 ν3 hoff ν5=>?_
   rcases hoff with hoff|hoff
   ·refine⟨?_,?_,?_,.inl hoff.1⟩
    ·cases h:c.hG.get? w.a with
     |none=>rfl
     |some o=>exact absurd (K.under _ _ h) (Nat.not_lt.mpr hoff.1)
    ·exact Nat.ne_of_gt (Nat.lt_of_lt_of_le K.L hoff.1)
    ·exact Nat.ne_of_gt (Nat.lt_of_lt_of_le (Nat.lt_trans hsys K.L) hoff.1)
   ·rw[hoff]
    exact⟨hgB eBa,eLa,by refine gb (S.own _ (show own k.a (fN gn) ()∈_ from .head _)) fun ν0 ν1 ν2 ν3 h ν5=>?_;exact h,.inr rfl⟩
  refine⟨c'.hG.get?,{base:=fun ν ν e=>e,above:=hsys,keep:=fun b o e=>?_,loc:=?_,locB:=?_,know:=?_,own:=?_,nodup:=?_,gens:=hgens,bare:=hbare,os:=?_,tk:=?_}⟩
  ·rw[e1] at e
   exact hk' b o (.inl (K.under b o e)) (hgr b o e)
  ·obtain⟨m,⟨o,es,ep,eo,r⟩,hf⟩:=S.loc
   exact⟨m,⟨o,es,ep,hk' _ _ (.inl K.L) eo,r⟩,hf⟩
  ·rw[e1];exact hgB S.locB
  ·rw[fq,aH.2,aH.2];intro k hk;cases hk
  ·rw[aY,aH.1,aH.1]
   intro w hw
   rcases List.mem_append.mp hw with hw|hw
   ·refine fO (hX w hw) fun o B' eo hp ν4 hr=>?_
    refine j9 (hX2 w hw) fun h1 h2 h3 ν3=>?_
    exact⟨o,eo,by rw[e1];exact h1,h2,h3,hp _ _ _ hr⟩
   ·refine gb (hOs w hw) fun o eo h1 h2 h3 hr=>?_
    exact⟨o,hk' _ _ (.inl (hO w hw).2) eo,by rw[e1];exact hgB h1,h2,h3,(hO w hw).1 _ _ _ hr⟩
  ·rw[aY,aH.1,aH.1,List.map_append]
   refine List.nodup_append.mpr ⟨hndX,hnd,fun x hx y hy e=>?_⟩
   refine aj (List.mem_map.mp hx) fun w hw π32=>?_;rcases π32 with rfl
   refine aj (List.mem_map.mp hy) fun w' hw' π32=>?_;rcases π32 with rfl
   rcases(hX2 w hw).2.2.2 with h|h
   ·exact absurd (hO w' hw').2 (Nat.not_lt.mpr (e▸h))
   ·exact haO w' hw' (e▸h)
  ·rw[e2,hos,hl.os];exact S.os
  ·rw[e3];exact Nat.le_trans S.tk (Nat.le_trans hl.toks htk)
 refine tP (P:=fun n s0 s1=>n=0∧Later k s0 s1) (Y:=k.Y all) (n:=n) K.hh (g.nolimit.keeps hgr) K.room ⟨oa,nm,qn,ea,hca,hda,hsl⟩ hgs (inv.go _ hlow fun w hw=>let⟨o,e,_,_,_,r⟩:=hthings w hw;⟨o,B,e,r⟩) (fun v s₁ gs' hb hy=>?_) (fun s₁ hp h' hk=>?_)
 ·obtain⟨i,hi,hv,hl,ri,li,l,j,m,hri,hli,hmid,hkap⟩:=hy
  cases n with
  |zero=>exact(hkap s₁ ⟨let⟨o,e,r⟩:=hlow.1;⟨o,hl.keep _ _ (.inl K.small.ds) e,r⟩,fun p hp=>let⟨o,e,r⟩:=hlow.2.1 p hp;⟨o,hl.keep _ _ (.inl (K.small.st p hp)) e,r⟩,_,hl.keep _ _ (.inr rfl) ea⟩ hmid).elim
  |succ n=>
   have hgs1:s₁.gens[gn]?=some .running:=by rw[hl.gens];exact setGen_self hgs
   have hnd3:([own k.C bC [],own ri (bE "list_reverseiterator" #[.ref k.ds,rawInt ((m:Int)-1)]) (),own li (bE "list_iterator" #[.ref l,.int j 0]) ()].map (·.a)).Nodup:=by
    refine ny (id hmid) fun π30 hrev hit=>?_;obtain⟨f,hns⟩:=π30
    have n1:=i7 hrev hns
    have n2:=gW hit hns
    have n3:=fW hit hrev
    simp[n1,n2,n3]
   refine hitem n v [own k.C bC [],own ri (bE "list_reverseiterator" #[.ref k.ds,rawInt ((m:Int)-1)]) (),own li (bE "list_iterator" #[.ref l,.int j 0]) ()] gs' _ rfl ?_ ⟨hb,?_,?_⟩ ?_
   ·have:all.length-(n+1)=i:=by exact ω50 hi
    rw[this];exact hv
   ·intro w hw
    simp only[List.mem_cons,List.not_mem_nil,or_false] at hw
    rcases hw with rfl|rfl|rfl
    ·exact⟨fun ν ν ν r=>r,Nat.le_refl _,K.small.a⟩
    ·exact⟨fun ν ν ν r=>r,hri⟩
    ·exact⟨fun ν ν ν r=>r,hli⟩
   ·intro s'' hlow'' hth
    obtain⟨o1,_,e1,f,n1,_⟩:=hth _ (.head _)
    refine av (hth _ (.tail _ (.head _))) fun o2 ν1 e2 hc2 hd2=>?_
    refine av (hth _ (.tail _ (.tail _ (.head _)))) fun o3 ν1 e3 hc3 hd3=>?_
    exact hkap s'' hlow'' ⟨⟨f,n1.ns e1⟩,⟨o2,e2,hc2,hd2⟩,⟨o3,e3,hc3,hd3⟩⟩
   ·refine rebuild s₁ (s₁.setGen gn gs') (c.g gn gs') (own k.a (fN gn) ()::_) hl (fun ν ν e=>e) rfl (Nat.le_refl _) rfl rfl rfl ?_ (dQ (gs:=#[]) (by rw[hl.gens];exact dQ (gs:=#[]) S.bare rfl) hb) ?_ ?_
    ·intro x hx
     rcases List.mem_cons.mp hx with rfl|hx
     ·exact setGen_self hgs1
     ·cases hx
    ·intro w hw
     obtain⟨⟨f,hns⟩,⟨o2,e2,hc2,hd2⟩,⟨o3,e3,hc3,hd3⟩⟩:=hmid
     simp only[List.mem_cons,List.not_mem_nil,or_false] at hw
     rcases hw with rfl|rfl|rfl|rfl
     ·exact⟨oa,B,hl.keep _ _ (.inr rfl) ea,fun ν ν ν r=>r,.inr rfl,⟨hca,nm,qn,hda⟩,hsl⟩
     ·refine aj (vf.of hns) fun o eo n1=>?_
      exact⟨o,B,eo,fun ν ν ν r=>r,.inl ⟨Nat.le_refl _,K.small.a⟩,f,n1,by simp[Fits]⟩
     ·exact⟨o2,B,e2,fun ν ν ν r=>r,.inl hri,hc2,hd2⟩
     ·exact⟨o3,B,e3,fun ν ν ν r=>r,.inl hli,hc3,hd3⟩
    ·refine List.nodup_cons.mpr ⟨?_,hnd3⟩
     simp only[List.map_cons,List.map_nil,kc,List.mem_cons,List.not_mem_nil,or_false,not_or]
     exact⟨fun q=>K.small.a q.symm,fun q=>hri.2 q.symm,fun q=>hli.2 q.symm⟩
 ·obtain⟨hn,hl⟩:=hp
  refine hdone _ hn ?_
  exact rebuild s₁ {s₁.setGen gn .finished with heap:=h'} c [] hl hk rfl (Nat.le_refl _) rfl rfl rfl (by rw[K.gs];intro x hx;cases hx) (dQ (s:=s₁) (gs:=#[]) (by rw[hl.gens];exact dQ (gs:=#[]) S.bare rfl) rfl) (by intro w hw;cases hw) .nil
end
end Mine
namespace Mine
section
variable{c:Cx}{A:Around}{L:Addr}{V:ay}{O:List Ow}{s:Shared}{env:Env}{k:dg}{gn:Nat}{all:List Value}{n:Nat}{things:List Ow}{gs:GenState}
noncomputable abbrev xe(p0 p1 p2 p3 p4 p5 q1 q2 q3 p9:Pos):List Stmt:=[.For (.Name "namespaces" p0) (.Call (.Name "_reversed" q1) [.Name "ns_stack" q2] [] q3) (n8 p1 p2 p3 p4 p5) [] p9]
theorem tE{p0 p1 p2 p3 p4 p5 q1 q2 q3 p9:Pos}{V7:ay}(Ks:k.Small)(hA:A.handled=none)(hC:env.locals=k.C)(hk:env.scope.kind= .function)(hl:env.kindOf "namespaces"=some .local)(hl2:env.kindOf "_reversed"=some .local)(hl3:env.kindOf "ns_stack"=some .local)(hi:interactive env=false)
 (hr:(("_reversed":Str),some (Value.type "reversed"))∈V7) (hs:(("ns_stack":Str),some (Value.ref k.ds))∈V7):
 sX c A k (k.stack.reverse.flatMap (·.2)) (k.stack.reverse.flatMap (·.2)).length [own k.C bC V7] (.fresh (.func (xe p0 p1 p2 p3 p4 p5 q1 q2 q3 p9) env)) where
 bare:=rfl
 off:=by
  intro w hw
  simp only[List.mem_cons,List.not_mem_nil,or_false] at hw
  subst hw
  exact⟨fun ν ν ν r=>r,Nat.le_refl _,Ks.a⟩
 go:=by
  intro s hlow hth
  obtain⟨o,_,e,f,hns,hfit⟩:=hth _ (.head _)
  have hns:s.heap.Ns env.locals f:=hC▸hns.ns e
  have hfresh:k.Off s.heap.objs.size:=by
   refine⟨by rw[←hC];exact Nat.le_of_lt hns.lt,fun q=>?_⟩
   obtain⟨og,eog⟩:=hlow.2.2
   exact absurd (Heap.lt_size eog) (by show¬k.a<s.heap.objs.size;rw[←q];exact Nat.lt_irrefl _)
  refine⟨rfl,seg_func (seg_execs_cons (wV ?_ fun ν=>rfl))⟩
  refine gf (c:=c) (wpAny_Name (wpAny_loadName_local hk hl2 hns (hfit.2 _ _ hr) ⟨rfl,?_⟩) (by kernel_rfl))
  refine spliced_more (wpAny_Name (wpAny_loadName_local hk hl3 hns (hfit.2 _ _ hs) (spliced_none ?_)) (by kernel_rfl))
  refine call_reversed_list hlow.1 ?_
  refine wpAny_pyIter_revIter (l:=k.ds) (i:=((k.stack.reverse.length:Nat):Int)-1) ⟨_,Heap.get?_push_size _ rfl,rfl,by simp[revObj]⟩ fun p=>?_
  have l1:Later k s {s with heap:=s.heap.push (revObj k.ds (((k.stack.map fun p=>Value.ref p.1).toArray.size :Int)-1))}:=Later.ext fun ν ν e=>Heap.get?_push_of_some _ e
  refine vS (A:=A.in1) (all:=k.stack.reverse.flatMap (·.2)) (gd:=id) (lv:=id) Ks hA hC hk hl hi hfresh ?_ (fun s0 s' hlat=>?_) k.stack.reverse s _ ⟨[],rfl⟩ (hlow.later Ks l1) l1 ⟨f,hC▸hns.push _⟩ ⟨_,Heap.get?_push_size _ rfl,rfl,by simp[revObj]⟩ ⟨[],rfl⟩
  ·rfl
  show Seg _ _ _ _ 0 s0 _ (leafOf (.ok (.ret .none))) [] s'
  exact seg_end _ ⟨rfl,rfl,hlat⟩
theorem x7{α:Type}{T:Ty α}{xs:List α}{target:Expr}{body:List Stmt}{R:Result→Shared→Prop}(g:cg c)(K:BH c A k L)(hall:az (T.rel c.hG.get?) all xs)(I:List α→ay→List Ow→Prop)
 (hI:∀done V O,I done V O→∀w∈O,Pure w∧w.a<k.C) (inv:sX c A k all all.length things gs)
 (S:aa (c.g gn gs) L V (.ow (own k.a (fN gn) ())::(things.map .ow ++O.map .ow)) s) (h0:I [] V O)
 (step:∀done x rest V O X v s gs',xs=done++x::rest→I done V O→aa (c.g gn gs') L V (.kn (is T v x)::(O.map .ow ++X)) s→
   Wp (c.g gn gs') A (assign target env v) (fun ν s₂=>Wp (c.g gn gs') A (execs body env) (fun f s₃=>match f with
    | .next | .cont=>∃V' O',I (done++[x]) V' O'∧aa (c.g gn gs') L V' (O'.map .ow ++X) s₃
    | .brk=>R (.ok .next) s₃
    | .ret v=>R (.ok (.ret v)) s₃) s₂) s)
 (hend:∀V O s',I xs V O→aa c L V (O.map .ow) s'→R (.ok .next) s'):
 codeAny (model c.prog c.w) A (.forLoop target (.ref k.a) body [] env) R s:=by
 refine codeAny_loop' rfl (fun n s'=>∃done rest V O things gs,xs=done++rest∧n=rest.length+1∧I done V O∧sX c A k all rest.length things gs∧aa (c.g gn gs) L V (.ow (own k.a (fN gn) ())::(things.map .ow ++O.map .ow)) s') (fun n s' hI'=>?_) (xs.length+1) ⟨[],xs,V,O,things,gs,rfl,rfl,h0,hall.length▸inv,S⟩
 obtain⟨done,rest,V,O,things,gs,e,rfl,hI1,inv,S⟩:=hI'
 show wpAny _ A ((forTurn target (.ref k.a) body [] env).onRaise (fun x=>do noteFrame x env;theTreesLotGoes x)) _ _ s'
 refine wpAny_noted ?_
 rw[forTurn]
 refine wpAny_bind (wpAny_standAt (wpAny_bind (wpAny_onRaise (jq ?_))))
 have hlen:all.length=done.length+rest.length:=by rw[hall.length,e,List.length_append]
 refine um g K inv (hI _ _ _ hI1) S (fun m v things' gs' s₁ hn hv inv' S₁=>?_) fun s₁ hn S₁=>?_
 ·cases rest with
  |nil=>cases hn
  |cons x rest=>
   have hm:m=rest.length:=by simpa using hn.symm
   subst hm
   have hx:xs[done.length]?=some x:=by rw[e];simp
   have hv':all[done.length]?=some v:=by
    rw[show all.length-(x::rest).length =done.length by exact ω55 hlen] at hv;exact hv
   refine aj (hall.at hx) fun v2 h1 h2=>?_
   rw[hv'] at h1;cases h1
   refine av (S₁.get (.head _)) fun ν0 oa ea π53 ν4=>?_;obtain⟨⟨hca,_⟩,_⟩:=π53
   refine wpAny_bind (jq (lE ea hca (by decide) ?_))
   have S2:aa (c.g gn gs') L V (.kn (is T v x)::(O.map .ow ++(.ow (own k.a (fN gn) ())::things'.map .ow))) s₁:=by
    have S3:aa (c.g gn gs') L V (O.map .ow ++(.ow (own k.a (fN gn) ())::things'.map .ow)) s₁:=S₁.perm (List.perm_append_comm (l₁:=Fa.ow (own k.a (fN gn) ())::things'.map Fa.ow))
    obtain⟨B,S3⟩:=S3
    refine⟨B,{S3 with know:=fun q hq=>?_}⟩
    rcases List.mem_cons.mp hq with rfl|hq
    ·exact T.up (fun b o e=>S3.base b o e) h2
    ·exact S3.know q hq
   refine wpAny_bind (jq (wpAny_mono (step done x rest V O _ v s₁ gs' e hI1 S2) (fun ν s₄ h₄=>?_) fun ν ν x=>x.elim))
   refine wpAny_bind (jq (wpAny_mono h₄ (fun f s₅ h₅=>?_) fun ν ν x=>x.elim))
   have again:(∃V' O',I (done++[x]) V' O'∧aa (c.g gn gs') L V' (O'.map .ow ++(.ow (own k.a (fN gn) ())::things'.map .ow)) s₅)→∃m,m<(x::rest).length +1∧∃done rest V O things gs,xs=done++rest∧m=rest.length+1∧I done V O∧sX c A k all rest.length things gs∧aa (c.g gn gs) L V (.ow (own k.a (fN gn) ())::(things.map .ow ++O.map .ow)) s₅:=by
    intro υ0;obtain⟨V',O',hI',S'⟩:=υ0
    exact⟨rest.length+1,by simp,done++[x],rest,V',O',things',gs',by rw[e];simp,rfl,hI',inv',S'.perm List.perm_append_comm⟩
   cases f with
   |next=>exact wpAny_pure (.inl ⟨rfl,again h₅⟩)
   |cont=>exact wpAny_pure (.inl ⟨rfl,again h₅⟩)
   |brk=>exact wpAny_pure h₅
   |ret v=>exact wpAny_pure h₅
 ·have hr:rest=[]:=List.length_eq_zero_iff.mp hn
  subst hr
  have e':xs=done:=by simpa using e
  exact wpAny_pure (.inr ⟨rfl,codeAny_block (wpAny_execs_nil (hend V O s₁ (e'▸hI1) S₁))⟩)
noncomputable abbrev cY(c:Cx)(L:Addr)(O:List Ow)(s:Shared):Cx:={c with hG:=hole s.heap (L::O.map (·.a))}
theorem aa.snap{H:List Fa}(S:aa c L V (O.map .ow ++H) s)(hpure:∀w∈O,Pure w):
 ∃B,Kh H B∧(∀b o,B b=some o→(cY c L O s).hG.get? b=some o)∧(∀w∈ows H,∃o,(cY c L O s).hG.get? w.a=some o∧w.p B o)∧(∀b o,c.hG.get? b=some o→(cY c L O s).hG.get? b=some o)∧
  aa (cY c L O s) L V (O.map .ow) s∧(∀{V':ay} {O':List Ow} {s':Shared},(∀w∈O',Pure w∧w.a∈O.map (·.a))→aa (cY c L O s) L V' (O'.map .ow) s'→aa c L V' (O'.map .ow ++H) s'):=by
 obtain⟨P,hP⟩:∃P,P=ows H:=⟨_,rfl⟩
 obtain⟨B,S⟩:=S
 have eo:ows (O.map .ow ++H)=O++P:=by rw[aY,aH.1,hP]
 have ek:lM (O.map .ow ++H)=lM H:=by rw[fq,aH.2];rfl
 rw[←hP]
 have hnd:=S.nodup
 rw[eo,List.map_append] at hnd
 have hnd:=List.nodup_append.mp hnd
 have hOw:∀w∈O,∃o,s.heap.get? w.a=some o∧B w.a=none∧w.a≠L∧w.a≠sysModules∧w.p B o:=fun w hw=>S.own w (by rw[eo];exact List.mem_append_left _ hw)
 have hPw:∀w∈P,∃o,s.heap.get? w.a=some o∧B w.a=none∧w.a≠L∧w.a≠sysModules∧w.p B o:=fun w hw=>S.own w (by rw[eo];exact List.mem_append_right _ hw)
 have hB:∀b o,B b=some o→(hole s.heap (L::O.map (·.a))).get? b=some o:=by
  intro b o e
  refine gq.mpr ⟨fun hm=>?_,S.keep b o e⟩
  rcases List.mem_cons.mp hm with rfl|hm
  ·rw[S.locB] at e;cases e
  ·refine aj (List.mem_map.mp hm) fun w hw π32=>?_;rcases π32 with rfl
   refine bL (hOw w hw) fun ν0 ν1 h ν3=>?_
   rw[h] at e;cases e
 have hPg:∀w∈P,∃o,(hole s.heap (L::O.map (·.a))).get? w.a=some o∧s.heap.get? w.a=some o∧w.p B o:=by
  intro w hw
  refine gb (hPw w hw) fun o e h1 h2 h3 hp=>?_
  refine⟨o,gq.mpr ⟨fun hm=>?_,e⟩,e,hp⟩
  rcases List.mem_cons.mp hm with hm|hm
  ·exact h2 hm
  ·exact hnd.2.2 _ hm _ (List.mem_map.mpr ⟨w,hw,rfl⟩) rfl
 refine⟨B,fun k hk=>S.know k (by rw[ek];exact hk),hB,fun w hw=>let⟨o,e,_,r⟩:=hPg w hw;⟨o,e,r⟩,fun b o e=>hB b o (S.base b o e),?_,?_⟩
 ·refine⟨(cY c L O s).hG.get?,{base:=fun ν ν e=>e,above:=S.above,keep:=fun b o e=>(gq.mp e).2,loc:=S.loc,locB:=?_,know:=?_,own:=?_,nodup:=?_,gens:=S.gens,bare:=S.bare,os:=S.os,tk:=S.tk}⟩
  ·cases h:(hole s.heap (L::O.map (·.a))).get? L with
   |none=>rfl
   |some o=>exact absurd (.head _) (gq.mp h).1
  ·rw[aH.2];intro k hk;cases hk
  ·rw[aH.1]
   intro w hw
   refine gb (hOw w hw) fun o e h1 h2 h3 hp=>?_
   refine⟨o,e,?_,h2,h3,hpure w hw _ _ _ hp⟩
   cases h:(hole s.heap (L::O.map (·.a))).get? w.a with
   |none=>rfl
   |some o=>exact absurd (.tail _ (List.mem_map.mpr ⟨w,hw,rfl⟩)) (gq.mp h).1
  ·rw[aH.1];exact hnd.1
 ·intro V' O' s' hO' S'
  obtain⟨B',S'⟩:=S'
  have hk':∀b o,(hole s.heap (L::O.map (·.a))).get? b=some o→s'.heap.get? b=some o:=fun b o e=>S'.keep b o (S'.base b o e)
  refine⟨B,{base:=S.base,above:=S.above,keep:=fun b o e=>hk' b o (hB b o e),loc:=S'.loc,locB:=S.locB,know:=fun q hq=>S.know q (by rw[ek];rw[fq,aH.2] at hq;exact hq),own:=?_,nodup:=?_,gens:=S'.gens,bare:=S'.bare,os:=S'.os,tk:=S'.tk}⟩
  ·rw[aY,aH.1,←hP]
   intro w hw
   rcases List.mem_append.mp hw with hw|hw
   ·refine gb (S'.own w (by rw[aH.1];exact hw)) fun o e ν2 h2 h3 hp=>?_
    obtain⟨hpu,hmem⟩:=hO' w hw
    refine aj (List.mem_map.mp hmem) fun w0 hw0 e0=>?_
    refine bL (hOw w0 hw0) fun ν0 ν1 h1 ν3=>?_
    exact⟨o,e,e0▸h1,h2,h3,hpu _ _ _ hp⟩
   ·refine bL (hPg w hw) fun o e e1 hp=>?_
    refine gb (hPw w hw) fun ν0 ν1 h1 h2 h3 ν5=>?_
    exact⟨o,hk' _ _ e,h1,h2,h3,hp⟩
  ·rw[aY,aH.1,←hP,List.map_append]
   have h1:=S'.nodup
   rw[aH.1] at h1
   refine List.nodup_append.mpr ⟨h1,hnd.2.1,fun x hx y hy e=>?_⟩
   refine aj (List.mem_map.mp hx) fun w hw π32=>?_;rcases π32 with rfl
   exact hnd.2.2 _ (hO' w hw).2 _ hy e
end
end Mine
namespace Mine
theorem ug{c:Cx}{o:Obj}{S:Str→Bool}{n:Nat}(h:o.SetObjOf (strKind c.prog c.w) S n):o.isFreed=false:=by
 obtain⟨_,es,ep,t,hd,_⟩:=h;obtain⟨c,d,dt,sl⟩:=o;subst hd;rfl
noncomputable def aZ(c:Cx):Tb (List Tx):=⟨fun ν o xs=>∃n,o.SetObjOf (strKind c.prog c.w) (fun k=>xs.any fun x=>decide (tx x=k)) n∧n≤xs.length,fun ν r=>r,fun⟨_,r,_⟩=>ug r⟩
theorem cg.snap{c c':Cx}(g:cg c)(e1:c'.w=c.w)(e2:c'.mg=c.mg)(e3:c'.mb=c.mb)(e4:c'.tk=c.tk)(h:∀b o,c.hG.get? b=some o→c'.hG.get? b=some o):cg c':=
 {X:=by show(hd.heap_1 c'.w.params).In c'.hG;rw[e1];exact g.X.keeps h
  g:=by rw[e2];exact g.g.keeps h
  b:=by rw[e3];exact g.b.keeps h
  nolimit:=g.nolimit.keeps h
  nodigits:=let⟨mc,n,e⟩:=g.nodigits;⟨mc,n.keeps h,e⟩
  tk:=by rw[e4];exact g.tk
  builtins:=fun x hx=>by rw[e3];exact g.builtins x hx}
section
variable{c:Cx}{A:Around}{L:Addr}{V V':ay}{G R:List Fa}{s:Shared}{env:Env}{t u:Tok}
theorem aa.forget{gn:Nat}{gs:GenState}(S:aa (c.g gn gs) L V G s)(h:c.gs=[]):aa c L V G s:=by
 obtain⟨B,S⟩:=S
 exact⟨B,{base:=S.base,above:=S.above,keep:=S.keep,loc:=S.loc,locB:=S.locB,know:=S.know,own:=S.own,nodup:=S.nodup,gens:=(by rw[h];intro g hg;cases hg),bare:=S.bare,os:=S.os,tk:=S.tk}⟩
theorem aa.xA{gn:Nat}{gs:GenState}(S:aa c L V G s)(h:s.gens[gn]?=some gs):aa (c.g gn gs) L V G s:=by
 obtain⟨B,S⟩:=S
 exact⟨B,{base:=S.base,above:=S.above,keep:=S.keep,loc:=S.loc,locB:=S.locB,know:=S.know,own:=S.own,nodup:=S.nodup,gens:=fun g hg=>(List.mem_cons.mp hg).elim (fun e=>e▸h) (fun hg=>nomatch hg),bare:=S.bare,os:=S.os,tk:=S.tk}⟩
theorem aa.Ai{Q:Value→Shared→Prop}(S:aa c L V G s)(h:∀a s',aa c L V (.ow (own a (aZ c) [])::G) s'→Q (.ref a) s'):Wp c A (call (.type "set") []) Q s:=
 call_set_0 fun led=>h _ _ (S.push (aZ c) [] fun ν ν=>⟨0,setObjOf_fresh led,Nat.le_refl _⟩)
theorem zM{id:Str}{p pos:Pos}{b:String}{Q:Value→Shared→Prop}(hn:Wp c A (eval (.Name id p) env) (fun v s₁=>v= .type b∧Wp c A (call (.type b) []) Q s₁) s):Wp c A (eval (.Call (.Name id p) [] [] pos) env) Q s:=by
 show Wp c A (eval (.Name id p) env>>=fun f=>callWith pos f [] [] []) Q s
 refine wpAny_bind (wpAny_mono hn (fun v s₁ h₁=>?_) fun ν ν x=>x)
 obtain⟨rfl,h₁⟩:=h₁
 exact PySem.callWith_type (args:=[]) rfl (PyProof.Rows.evalArgs_none h₁)
theorem aa.zq{a:Addr}{xs:List Tx}(S:aa c L V G s)(h: .ow (own a (aZ c) xs)∈G):Of s (.ref a) "set":=by
 obtain⟨B,o,ho,⟨n,hS,_⟩,_⟩:=S.get h
 exact⟨⟨_,ho,hS.1.1⟩,fun b e=>by cases e;exact⟨_,ho,hS.1.2.1⟩⟩
theorem vG{xs:List Tx}{x:Tx}{k:Str}:((xs++[x]).any fun y=>decide (tx y=k))=((xs.any fun y=>decide (tx y=k))||decide (k=tx x)):=by
 rw[List.any_append]
 simp only[List.any_cons,List.any_nil,Bool.or_false]
 congr 1
 exact decide_eq_decide.mpr eq_comm
theorem aa.xJ{a:Addr}{xs:List Tx}{x:Tx}{Q:Value→Shared→Prop}(S:aa c L V G s)(hm:bA G (.ow (own a (aZ c) xs)) R)(hsz:xs.length≤4000)(h:∀s',aa c L V (.ow (own a (aZ c) (xs++[x]))::R) s'→Q .none s'):Wp c A (call (.builtin "set.add") [.ref a,.str (tx x) t]) Q s:=by
 obtain⟨B,o,ho,⟨n,hS,hn⟩,_⟩:=S.get (hm.perm.mem_iff.mpr (.head _))
 have hb:n+1<scanBound:=by show n+1<4096;lia
 refine call_set_add (knd:=strKind c.prog c.w) (k:=tx x) (strKind_is _ _ _ _) rfl (hS.setOf ho (by lia)) hb fun h' hs hS'=>h _ ?_
 refine aj (Heap.SetOf.objOf hS') fun o' ho' hO=>?_
 obtain⟨n',hn',hO⟩:∃n',n'≤xs.length+1∧o'.SetObjOf (strKind c.prog c.w) (fun k'=>(xs.any fun y=>decide (tx y=k'))||decide (k'=tx x)) n':=⟨_,by split <;> lia,hO⟩
 have e:(fun k=>(xs++[x]).any fun y=>decide (tx y=k))=fun k'=>(xs.any fun y=>decide (tx y=k'))||decide (k'=tx x):=by funext k;exact vG
 rw[←e] at hO
 exact S.turn (tk:=s.toks+1) hm (aZ c) (xs++[x]) hs ho' fun ν ν ν ν ν=>⟨n',hO,by rw[List.length_append,List.length_singleton];exact hn'⟩
theorem aa.sI{a:Addr}{xs:List Tx}{x:Tx}{Q:Value→Shared→Prop}(S:aa c L V G s)(hm: .ow (own a (aZ c) xs)∈G)(hsz:xs.length≤4000)(h:∀s',aa c L V G s'→Q (.bool (!decide (x∈xs))) s'):Wp c A (compareOp .NotIn (.str (tx x) t) (.ref a)) Q s:=by
 obtain⟨B,o,ho,⟨n,hS,hn⟩,_⟩:=S.get hm
 refine wpAny_notInSet_of (knd:=strKind c.prog c.w) (k:=tx x) (strKind_is _ _ _ _) rfl (hS.setOf ho (by show n<4096;omega)) ?_
 have e:(xs.any fun y=>decide (tx y=tx x))=decide (x∈xs):=by
  rw[Bool.eq_iff_iff,List.any_eq_true,decide_eq_true_eq]
  constructor
  ·intro υ0;obtain⟨y,hy,e⟩:=υ0
   rw[decide_eq_true_eq] at e
   exact dM e▸hy
  ·intro hx
   exact⟨x,hx,by simp⟩
 rw[e]
 exact h _ S.toks
theorem n5{out:Tx}{x:Sem Value}{rest:List (Sem Value)}{Q:Value→Shared→Prop}
 (h:Wp c A x (fun v s₁=>∃y t,v= .str (tx y) t∧out.length+y.length≤1000000∧Wp c A (joinParts (tx (out++y)) rest) Q s₁) s):Wp c A (joinParts (tx out) (x::rest)) Q s:=by
 refine joinParts_cons (wpAny_mono h (fun v s₁ h₁=>?_) fun ν ν x=>x)
 refine av h₁ fun y t π52 hsz π54=>?_;try clear h₁;rcases π52 with rfl;revert π54;intro h₁
 show(tx out++tx y).length≤sizeLine∧_
 rw[mU]
 exact⟨by rw[aq,List.length_append];unfold sizeLine;lia,h₁⟩
theorem aa.zG{out:Tx}{Q:Value→Shared→Prop}(S:aa c L V G s)(hsz:out.length≤1000000)(h:∀t s',aa c L V G s'→Q (.str (tx out) t) s'):Wp c A (joinParts (tx out) []) Q s:=
 joinParts_nil (h _ _ S.toks) (by rw[aq];unfold sizeLine;lia)
theorem js{v₁ v₂:Expr}{rest:List Expr}{pos:Pos}{Q:Value→Shared→Prop}(h:Wp c A (joinParts (tx []) (eval v₁ env::eval v₂ env::evalEach rest env)) Q s):Wp c A (eval (.JoinedStr (v₁::v₂::rest) pos) env) Q s:=JoinedStr_many h
theorem yR{row:String}{x:Str}{t:Tok}{Q:Value→Shared→Prop}(h:∀t' tk,s.toks≤tk→Q (.str x t') {s with toks:=tk})(hsz:x.length≤sizeLine):Wp c A (habitSame row (.str x t)) Q s:=by
 refine wpAny_bind (wpAny_askSetting ?_)
 cases (model c.prog c.w).w.params.followText row
 ·exact wpAny_pure (h t s.toks (Nat.le_refl _))
 ·exact wpAny_mkStr (h _ _ (Nat.le_succ _)) hsz
theorem aa.Cm{x:Tx}{Q:Value→Shared→Prop}(S:aa c L V G s)(hsz:x.length≤1000000)(h:∀t s',aa c L V G s'→Q (.str (tx x) t) s'):Wp c A (formatField (.str (tx x) t) Str.empty) Q s:=by
 show Wp c A (do rule "fstring.same-str";habitSame "fstring-hands-on-the-str" (.str (tx x) t)) Q s
 exact wpAny_bind (wpAny_rule (yR (fun t' tk ht=>h _ _ (S.toks (ht:=ht))) (by rw[aq];unfold sizeLine;lia)))
theorem tS{i:Int}(hi:i.natAbs<10^10):i.natAbs.log2<1920:=by
 refine Nat.lt_of_le_of_lt (m:=40) ?_ (by decide)
 rcases Nat.eq_zero_or_pos i.natAbs with e|e
 ·rw[e];decide
 ·have:=Nat.log2_lt (n:=i.natAbs) (k:=40) (by lia)
  exact Nat.le_of_lt (this.mpr (by lia))
theorem aa.Cn{i:Int}{Q:Value→Shared→Prop}(S:aa c L V G s)(hi:i.natAbs<10^10)(h:∀t s',aa c L V G s'→Q (.str (tx (bZ i)) t) s'):Wp c A (formatField (.int i t) Str.empty) Q s:=
 formatField_int_small (tS hi) (h _ _ (S.toks (ht:=by lia)))
end
end Mine
set_option tactic.hygienic true
namespace Mine
noncomputable abbrev tR(v:Value)(x:Tx):Prop:=∃t,v= .str (tx x) t
noncomputable def qy(c:Cx)(o:Obj)(xs:List Tx):Prop:=
 o.ExactSet∧∃es ep t,o.data= .set es ep t∧ElemsOf (strKind c.prog c.w) es.toList∧(∃vs,az tR vs xs∧(es.toList.map (·.2)).Perm vs)∧t.fits es.size=true∧(xs≠[]→t.plain=false)
theorem qy.live{c:Cx}{o:Obj}{xs:List Tx}(h:qy c o xs):o.isFreed=false:=by
 obtain⟨_,es,ep,t,hd,_⟩:=h;obtain⟨c,d,dt,sl⟩:=o;subst hd;rfl
noncomputable def bQ(c:Cx):Tb (List Tx):=⟨fun ν o xs=>qy c o xs,fun ν r=>r,fun h=>h.live⟩
theorem qy.size{c:Cx}{o:Obj}{xs:List Tx}(h:qy c o xs):∃es ep t,o.data= .set es ep t∧es.size=xs.length:=by
 obtain⟨_,es,ep,t,hd,_,⟨vs,h1,h2⟩,_⟩:=h
 refine⟨es,ep,t,hd,?_⟩
 have:=h2.length_eq
 rw[List.length_map,Array.length_toList,h1.length] at this
 exact this
theorem nQ(t:SetTable)(es:Array (Int×Value))(h:Int)(x:Value)(ht:t.plain=false):(layNew t es h x).2.1.plain =false:=by
 unfold layNew
 split
 ·rename_i slot wd _
  show(SetTable.orStandIn (t.put slot).1 _).plain =false
  unfold SetTable.orStandIn
  split
  ·exact ht
  ·rfl
 ·rfl
theorem lD(t:SetTable)(es:Array (Int×Value))(n:Nat)(ht:t.plain=false):(relayAll t es n).2.1.plain =false:=by
 unfold relayAll
 split
 ·rename_i t' order hr
  dsimp only
  split
  ·unfold SetTable.relaid SetTable.laid at hr
   refine aj (Option.bind_eq_some_iff.mp hr) fun ow ν1 hr=>?_
   have:=Option.some.inj hr
   rw[Prod.mk.injEq] at this
   rw[←this.1];exact ht
  ·rfl
 ·rfl
section
variable{c:Cx}{A:Around}{L:Addr}{V V':ay}{G R:List Fa}{s:Shared}{env:Env}{t u:Tok}
theorem Ad{x y:Tx}{t:Tok}:(strKind c.prog c.w).is (tx y) (.str (tx x) t)=decide (y=x):=by
 rw[KeyKind.is_eq_decide (strKind_is _ _ (tx x) t)]
 exact decide_eq_decide.mpr ⟨fun e=>dM e,fun e=>by rw[e]⟩
theorem uh{b:Bool}{Q:Unit→Shared→Prop}(h:Q () s):Wp c A (match b with |true=>rule "set.scan.the-table-gave-way"|false=>pure ()) Q s:=by
 cases b
 ·exact wpAny_pure h
 ·exact wpAny_rule h
theorem aa.yC{a:Addr}{xs:List Tx}{x:Tx}{Q:Bool→Shared→Prop}(S:aa c L V G s)(hm:bA G (.ow (own a (bQ c) xs)) R)(hx:x∉xs)(hsz:xs.length≤1000)
 (h:∀s',aa c L V (.ow (own a (bQ c) (xs++[x]))::R) s'→Q true s'):Wp c A (setAddHashed a (.str (tx x) t) ((strKind c.prog c.w).hash (tx x))) Q s:=by
 refine av (S.get (hm.perm.mem_iff.mpr (.head _))) fun ν0 o ho hP ν4=>?_
 refine gJ hP.size fun es0 ep0 t0 hd0 hsize=>?_
 obtain⟨hex,es,ep,tb,hd,hel,⟨vs,hv1,hv2⟩,hf,hpl⟩:=hP
 obtain rfl:es=es0:=by rw[hd] at hd0;cases hd0;rfl
 have hkey:(strKind c.prog c.w).is (tx x) (.str (tx x) t)=true:=strKind_is _ _ _ _
 have hb1:es.size+1<scanBound:=by show es.size+1<4096;exact ω197 hsz hsize rfl
 refine wpAny_holding (wpAny_bind (wpAny_setState_of ho hd hf ?_))
 dsimp only
 rw[byScan_of rfl (by exact ω75 hb1) hel,if_pos rfl]
 refine wpAny_bind ?_
 refine wpAny_bind (wpAny_rule (wpAny_bind (wpAny_setScan_of hkey ho hd hf hel ?_)))
 have hno:es.toList.findIdx? (fun e=>(strKind c.prog c.w).is (tx x) e.2)=none:=by
  refine List.findIdx?_eq_none_iff.mpr fun e he=>?_
  have hmem:e.2∈vs:=hv2.mem_iff.mp (List.mem_map.mpr ⟨e,he,rfl⟩)
  obtain⟨i,hi⟩:=List.getElem?_of_mem hmem
  obtain⟨y,hy,u,e2⟩:=hv1.at' hi
  rw[e2,Ad]
  exact decide_eq_false fun q=>hx (q▸List.mem_of_getElem? hy)
 rw[hno]
 have hperm:=layNew_perm tb es ((strKind c.prog c.w).hash (tx x)) (.str (tx x) t)
 have hfits:=layNew_fits tb es ((strKind c.prog c.w).hash (tx x)) (.str (tx x) t)
 have hplain:=nQ tb es ((strKind c.prog c.w).hash (tx x)) (.str (tx x) t)
 generalize layNew tb es ((strKind c.prog c.w).hash (tx x)) (.str (tx x) t)=Lx at hperm hfits hplain⊢
 obtain⟨es1,t1,wd,gv⟩:=Lx
 rw[Array.toList_push] at hperm
 have hsz1:es1.size=es.size+1:=by rw[←Array.length_toList,hperm.length_eq];simp
 have fin:∀(es2:Array (Int×Value)) (t2:SetTable) (h':Heap) (ep2:Nat),es2.toList.Perm es1.toList→t2.fits es2.size=true→t2.plain=false→Heap.SameBut a s.heap h'→h'.get? a=some {o with data:=.set es2 ep2 t2}→Q true {s with heap:=h'}:=by
  intro es2 t2 h' ep2 hp hf2 hpl2 hs ho'
  refine h _ (S.turn (tk:=s.toks) hm (bQ c) (xs++[x]) hs ho' fun ν ν ν ν ν=>⟨hex,es2,ep2,t2,rfl,(hel.push hkey rfl).perm (hp.trans hperm),⟨vs++[.str (tx x) t],hv1.snoc ⟨t,rfl⟩,?_⟩,hf2,fun ν=>hpl2⟩)
  have:=(hp.trans hperm).map (·.2)
  rw[List.map_append] at this
  exact this.trans (hv2.append_right _)
 refine wpAny_bind (uh ?_)
 have body:∀(t2:SetTable),t2.fits es1.size=true→t2.plain=false→Wp c A (do
  storeSet a es1 t2
  if(!wd&&t2.tooFull)=true then do
     (match (relayAll t2 es1 (SetTable.grown es1.size)).2.2 with |true=>rule "set.scan.the-table-gave-way"|false=>pure ())
     storeSet a (relayAll t2 es1 (SetTable.grown es1.size)).1 (relayAll t2 es1 (SetTable.grown es1.size)).2.1
     pure (some true)
   else pure (some true)) (fun r s'=>r=some true∧Q true s') s:=by
  intro t2 hf2 hpl2
  refine wpAny_bind (wpAny_storeSet_of ho hd ?_ (fits_of_scanBound (by exact ω145 hb1 hsz1 rfl)))
  have ho1:(s.heap.update a (Obj.putSet es1 t2)).get? a=some {o with data:=.set es1 (ep+1) t2}:=by
   have:=Heap.get?_update_self (Obj.putSet es1 t2) ho (by rw[putSet_of es1 t2 hd];rfl)
   rw[putSet_of es1 t2 hd] at this;exact this
  have hs1:=Heap.SameBut.update s.heap a (Obj.putSet es1 t2)
  split
  ·have hp:=relayAll_perm t2 es1 (SetTable.grown es1.size)
   have hfr:=relayAll_fits t2 es1 (SetTable.grown es1.size)
   have hpr:=lD t2 es1 (SetTable.grown es1.size) hpl2
   generalize relayAll t2 es1 (SetTable.grown es1.size)=Rl at hp hfr hpr⊢
   obtain⟨es2,t3,gv2⟩:=Rl
   have hsz2:es2.size=es1.size:=by rw[←Array.length_toList,hp.length_eq,Array.length_toList]
   refine wpAny_bind (uh (wpAny_bind (wpAny_storeSet_of (o:={o with data:=.set es1 (ep+1) t2}) ho1 rfl ?_ (fits_of_scanBound (by exact ω145 hb1 hsz1 hsz2)))))
   refine wpAny_pure ⟨rfl,fin es2 t3 _ (ep+1+1) hp hfr hpr (hs1.trans (Heap.SameBut.update _ a _)) ?_⟩
   have:=Heap.get?_update_self (Obj.putSet es2 t3) ho1 (by rw[putSet_of es2 t3 (o:={o with data:=.set es1 (ep+1) t2}) rfl];rfl)
   rw[putSet_of es2 t3 (o:={o with data:=.set es1 (ep+1) t2}) rfl] at this;exact this
  ·exact wpAny_pure ⟨rfl,fin es1 t2 _ (ep+1) (.refl _) hf2 hpl2 hs1 ho1⟩
 cases hb:t1.plain with
 |true=>
  rw[if_pos rfl]
  refine wpAny_bind ?_
  rw[hashByValue_scannable 8 rfl]
  refine wpAny_pure ?_
  refine wpAny_mono (body {t1 with plain:=false} (SetTable.fits_plain_off hfits) rfl) (fun r s' ⟨e,hq⟩=>?_) fun ν ν x=>x
  subst e
  exact wpAny_pure hq
 |false=>
  rw[if_neg (by decide)]
  refine wpAny_bind (wpAny_pure ?_)
  refine wpAny_mono (body t1 hfits hb) (fun r s' ⟨e,hq⟩=>?_) fun ν ν x=>x
  subst e
  exact wpAny_pure hq
theorem aa.AX{a:Addr}{xs:List Tx}{x:Tx}{Q:Bool→Shared→Prop}(S:aa c L V G s)(hm:bA G (.ow (own a (bQ c) xs)) R)(hx:x∉xs)(hsz:xs.length≤1000)
 (h:∀s',aa c L V (.ow (own a (bQ c) (xs++[x]))::R) s'→Q true s'):Wp c A (setAdd a (.str (tx x) t)) Q s:=by
 exact wpAny_holding (wpAny_bind ((strKind c.prog c.w).pyHash (strKind_is _ _ (tx x) t) (aa.yC S.toks hm hx hsz h)))
end
end Mine
namespace Mine
theorem wg{β:Type}(g:Nat→β)(j:Nat):∀(n:Nat),j<n→(List.range n).filterMap (fun i=>if i=j then some (g i) else none)=[g j]
 |0,h=>absurd h (Nat.not_lt_zero _)
 |n+1,h=>by
  rw[List.range_succ,List.filterMap_append]
  rcases Nat.lt_or_ge j n with h'|h'
  ·rw[wg g j n h',List.filterMap_cons,if_neg (by exact ω177 rfl h')];rfl
  ·have e:j=n:=by exact ω226 h h'
   subst e
   have:(List.range j).filterMap (fun i=>if i=j then some (g i) else none)=[]:=by
    rw[List.filterMap_eq_nil_iff]
    intro i hi
    rw[if_neg (Nat.ne_of_lt (List.mem_range.mp hi))]
   rw[this,List.filterMap_cons,if_pos rfl];rfl
theorem vg{owner:Array (Option Nat)}{m f i p:Nat}(hi:i<owner.size)(ho:owner[i]?=some none):SetTable.layClean.free m owner (f+1) i p=some i:=by
 unfold SetTable.layClean.free
 have h1:SetTable.runEnd m i+1-i=(SetTable.runEnd m i-i)+1:=by
  have:i≤SetTable.runEnd m i:=by unfold SetTable.runEnd;split <;> lia
  exact id (ω47 this)
 have h2:(List.range (SetTable.runEnd m i+1-i)).find? (fun k=>(owner.getD (i+k) (some 0)).isNone)=some 0:=by
  rw[h1,List.range_succ_eq_map,List.find?_cons]
  have:owner.getD (i+0) (some 0)=none:=by
   rw[Nat.add_zero,Array.getD_eq_getD_getElem?,ho];rfl
  rw[this];rfl
 rw[h2];rfl
theorem ur(m fg mv:Nat)(ld pl:Bool)(h:Int):SetTable.laid m fg mv ld pl #[h]=some ({mask:=m,place:=#[SetTable.bits h%(m+1)],dummies:=#[],finger:=fg,led:=ld,moves:=mv,plain:=pl},#[0]):=by
 have hlt:SetTable.bits h%(m+1)<m+1:=Nat.mod_lt _ (Nat.succ_pos _)
 have hlay:SetTable.layClean m #[h]=some ((Array.replicate (m+1) none).setIfInBounds (SetTable.bits h%(m+1)) (some 0)):=by
  unfold SetTable.layClean
  rw[show(#[h]:Array Int).foldl (init:=some (Array.replicate (m+1) (none:Option Nat),0)) (fun acc h=>do
   let (owner,k) ←acc
   let j ←SetTable.layClean.free m owner (SetTable.turns m) (SetTable.bits h%(m+1)) (SetTable.bits h)
   pure (owner.setIfInBounds j (some k),k+1))=(do
   let j ←SetTable.layClean.free m (Array.replicate (m+1) (none:Option Nat)) (SetTable.turns m) (SetTable.bits h%(m+1)) (SetTable.bits h)
   pure ((Array.replicate (m+1) (none:Option Nat)).setIfInBounds j (some 0),0+1)) from by simp]
  rw[show SetTable.turns m=(m+14)+1 from rfl,vg (by simpa using hlt) (by simp[hlt])]
  rfl
 unfold SetTable.laid
 rw[hlay]
 show some _=some _
 have hlive:(List.range (m+1)).filterMap (fun j=>(((Array.replicate (m+1) (none:Option Nat)).setIfInBounds (SetTable.bits h%(m+1)) (some 0)).getD j none).map (j,·))=[(SetTable.bits h%(m+1),0)]:=by
  rw[←wg (fun i=>(i,0)) (SetTable.bits h%(m+1)) (m+1) hlt]
  refine ko _ fun j hj=>?_
  rw[Array.getD_eq_getD_getElem?,Array.getElem?_setIfInBounds]
  have hj':=List.mem_range.mp hj
  by_cases e:SetTable.bits h%(m+1)=j
  ·subst e;simp[hlt]
  ·rw[if_neg e,if_neg (Ne.symm e)];simp[hj']
 rw[hlive];rfl
theorem qc:∀n,n<2003→8≤SetTable.sizeAbove n∧SetTable.sizeAbove n≤5000:=by decide+kernel
section
variable{c:Cx}{A:Around}{L:Addr}{V V':ay}{G R:List Fa}{s:Shared}{env:Env}{t u:Tok}
theorem aa.Av{a:Addr}{x:Tx}{n:Nat}{Q:Unit→Shared→Prop}(S:aa c L V G s)(hm:bA G (.ow (own a (bQ c) [x])) R)(hn:n≤1000)
 (h:∀s',aa c L V (.ow (own a (bQ c) [x])::R) s'→Q () s'):Wp c A (setRoomFor a n) Q s:=by
 refine av (S.get (hm.perm.mem_iff.mpr (.head _))) fun ν0 o ho hP ν4=>?_
 refine gJ hP.size fun es0 ep0 t0 hd0 hsize=>?_
 obtain⟨hex,es,ep,tb,hd,hel,⟨vs,hv1,hv2⟩,hf,hpl⟩:=hP
 obtain rfl:es=es0:=by rw[hd] at hd0;cases hd0;rfl
 have hfit:tb.place.size=es.size:=by
  simp only[SetTable.fits,Bool.and_eq_true,beq_iff_eq] at hf;exact hf.1
 refine wpAny_bind (wpAny_setState_of ho hd hf ?_)
 dsimp only
 split
 ·rename_i wanted hw
  have hwb:wanted<2003:=by
   unfold SetTable.roomFor at hw
   split at hw
   ·cases hw;rw[hfit,hsize];simp;exact ω190 hn rfl
   ·cases hw
  obtain⟨b1,b2⟩:=qc wanted hwb
  refine wpAny_bind (wpAny_setState_of ho hd hf ?_)
  dsimp only
  rw[if_neg (by rw[sizeLine_eq];exact ω191 b2 rfl)]
  obtain⟨e0,he0⟩:∃e0,es= #[e0]:=by
   have:es.toList.length=1:=by rw[Array.length_toList,hsize];rfl
   obtain⟨e0,h0⟩:=List.length_eq_one_iff.mp this
   exact⟨e0,by rw[←Array.toArray_toList (xs:=es),h0]⟩
  subst he0
  have hrel:tb.relaid ((#[e0]:Array (Int×Value)).map (·.1)) wanted=some ({mask:=SetTable.sizeAbove wanted-1,place:=#[SetTable.bits e0.1%(SetTable.sizeAbove wanted-1+1)],dummies:=#[],finger:=tb.finger,led:=tb.led,moves:=tb.movedTo (SetTable.sizeAbove wanted-1),plain:=tb.plain},#[0]):=by
   rw[show((#[e0]:Array (Int×Value)).map (·.1))= #[e0.1] from by simp]
   exact ur ..
  rw[hrel]
  refine wpAny_bind (wpAny_pure ?_)
  have hes:Array.filterMap (fun(i:Nat)=>(#[e0]:Array (Int×Value))[i]?) #[0]= #[e0]:=by simp
  dsimp only
  rw[hes]
  refine wpAny_storeSet_of ho hd ?_ (by rw[sizeLine_eq];simp)
  refine h _ (S.turn (tk:=s.toks) hm (bQ c) [x] (Heap.SameBut.update s.heap a _) (Heap.get?_update_self _ ho (by rw[putSet_of _ _ hd];rfl)) fun ν ν ν ν ν=>?_)
  rw[putSet_of _ _ hd]
  refine⟨hex,#[e0],ep+1,_,rfl,hel,⟨vs,hv1,hv2⟩,?_,hpl⟩
  simp only[SetTable.fits,SetTable.fill,Bool.and_eq_true,beq_iff_eq,decide_eq_true_eq]
  exact⟨rfl,by simp;exact ω54 b1 rfl⟩
 ·exact wpAny_pure (h s (S.front hm))
end
end Mine
set_option tactic.hygienic false
namespace Mine
section
variable{c:Cx}{A:Around}{L:Addr}{V V':ay}{G R:List Fa}{s:Shared}{env:Env}{t u:Tok}
theorem take_snoc{β:Type}{tag:Tx}{xs:List (Tx×β)}{i:Nat}(h:i<xs.length):tag::(xs.take (i+1)).map (·.1)=(tag::(xs.take i).map (·.1))++[xs[i].1]:=by
 rw[List.take_add_one,List.getElem?_eq_getElem h,List.map_append];rfl
noncomputable abbrev pA(it d:Addr)(i n ep:Nat):Ow:=own it (bE "dict_keyiterator" #[.ref d,.int i 0,.int n 0,.int ep 0]) ()
theorem ue{β:Type}{T:Ty β}{d it:Addr}{xs:List (Tx×β)}{o:Obj}{kvs:List (Str×Value)}{ep i:Nat}{x:Tx×β}{Q:Option Value→Shared→Prop}(hD:dH c o kvs ep)(S:aa c L V G s)(hm:bA G (.ow (pA it d i kvs.length ep)) R)(ho: .kn (held d o)∈R)(hp: .kn (prs T kvs xs)∈R)(hx:xs[i]?=some x)
 (h:∀t s',aa c L V (.ow (pA it d (i+1) kvs.length ep)::R) s'→Q (some (.str (tx x.1) t)) s'):Wp c A (pyNext (.ref it)) Q s:=by
 refine av (S.get (hm.perm.mem_iff.mpr (.head _))) fun ν0 oi ei π53 ν4=>?_;obtain⟨hc,hd⟩:=π53
 have hat:=hD.at (S.aF (hm.perm.mem_iff.mpr (.tail _ ho)))
 refine aj (S.fact fun B k ν=>let⟨v,hv,r⟩:=(k.at (hm.perm.mem_iff.mpr (.tail _ hp))).at hx;(⟨v,hv,r.1⟩:∃v,kvs[i]?=some v∧v.1=tx x.1)) fun kv hkv ek=>?_
 refine wpAny_pyNext_dict_item (i:=i) ⟨oi,ei,hc,hd⟩ hat (k:=kv.1) (v:=kv.2) hkv fun key h' hkey hit' hs=>?_
 obtain⟨t,rfl⟩:=Value.isStrOf_shape hkey
 refine bL hit' fun o' e' hc' hd'=>?_;try clear hit'
 rw[ek]
 exact h t _ (S.turn (tk:=s.toks) hm (bE "dict_keyiterator" #[.ref d,.int (i+1:Nat) 0,.int kvs.length 0,.int ep 0]) () hs e' fun ν ν ν ν ν=>⟨hc',hd'⟩)
theorem xx{β:Type}{T:Ty β}{d it:Addr}{xs:List (Tx×β)}{o:Obj}{kvs:List (Str×Value)}{ep i:Nat}{Q:Option Value→Shared→Prop}(hh:A.handled=none)(hD:dH c o kvs ep)(S:aa c L V G s)(hm:bA G (.ow (pA it d i kvs.length ep)) R)(ho: .kn (held d o)∈R)(hp: .kn (prs T kvs xs)∈R)(hx:xs.length≤i)
 (h:∀s',aa c L V R s'→Q none s'):Wp c A (pyNext (.ref it)) Q s:=by
 refine av (S.get (hm.perm.mem_iff.mpr (.head _))) fun ν0 oi ei π53 ν4=>?_;obtain⟨hc,hd⟩:=π53
 have hat:=hD.at (S.aF (hm.perm.mem_iff.mpr (.tail _ ho)))
 have hl:kvs.length=xs.length:=S.fact fun B k ν=>(k.at (hm.perm.mem_iff.mpr (.tail _ hp)):az _ kvs xs).length
 exact wpAny_pyNext_dict_end hh (i:=i) ⟨oi,ei,hc,hd⟩ hat (by rw[List.getElem?_eq_none (by exact ω199 hx hl)]) fun h' hk=>h _ (S.lose hm hk)
theorem uo{β:Type}{T:Ty β}{a d it:Addr}{tag:Tx}{xs:List (Tx×β)}{o:Obj}{kvs:List (Str×Value)}{ep:Nat}{P:Result→Shared→Prop}(hD:dH c o kvs ep)(hnd:(tag::xs.map (·.1)).Nodup)(hsz:xs.length≤900)(ho: .kn (held d o)∈R)(hp: .kn (prs T kvs xs)∈R)
 (h:∀s',aa c L V (.ow (own a (bQ c) (tag::xs.map (·.1)))::R) s'→P (.ok (.ret .none)) s'):∀(k i:Nat) (s:Shared) (A:Around),A.handled=none→i+k=xs.length→aa c L V (.ow (pA it d i kvs.length ep):: .ow (own a (bQ c) (tag::(xs.take i).map (·.1)))::R) s→
   codeAny (model c.prog c.w) A (.builtin "set.update.loop" ⟨[.ref a,.ref it],[]⟩) P s:=by
 intro k
 induction k with
 |zero=>
  intro i s A hh hi S
  refine codeAny_builtin PyProof.Rows.F.entry_set_update_loop ?_
  rw[Around.under_plainId PyProof.Rows.F.plain_set_update_loop _]
  refine wpAny_bind (jq (xx (T:=T) (xs:=xs) hh hD S .here (.tail _ ho) (.tail _ hp) (by lia) fun s' S=>wpAny_pure (h _ ?_)))
  rwa [List.take_of_length_le (by lia)] at S
 |succ k ih=>
  intro i s A hh hi S
  refine codeAny_builtin PyProof.Rows.F.entry_set_update_loop ?_
  rw[Around.under_plainId PyProof.Rows.F.plain_set_update_loop _]
  have hlt:i<xs.length:=by exact ω74 hi
  refine wpAny_bind (jq (ue (T:=T) (xs:=xs) (x:=xs[i]) hD S .here (.tail _ ho) (.tail _ hp) (List.getElem?_eq_getElem hlt) fun t s' S=>?_))
  have hx:xs[i].1∉tag::(xs.take i).map (·.1):=by
   intro hm
   have e1:xs.map (·.1)=(xs.take i).map (·.1)++xs[i].1 ::(xs.drop (i+1)).map (·.1):=by
    rw[←List.map_cons,←List.drop_eq_getElem_cons hlt,←List.map_append,List.take_append_drop]
   rw[e1,←List.cons_append] at hnd
   exact(List.nodup_append.mp hnd).2.2 _ hm _ (.head _) rfl
  refine wpAny_bind (wpAny_holding (jq (S.AX (.there .here) hx (by simp;exact ω124 hsz rfl) fun s' S=>?_)))
  refine wpAny_pure ⟨plainId_quiet PyProof.Rows.F.plain_set_update_loop _,ih (i+1) s' A hh (by exact ω73 hi) ?_⟩
  have e2:tag::(xs.take (i+1)).map (·.1)=(tag::(xs.take i).map (·.1))++[xs[i].1]:=take_snoc hlt
  rw[e2]
  exact S.perm (List.Perm.swap ..)
theorem aa.AG{β:Type}{T:Ty β}{a:Addr}{tag:Tx}{v:Value}{xs:List (Tx×β)}{Q:Unit→Shared→Prop}(hh:A.handled=none)(S:aa c L V G s)(hm:bA G (.ow (own a (bQ c) [tag])) R)(hd: .kn (is (Ty.dct c T) v xs)∈R)(hnd:(tag::xs.map (·.1)).Nodup)(hsz:xs.length≤900)
 (h:∀s',aa c L V (.ow (own a (bQ c) (tag::xs.map (·.1)))::R) s'→Q () s'):Wp c A (setDisplayStar a v) Q s:=by
 refine aj (S.cX (hm.perm.mem_iff.mpr (.tail _ hd))) fun d π31 hn=>?_;rcases π31 with rfl
 have hT:=(S.g7 (hm.perm.mem_iff.mpr (.tail _ hd))).1
 have S1:=S.front hm
 refine gJ (S1.gx (.tail _ hd)) fun o kvs ep hD S2=>?_
 have S3:aa c L V (.ow (own a (bQ c) [tag]):: .kn (held d o):: .kn (prs T kvs xs)::R) s:=S2.sub (.own (.there (.there .here)) (.kn (.head _) (.kn (.tail _ (.head _)) (.drop (.drop .all)))))
 have hlen:kvs.length=xs.length:=S3.fact fun B k ν=>(k.at (.tail _ (.tail _ (.head _))):az _ kvs xs).length
 refine gb (id hD) fun es hex hdat hkeys hpairs hndk=>?_
 have hes:es.size=xs.length:=by rw[←hlen,←hpairs.length];simp
 have fin:∀s',aa c L V (.ow (own a (bQ c) (tag::xs.map (·.1))):: .kn (held d o):: .kn (prs T kvs xs)::R) s'→Q () s':=fun s' S=>h s' (S.sub (.own .here (.drop (.drop .all))))
 unfold setDisplayStar
 dsimp only
 refine wpAny_bind (wpAny_isInstance (b:=false) hT F.sub_dict_set ?_)
 rw[if_neg Bool.false_ne_true]
 refine wpAny_bind (wpAny_isInstance (b:=false) hT F.sub_dict_frozenset ?_)
 refine wpAny_bind (wpAny_askSetting ?_)
 cases hbt:(model c.prog c.w).w.params.followText "set-display-star-reads-storage" with
 |true=>
  rw[if_pos rfl]
  refine wpAny_bind (wpAny_pyIter_dict hn (hD.at (S3.aF (.tail _ (.head _)))) ?_)
  have S4:aa c L V (.ow (pA s.heap.objs.size d 0 kvs.length ep):: .ow (own a (bQ c) (tag::(xs.take 0).map (·.1))):: .kn (held d o):: .kn (prs T kvs xs)::R) {s with heap:=s.heap.push {cls:=.type "dict_keyiterator",data:=.fields #[.ref d,.int 0 0,.int kvs.length 0,.int ep 0]}}:=
   S3.push (bE "dict_keyiterator" #[.ref d,.int (0:Nat) 0,.int kvs.length 0,.int ep 0]) () fun ν ν=>⟨rfl,rfl⟩
  refine wpAny_bind (wpAny_runValue (uo (T:=T) (xs:=xs) (P:=fun r s'=>match r with | .ok (.ret v)=>Wp c A (pure ()) Q s'| .ok _=>False| .error e=>False) hD hnd hsz (.head _) (.tail _ (.head _)) (fun s' S=>wpAny_pure (fin s' S)) xs.length 0 _ _ hh (by lia) S4))
 |false=>
  rw[if_neg Bool.false_ne_true]
  refine wpAny_bind (wpAny_typeOf hT ?_)
  rw[if_pos (by rfl)]
  refine wpAny_bind (wpAny_rule ?_)
  rw[if_neg (by rw[hn];exact Bool.false_ne_true)]
  refine wpAny_bind (wpAny_dictEpoch (S3.aF (.tail _ (.head _))) hdat ?_)
  refine wpAny_bind (wpAny_dictEntries (S3.aF (.tail _ (.head _))) hdat ?_)
  refine wpAny_bind (S3.Av .here (by exact ω6 hes hsz rfl) fun s1 S4=>?_)
  refine wpAny_bind ?_
  rw[Std.Legacy.Range.forIn_eq_forIn_range']
  refine wpAny_forIn_list _ (fun rest ν s'=>∃i,rest=List.range' i (es.size-i)∧i≤es.size∧aa c L V (.ow (own a (bQ c) (tag::(xs.take i).map (·.1))):: .kn (held d o):: .kn (prs T kvs xs)::R) s') _ ?_ ?_ _ _ ⟨0,by simp,Nat.zero_le _,S4⟩
  ·intro x rest b s' υ4;obtain⟨i,hr,hi,S⟩:=υ4
   have hlt:i<es.size:=by
    rcases Nat.lt_or_ge i es.size with h|h
    ·exact h
    ·rw[Nat.sub_eq_zero_of_le h] at hr;simp at hr
   obtain⟨rfl,hrest⟩:x=i∧rest=List.range' (i+1) (es.size-(i+1)):=by
    have e:es.size-i=(es.size-(i+1))+1:=by exact ω43 hlt
    rw[e,List.range'_succ] at hr
    injection hr with h1 h2
    exact⟨h1,h2⟩
   have hxl:x<xs.length:=by exact ω154 hlt (id (Eq.symm hes))
   refine wpAny_bind (wpAny_dictEntries (S.aF (.tail _ (.head _))) hdat ?_)
   rw[Array.getElem?_eq_getElem hlt]
   obtain⟨kv,hkv,ek⟩:∃v,kvs[x]?=some v∧v.1=tx xs[x].1:=S.fact fun B k ν=>by
    refine aj ((k.at (.tail _ (.tail _ (.head _))):az (dc T B) kvs xs).at (List.getElem?_eq_getElem hxl)) fun v hv r=>?_
    exact⟨v,hv,r.1⟩
   obtain⟨hkey,_⟩:=hpairs.get? (e:=es[x]) (by simp[hlt]) hkv
   refine aj (hkeys es[x] (Array.getElem_mem hlt)) fun k' hkey' hhash=>?_
   obtain rfl:k'=kv.1:=(strKind c.prog c.w).inj _ _ _ hkey' hkey
   obtain⟨t,et⟩:=Value.isStrOf_shape hkey
   rw[ek] at et hhash
   dsimp only
   rw[hhash,et]
   have hx:xs[x].1∉tag::(xs.take x).map (·.1):=by
    intro hm
    have e1:xs.map (·.1)=(xs.take x).map (·.1)++xs[x].1 ::(xs.drop (x+1)).map (·.1):=by
     rw[←List.map_cons,←List.drop_eq_getElem_cons hxl,←List.map_append,List.take_append_drop]
    rw[e1,←List.cons_append] at hnd
    exact(List.nodup_append.mp hnd).2.2 _ hm _ (.head _) rfl
   have e2:tag::(xs.take (x+1)).map (·.1)=(tag::(xs.take x).map (·.1))++[xs[x].1]:=take_snoc hxl
   refine wpAny_bind (wpAny_holding (wpAny_bind (S.yC .here hx (by simp;exact ω124 hsz rfl) fun s' S=>wpAny_pure ?_)))
   refine wpAny_bind (wpAny_dictEpoch (S.aF (.tail _ (.head _))) hdat ?_)
   rw[bne_self_eq_false,if_neg Bool.false_ne_true]
   exact wpAny_pure ⟨x+1,hrest,by exact hlt,by rw[e2];exact S⟩
  ·intro b s' υ2;obtain⟨i,hr,hi,S⟩:=υ2
   have:i=es.size:=by
    have:=congrArg List.length hr
    simp at this;lia
   subst this
   rw[List.take_of_length_le (by exact ω199 hi (id (Eq.symm hes)))] at S
   exact wpAny_pure (fin s' S)
end
end Mine
namespace Mine
theorem fk:Slot "set_iterator" "__next__" "set_iterator.__next__":=
 .of (owner:="set_iterator") (n:="__next__") (by rw[typeLookup_type,builtinLookup_eq_fast];kernel_rfl) (by decide+kernel) (by decide+kernel) (by decide+kernel)
  (by first|exact .inl (by decide+kernel)|exact .inr (by decide+kernel)) (by rw[isSubtype_type];kernel_rfl)
theorem gQ:entryFor table "set_iterator.__next__"=some Builtin.«set_iterator.__next__»:=entryFor_of_tree (by kernel_rfl)
theorem ir(a:Value):argsOk "set_iterator.__next__" ⟨[a],[]⟩:=by unfold argsOk;kernel_rfl
theorem jS:entryFor table "set.__iter__"=some Builtin.«frozenset.__iter__»:=
 entryFor_alias (id':="frozenset.__iter__") (by kernel_rfl) rfl (by decide+kernel) (by kernel_rfl)
theorem jW{α:Type}{l:List α}{i:Nat}(h:i<l.length):(l[i]::l.eraseIdx i).Perm l:=by
 rw[List.eraseIdx_eq_take_drop_succ]
 refine(List.perm_middle.symm).trans ?_
 rw[←List.drop_eq_getElem_cons h,List.take_append_drop]
theorem rI{α:Type}(next:Nat→Nat):∀(f k:Nat) (left:List α) (out:Array α),left.length≤f→(pickOrder.go next f k left out).toList.Perm (out.toList++left)
 |0,k,left,out,h=>by
  have:left=[]:=List.length_eq_zero_iff.mp (by lia)
  subst this;unfold pickOrder.go;simp
 |f+1,k,left,out,h=>by
  unfold pickOrder.go
  cases left with
  |nil=>simp
  |cons a r=>
   have hlt:next k%(a::r).length <(a::r).length:=Nat.mod_lt _ (by simp)
   rw[List.getElem?_eq_getElem hlt]
   refine(rI next f (k+1) _ _ (by rw[List.length_eraseIdx_of_lt hlt];exact ω119 h)).trans ?_
   rw[Array.toList_push,List.append_assoc]
   refine List.Perm.append_left _ ?_
   exact jW hlt
theorem tM{α:Type}(next:Nat→Nat)(xs:Array α):(pickOrder next xs).toList.Perm xs.toList:=by
 have:=rI next xs.size 0 xs.toList #[] (by simp)
 simpa[pickOrder] using this
section
variable{c:Cx}{A:Around}{L:Addr}{V V':ay}{G R:List Fa}{s:Shared}{env:Env}{t u:Tok}
theorem aa.drawn(S:aa c L V G s)(d:_):aa c L V G {s with drawn:=d}:=by
 obtain⟨B,S⟩:=S
 exact⟨B,{base:=S.base,above:=S.above,keep:=S.keep,loc:=S.loc,locB:=S.locB,know:=S.know,own:=S.own,nodup:=S.nodup,gens:=S.gens,bare:=S.bare,os:=S.os,tk:=S.tk}⟩
theorem k7{α:Type}{E:Value→Shared→Prop}{Q:List α→Shared→Prop}:∀(n:Nat) (xs:List α) (s:Shared),xs.length=n→(∀ys d,ys.Perm xs→Q ys {s with drawn:=d})→wpAny (model c.prog c.w) A (drawOrder n xs) Q E s
 |0,xs,s,hn,h=>by
  have:xs=[]:=List.length_eq_zero_iff.mp hn
  subst this
  exact wpAny_pure (h [] s.drawn (.refl _))
 |n+1,[],s,hn,h=>by simp at hn
 |n+1,x::xs,s,hn,h=>by
  refine wpAny_bind ?_
  intro Γ p hΓ
  refine⟨by simp,?_⟩
  have hlt:(model c.prog c.w).w.draws .order (s.drawn.get .order)%(x::xs).length <(x::xs).length:=Nat.mod_lt _ (by simp)
  generalize(model c.prog c.w).w.draws .order (s.drawn.get .order)%(x::xs).length =i at hlt
  have key:wpAny (model c.prog c.w) A (match (x::xs)[i]? with
   |some x'=>do return x'::(←drawOrder n ((x::xs).eraseIdx i))
   |none=>unsupported "internal:drawOrder") Q E {s with drawn:=s.drawn.bump .order}:=by
   rw[List.getElem?_eq_getElem hlt]
   refine wpAny_bind (k7 n _ _ (by rw[List.length_eraseIdx_of_lt hlt];exact ω50 (id (Eq.symm hn))) fun ys d hp=>wpAny_pure ?_)
   exact h _ d ((hp.cons _).trans (jW hlt))
  rw[Sem.wp_pure]
  exact key
noncomputable def tH(c:Cx)(a:Addr)(es:Array (Int×Value))(ep:Nat)(ord:List Value)(first:Value):MP:=
 ⟨fun B=>((∃sl:Nat,first=rawInt sl)∧(model c.prog c.w).w.params.followText "set-order"=true∧ord=(pickOrder ((model c.prog c.w).w.params.setOrder a ep) es).toList.map (·.2))∨
  (∃tp ot n,∃pl:List Nat,first= .ref tp∧B tp=some ot∧ot.data= .seq (pl.map fun(i:Nat)=>rawInt i).toArray n∧pl.Perm (List.range es.size)∧ord=pl.map fun i=>(es.getD i (0,Value.none)).2),
  fun hle h=>h.imp id fun⟨tp,ot,n,pl,e,e1,r⟩=>⟨tp,ot,n,pl,e,hle _ _ e1,r⟩⟩
theorem qp{es:Array (Int×Value)}{pl:List Nat}(hp:pl.Perm (List.range es.size)):(pl.map fun i=>(es.getD i (0,Value.none)).2).Perm (es.toList.map (·.2)):=by
 refine(hp.map fun i=>(es.getD i (0,Value.none)).2).trans ?_
 have e:(List.range es.size).map (fun i=>(es.getD i (0,Value.none)).2)=es.toList.map (·.2):=by
  apply List.ext_getElem
  ·simp
  ·intro i h1 h2
   simp at h1 h2
   simp[h1]
 rw[e]
noncomputable abbrev pZ(it a:Addr)(first:Value)(i n ep:Nat):Ow:=own it (bE "set_iterator" #[first,.int i 0,.ref a,.int n 0,.int ep 0]) ()
theorem aa.Ax{a:Addr}{o:Obj}{es:Array (Int×Value)}{ep:Nat}{tb:SetTable}{Q:Value→Shared→Prop}(S:aa c L V G s)(ho: .kn (held a o)∈G)(hcls:o.cls= .type "set")(hd:o.data= .set es ep tb)(hf:tb.fits es.size=true)(hpl:tb.plain=false)(h2:2≤es.size)(hsz:es.size≤1000)
 (h:∀it ord first s',ord.Perm (es.toList.map (·.2))→aa c L V (.ow (pZ it a first 0 es.size ep):: .kn (tH c a es ep ord first)::G) s'→Q (.ref it) s'):Wp c A (pyIter (.ref a)) Q s:=by
 have hoa:=S.aF ho
 have hT:s.TypeIs (.ref a) "set":=⟨o,hoa,hcls⟩
 refine wpAny_pyIter_slot hT F.slot_set_iter (wpAny_call_entry F.slot_set_iter hT jS ?_ (F.args_set_iter_1 _))
 refine wpAny_bind (wpAny_of_eq (a:=a) rfl ?_)
 refine wpAny_bind (wpAny_bind (wpAny_setEntries_of hoa hd hf (wpAny_pure ?_)))
 have tail:∀(first:Value) (ord:List Value) (s1:Shared),ord.Perm (es.toList.map (·.2))→aa c L V (.kn (tH c a es ep ord first)::G) s1→wpAny (model c.prog c.w) A.in1 (setEpoch a>>=fun e=>newFields "set_iterator" [first,rawInt 0,.ref a,rawInt es.size,rawInt e]>>=fun l=>ret l)
  (fun fin s'=>∃v,fin= .done (.ret v)∧∃(U:String) (r:Value),s'.TypeIs v U∧typeLookup (.type U) "__next__"=pure (some r)∧Q v s') (fun ν ν=>False) s1:=by
  intro first ord s1 hperm S1
  refine wpAny_bind (wpAny_setEpoch_of (S1.aF (.tail _ ho)) hd hf ?_)
  refine wpAny_bind (wpAny_newObj_type (wpAny_pure ⟨_,rfl,"set_iterator",_,⟨_,Heap.get?_push_size _ rfl,rfl⟩,fk.lookup,?_⟩))
  refine h _ ord first _ hperm ?_
  exact S1.push (tk:=s1.toks) (bE "set_iterator" #[first,.int (0:Nat) 0,.ref a,.int es.size 0,.int ep 0]) () fun ν ν=>⟨rfl,rfl⟩
 refine wpAny_bind (wpAny_bind (wpAny_setState_of hoa hd hf ?_))
 refine wpAny_bind (wpAny_bind (wpAny_askSetting (wpAny_pure ?_)))
 refine wpAny_pure ?_
 cases hbt:(model c.prog c.w).w.params.followText "set-order" with
 |true=>
  refine wpAny_bind (wpAny_pure ?_)
  exact tail _ ((pickOrder ((model c.prog c.w).w.params.setOrder a ep) es).toList.map (·.2)) s ((tM _ _).map _) (S.add _ fun ν ν=>.inl ⟨⟨0,rfl⟩,hbt,rfl⟩)
 |false=>
  rw[if_pos (by show(true&&(!tb.plain&&decide (es.size>1)))=true;rw[hpl];simp;exact h2)]
  refine wpAny_bind (k7 es.size (List.range es.size) s (by simp) fun pl d hp=>?_)
  refine wpAny_bind (wpAny_newObj_type ?_ (by show((pl.map fun(i:Nat)=>rawInt i).toArray).size≤sizeLine;rw[List.size_toArray,List.length_map,hp.length_eq,List.length_range,sizeLine_eq];exact ω1 hsz rfl))
  have S1:=(S.drawn d).push (tk:=s.toks) (o:={cls:=.type "tuple",data:=.seq (pl.map fun(i:Nat)=>rawInt i).toArray}) (ck {cls:=.type "tuple",data:=.seq (pl.map fun(i:Nat)=>rawInt i).toArray}) () fun ν ν=>rfl
  have S2:=S1.freeze .here
  refine tail _ (pl.map fun i=>(es.getD i (0,Value.none)).2) _ (qp hp) ((S2.add _ fun B k=>?_).sub (.kn (.head _) (.drop (.drop .all))))
  refine fO (k.at (k:=is (Ty.ref (ck {cls:=.type "tuple",data:=.seq (pl.map fun(i:Nat)=>rawInt i).toArray})) (.ref s.heap.objs.size) ()) (.head _)) fun a' o' e ν3 ho' r=>?_
  cases e
  exact .inr ⟨_,o',0,pl,rfl,ho',by rw[show o'=_ from r],hp,rfl⟩
end
end Mine
namespace Mine
section
variable{c:Cx}{A:Around}{L:Addr}{V V':ay}{G R:List Fa}{s:Shared}{env:Env}{t u:Tok}
structure rU(c:Cx)(o:Obj)(es:Array (Int×Value))(ep:Nat)(tb:SetTable):Prop where
 cls:o.cls= .type "set"
 data:o.data= .set es ep tb
 fits:tb.fits es.size=true
 pl:tb.plain=false
 two:2≤es.size
 sz:es.size≤1000
theorem vC{a it:Addr}{o:Obj}{es:Array (Int×Value)}{ep i:Nat}{tb:SetTable}{ord:List Value}{first v:Value}{Q:Option Value→Shared→Prop}(hst:rU c o es ep tb)(S:aa c L V G s)(hm:bA G (.ow (pZ it a first i es.size ep)) R)(ho: .kn (held a o)∈R)(hk: .kn (tH c a es ep ord first)∈R)(hx:ord[i]?=some v)
 (h:∀s',aa c L V (.ow (pZ it a first (i+1) es.size ep)::R) s'→Q (some v) s'):Wp c A (pyNext (.ref it)) Q s:=by
 have S0:=S.front hm
 refine av (S0.get (.head _)) fun ν0 oi ei π53 ν4=>?_;obtain⟨hc,hd⟩:=π53
 have hoa:=S0.aF (.tail _ ho)
 have hT:s.TypeIs (.ref it) "set_iterator":=⟨oi,ei,hc⟩
 refine eU hT fk gQ (ir _) fun F X hF hX=>?_
 refine wpAny_bind (wpAny_of_eq (a:=(Value.ref it,[])) rfl ?_)
 refine wpAny_bind (wpAny_fieldsOf ei hd ?_)
 dsimp only
 refine wpAny_bind (wpAny_setEntries_of hoa hst.data hst.fits ?_)
 rw[if_neg (by simp)]
 refine aj (S0.inst (.tail _ hk)) fun B hB hkeep=>?_
 have done:∀(h':Heap),Heap.SameBut it s.heap h'→(∃o',h'.get? it=some o'∧o'.cls= .type "set_iterator"∧o'.data= .fields #[first,.int ((i+1:Nat):Int) 0,.ref a,.int es.size 0,.int ep 0])→Q (some v) {s with heap:=h'}:=fun h' hs ⟨o',e',r⟩=>
  h _ (S0.turn (tk:=s.toks) .here (bE "set_iterator" #[first,.int ((i+1:Nat):Int) 0,.ref a,.int es.size 0,.int ep 0]) () hs e' fun ν ν ν ν ν=>r)
 rcases hB with⟨⟨sl,rfl⟩,hbt,rfl⟩|⟨tp,ot,n,pl,rfl,hot,hod,hp,rfl⟩
 ·dsimp only[rawInt]
  refine wpAny_bind (wpAny_bind (wpAny_setState_of hoa hst.data hst.fits ?_))
  refine wpAny_bind (wpAny_bind (wpAny_askSetting (wpAny_pure ?_)))
  rw[hbt,if_pos rfl]
  rw[if_neg (by simp)]
  refine wpAny_bind (wpAny_bind (wpAny_setState_of hoa hst.data hst.fits ?_))
  refine wpAny_bind (wpAny_bind (wpAny_askSetting (wpAny_pure ?_)))
  rw[hbt,if_pos rfl]
  refine wpAny_bind (wpAny_askSetting (wpAny_pure ?_))
  have hx':((pickOrder ((model c.prog c.w).w.params.setOrder a ep) es)[(i:Int).toNat]?).map (fun e=>(e.2,(sl:Int).toNat))=some (v,sl):=by
   rw[List.getElem?_map] at hx
   refine aj (Option.map_eq_some_iff.mp hx) fun e h1 h2=>?_
   rw[Int.toNat_natCast,Int.toNat_natCast]
   rw[Array.getElem?_toList] at h1
   rw[h1,Option.map_some,h2]
  refine wpAny_pure ?_
  rw[hx']
  refine wpAny_bind (wpAny_setField ei hd (by simp) ?_)
  have e1:=Heap.get?_update_self (h:=s.heap) (Obj.mapFields (·.setIfInBounds 0 (rawInt sl))) ei (Obj.isFreed_of_fields (Obj.data_mapFields hd _))
  have d1:=Obj.data_mapFields hd (·.setIfInBounds 0 (rawInt sl))
  refine wpAny_bind (wpAny_setField e1 d1 (by simp) ?_)
  refine wpAny_pure (hF _ _ (done _ ((Heap.SameBut.update ..).trans (Heap.SameBut.update ..)) ⟨_,Heap.get?_update_self _ e1 (Obj.isFreed_of_fields (Obj.data_mapFields d1 _)),?_,?_⟩))
  ·rw[Obj.cls_mapFields,Obj.cls_mapFields];exact hc
  ·rw[Obj.data_mapFields d1];simp[rawInt]
 ·dsimp only
  have hot':=hkeep _ _ hot
  refine wpAny_bind (wpAny_seqItems hot' hod ?_)
  dsimp only
  rw[List.getElem?_map] at hx
  refine aj (Option.map_eq_some_iff.mp hx) fun j hj hv=>?_
  have hjl:j<es.size:=by
   have:=hp.mem_iff.mp (List.mem_of_getElem? hj)
   simpa using this
  have hpl:((pl.map fun(i:Nat)=>rawInt i).toArray)[(i:Int).toNat]?=some (rawInt j):=by
   rw[Int.toNat_natCast];simp[hj]
  rw[hpl]
  refine wpAny_bind (wpAny_bind (wpAny_setState_of hoa hst.data hst.fits ?_))
  dsimp only
  rw[if_neg (by simp)]
  have hv':es[j].2 =v:=by rw[←hv];simp[Array.getD,hjl]
  obtain⟨e0,he0⟩:∃e0,es[j]?=some (e0,v):=⟨es[j].1,by rw[Array.getElem?_eq_getElem hjl,←hv']⟩
  rw[Int.toNat_natCast,he0]
  refine wpAny_pure ?_
  refine wpAny_bind (wpAny_setField ei hd (by simp) ?_)
  refine wpAny_pure (hF _ _ (done _ (Heap.SameBut.update ..) ⟨_,Heap.get?_update_self _ ei (Obj.isFreed_of_fields (Obj.data_mapFields hd _)),?_,?_⟩))
  ·rw[Obj.cls_mapFields];exact hc
  ·rw[Obj.data_mapFields hd];simp[rawInt]
theorem xH{a it:Addr}{o:Obj}{es:Array (Int×Value)}{ep i:Nat}{tb:SetTable}{ord:List Value}{first:Value}{Q:Option Value→Shared→Prop}(hh:A.handled=none)(hst:rU c o es ep tb)(S:aa c L V G s)(hm:bA G (.ow (pZ it a first i es.size ep)) R)(ho: .kn (held a o)∈R)(hk: .kn (tH c a es ep ord first)∈R)(hx:ord.length≤i)
 (h:∀s',aa c L V R s'→Q none s'):Wp c A (pyNext (.ref it)) Q s:=by
 have S0:=S.front hm
 refine av (S0.get (.head _)) fun ν0 oi ei π53 ν4=>?_;obtain⟨hc,hd⟩:=π53
 have hoa:=S0.aF (.tail _ ho)
 have hT:s.TypeIs (.ref it) "set_iterator":=⟨oi,ei,hc⟩
 refine eU hT fk gQ (ir _) fun F X hF hX=>?_
 refine wpAny_bind (wpAny_of_eq (a:=(Value.ref it,[])) rfl ?_)
 refine wpAny_bind (wpAny_fieldsOf ei hd ?_)
 dsimp only
 refine wpAny_bind (wpAny_setEntries_of hoa hst.data hst.fits ?_)
 rw[if_neg (by simp)]
 refine aj (S0.inst (.tail _ hk)) fun B hB hkeep=>?_
 rcases hB with⟨⟨sl,rfl⟩,hbt,rfl⟩|⟨tp,ot,n,pl,rfl,hot,hod,hp,rfl⟩
 ·dsimp only[rawInt]
  refine wpAny_bind (wpAny_bind (wpAny_setState_of hoa hst.data hst.fits ?_))
  refine wpAny_bind (wpAny_bind (wpAny_askSetting (wpAny_pure ?_)))
  rw[hbt,if_pos rfl]
  rw[if_neg (by simp)]
  refine wpAny_bind (wpAny_bind (wpAny_setState_of hoa hst.data hst.fits ?_))
  refine wpAny_bind (wpAny_bind (wpAny_askSetting (wpAny_pure ?_)))
  rw[hbt,if_pos rfl]
  refine wpAny_bind (wpAny_askSetting (wpAny_pure ?_))
  have hx':((pickOrder ((model c.prog c.w).w.params.setOrder a ep) es)[(i:Int).toNat]?).map (fun e=>(e.2,(sl:Int).toNat))=none:=by
   rw[List.length_map,Array.length_toList] at hx
   rw[Int.toNat_natCast,Int.toNat_natCast,Array.getElem?_eq_none hx];rfl
  refine wpAny_pure ?_
  rw[hx']
  refine wpAny_bind (wpAny_setField ei hd (by simp) ?_)
  exact nS (A:=A.in1) hh hX fun h' hk=>h _ (S0.lose .here ((Heap.SameBut.update ..).extBut.trans fun b o ν=>hk b o))
 ·dsimp only
  have hot':=hkeep _ _ hot
  refine wpAny_bind (wpAny_seqItems hot' hod ?_)
  dsimp only
  have hpl:((pl.map fun(i:Nat)=>rawInt i).toArray)[(i:Int).toNat]?=none:=by
   rw[List.length_map] at hx
   rw[Int.toNat_natCast];simp;omega
  rw[hpl]
  refine wpAny_bind (wpAny_setField ei hd (by simp) ?_)
  have e1:=Heap.get?_update_self (h:=s.heap) (Obj.mapFields (·.setIfInBounds 0 (rawInt 0))) ei (Obj.isFreed_of_fields (Obj.data_mapFields hd _))
  have d1:=Obj.data_mapFields hd (·.setIfInBounds 0 (rawInt 0))
  refine wpAny_bind (wpAny_setField e1 d1 (by simp) ?_)
  exact nS (A:=A.in1) hh hX fun h' hk=>h _ (S0.lose .here (((Heap.SameBut.update ..).trans (Heap.SameBut.update ..)).extBut.trans fun b o ν=>hk b o))
end
end Mine
namespace Mine
noncomputable def A8:Ty (Tx×Tx):=⟨fun B v p=>(Ty.list ah).rel B v [p.1,p.2],fun h r=>(Ty.list ah).up h r⟩
theorem kC{B:Mem}{s:Shared}(hB:∀b o,B b=some o→s.heap.get? b=some o){v:Value}{x:Tx×Tx}(h:A8.rel B v x):∃a t u n,v= .ref a∧s.heap.get? a=some (aC [.str (tx x.1) t,.str (tx x.2) u] n):=by
 obtain⟨a,o,rfl,_,ho,vs,n,rfl,r⟩:=h
 cases r with
 |cons h1 r=>cases r with
  |cons h2 r=>cases r with
   |nil=>
    obtain⟨t,rfl⟩:=h1
    obtain⟨u,rfl⟩:=h2
    exact⟨a,t,u,n,rfl,hB _ _ ho⟩
theorem zb(p q:Tx):decide (tx p=tx q)=decide (p=q):=by
 by_cases e:p=q
 ·subst e;simp
 ·have:tx p≠tx q:=fun k=>e (dM k)
  simp[this,e]
section
variable{c:Cx}{A:Around}{L:Addr}{V V':ay}{G R:List Fa}{s:Shared}{env:Env}{t u:Tok}
theorem rE{x y:Tx}{t u:Tok}{E:Value→Shared→Prop}{Q:Value→Shared→Prop}(h:Q (.bool (eO x y)) s):wpAny (model c.prog c.w) A (richCompare .Lt (.str (tx x) t) (.str (tx y) u)) Q E s:=PyProof.Rows.lt_str h
theorem eqB{x y:Tx}{t u:Tok}{E:Value→Shared→Prop}{Q:Bool→Shared→Prop}(h:Q (decide (x=y)) s):wpAny (model c.prog c.w) A (eqBool (.str (tx x) t) (.str (tx y) u)) Q E s:=wpAny_eqBool_str (by rw[zb];exact h)
open MeetsSeq3 in
theorem ye{a b:Addr}{x y:Tx×Tx}{t1 t2 u1 u2:Tok}{n m:Nat}{Q:Value→Shared→Prop}(ha:s.heap.get? a=some (aC [.str (tx x.1) t1,.str (tx x.2) t2] n))(hb:s.heap.get? b=some (aC [.str (tx y.1) u1,.str (tx y.2) u2] m))(hne:x≠y)
 (h:Q (.bool (bJ x y)) s):Wp c A (call (.builtin "list.__lt__") [.ref a,.ref b]) Q s:=by
 refine wpAny_call (codeAny_call_builtin F.slot_list_lt.plain F.entry_list_lt (F.slot_list_lt.check _ _ _ _ _ _ _ _ ⟨_,ha,rfl⟩ (F.args_list_lt_2 _ _) ?_))
 have f3:=AutoSeq1.sub_list_list
 show wpAny _ _ (isInstance (.ref b) (.type "list")>>=_) _ _ s
 refine wpAny_bind (wpAny_isInstance (T:="list") (b:=true) ⟨_,hb,rfl⟩ f3 ?_)
 rw[if_neg (by decide)]
 refine wpAny_pure ⟨plainId_quiet plain_eq_loop _,codeAny_builtin entry_eq_loop ?_⟩
 rw[Around.under_plainId plain_eq_loop _]
 have i0:∀(v w:Value),([v,w].toArray)[((0:Int)).toNat]?=some v:=fun v w=>rfl
 have i1:∀(v w:Value),([v,w].toArray)[((0:Int)+1).toNat]?=some w:=fun v w=>rfl
 refine wpAny_bind (listItems_at ha rfl (wpAny_bind (listItems_at hb rfl ?_)))
 rw[i0,i0]
 refine wpAny_bind (eqB ?_)
 unfold bJ at h
 by_cases e1:x.1=y.1
 ·rw[decide_eq_true e1,if_pos rfl]
  rw[if_pos e1] at h
  refine wpAny_pure ⟨plainId_quiet plain_eq_loop _,codeAny_builtin entry_eq_loop ?_⟩
  rw[Around.under_plainId plain_eq_loop _]
  refine wpAny_bind (listItems_at ha rfl (wpAny_bind (listItems_at hb rfl ?_)))
  rw[i1,i1]
  dsimp only
  refine wpAny_bind (eqB ?_)
  have e2:x.2≠y.2:=fun q=>hne (Prod.ext e1 q)
  rw[decide_eq_false e2,if_neg Bool.false_ne_true]
  refine wpAny_bind (listItems_at ha rfl (wpAny_bind (listItems_at hb rfl ?_)))
  rw[i1,i1]
  exact wpAny_bind (rE (wpAny_pure h))
 ·rw[decide_eq_false e1,if_neg Bool.false_ne_true]
  rw[if_neg e1] at h
  refine wpAny_bind (listItems_at ha rfl (wpAny_bind (listItems_at hb rfl ?_)))
  rw[i0,i0]
  exact wpAny_bind (rE (wpAny_pure h))
theorem yI:cQ c A8 bJ 1 where
 kind:=by
  intro A s B vs xs Q hB hr h2 hQ
  refine kas_kind (T:=.type "list") h2 (fun v hv=>?_) (by decide) (by decide) (hQ _ ?_)
  ·obtain⟨i,hi⟩:=List.getElem?_of_mem hv
   refine aj (hr.at' hi) fun x ν1 hx=>?_
   refine sP (kC hB hx) fun a t u n π64 ho=>?_;rcases π64 with rfl
   exact fun ν Q E s' k q=>wpAny_typeOf (T:="list") ⟨_,k _ _ ho,rfl⟩ q
  ·intro A' v w x y C hu hv hw hne hC
   refine sP (kC hB hv) fun a t u n π64 ho=>?_;rcases π64 with rfl
   refine sP (kC hB hw) fun b t' u' n' π64 ho'=>?_;rcases π64 with rfl
   rw[keyLt'_oneType,oneLt'_eq]
   rw[if_pos rfl]
   refine wpAny_bind (wpAny_cRoomFor (by exact ω75 hu) ?_)
   refine wpAny_bind (wpAny_callSpecialIfBound?_slot ⟨_,ho,rfl⟩ F.slot_list_lt (ye ho ho' hne ?_))
   exact wpAny_truthy_bool hC
theorem uE{a it l:Addr}{o:Obj}{es:Array (Int×Value)}{ep:Nat}{tb:SetTable}{ord:List Value}{first:Value}{P:Result→Shared→Prop}(hst:rU c o es ep tb)(ho: .kn (held a o)∈R)(hk: .kn (tH c a es ep ord first)∈R)(hsz:ord.length≤1000)
 (h:∀s' n,s'.heap.get? l=some (aC ord n)→aa c L V R s'→P (.ok (.ret (.ref l))) s'):∀(k i:Nat) (s:Shared) (A:Around) (n:Nat),A.handled=none→i+k=ord.length→aa c L V (.ow (pZ it a first i es.size ep):: .ow (own l (ck (aC (ord.take i) n)) ())::R) s→
   codeAny (model c.prog c.w) A (.builtin "list.extend.loop" ⟨[.ref l,.ref it,.ref l],[]⟩) P s:=by
 intro k
 induction k with
 |zero=>
  intro i s A n hh hi S
  refine codeAny_builtin F.entry_extend_loop ?_
  rw[Around.under_plainId F.plain_extend_loop _]
  refine wpAny_bind (jq (xH hh hst S .here (.tail _ ho) (.tail _ hk) (by lia) fun s' S=>wpAny_pure ?_))
  rw[List.take_of_length_le (by lia)] at S
  refine av (S.get (.head _)) fun ν0 ol el e2 ν4=>?_
  exact h s' n (by rw[el,show ol=_ from e2]) (S.sub (.drop .all))
 |succ k ih=>
  intro i s A n hh hi S
  refine codeAny_builtin F.entry_extend_loop ?_
  rw[Around.under_plainId F.plain_extend_loop _]
  have hlt:i<ord.length:=by exact ω74 hi
  refine wpAny_bind (jq (vC (v:=ord[i]) hst S .here (.tail _ ho) (.tail _ hk) (List.getElem?_eq_getElem hlt) fun s' S=>?_))
  refine av (S.get (.tail _ (.head _))) fun ν0 ol el e2 ν4=>?_
  have el:s'.heap.get? l=some (aC (ord.take i) n):=by rw[el,show ol=_ from e2]
  refine wpAny_bind (listUpdate_at el rfl ?_ (by rw[List.size_toArray,List.length_take,sizeLine_eq];exact ω124 hsz rfl) (by rw[Array.size_push,List.size_toArray,List.length_take,sizeLine_eq];lia))
  obtain⟨n',e'⟩:∃n',(s'.heap.update l (Obj.mapSeq fun x=>x.push ord[i])).get? l=some (aC (ord.take (i+1)) n'):=by
   have:=get?_update_seq el fun x=>x.push ord[i]
   have ea:(ord.take i).toArray.push ord[i]=(ord.take (i+1)).toArray:=by
    rw[List.take_add_one,List.getElem?_eq_getElem hlt];simp
   rw[ea] at this
   exact⟨_,this⟩
  refine wpAny_pure ⟨plainId_quiet F.plain_extend_loop _,ih (i+1) _ A n' hh (by exact ω73 hi) ?_⟩
  have S2:=S.turn (tk:=s'.toks) (.there .here) (ck (aC (ord.take (i+1)) n')) () (Heap.SameBut.update s'.heap l _) e' fun ν ν ν ν ν=>rfl
  exact S2.perm (List.Perm.swap ..)
theorem aa.qk{a:Addr}{xs:List Tx}{Q:List Value→Shared→Prop}(hh:A.handled=none)(S:aa c L V G s)(hm: .kn (is (Ty.ref (bQ c)) (.ref a) xs)∈G)(h2:2≤xs.length)(hsz:xs.length≤900)
 (h:∀vs ys s',ys.Perm xs→az tR vs ys→aa c L V G s'→Q vs s'):Wp c A (collect (.ref a)) Q s:=by
 obtain⟨o,S1⟩:=S.ex (fun o=>⟨fun B=>B a=some o∧qy c o xs,fun hle r=>⟨hle _ _ r.1,r.2⟩⟩) fun B k=>by
  refine fO (k.at hm) fun a' o e ν3 ho r=>?_
  cases e
  exact⟨o,ho,r⟩
 have hP:qy c o xs:=S1.fact fun B k ν=>(k.at (.head _)).2
 have S2:=(S1.add (held a o) fun B k=>(k.at (.head _)).1).sub (G':=.kn (held a o)::G) (.kn (.head _) (.drop (.drop .all)))
 refine gJ hP.size fun es0 ep0 t0 hd0 hsize=>?_
 obtain⟨hex,es,ep,tb,hd,hel,⟨vs,hv1,hv2⟩,hf,hpl⟩:=hP
 obtain rfl:es=es0:=by rw[hd] at hd0;cases hd0;rfl
 have hst:rU c o es ep tb:=⟨hex.1,hd,hf,hpl (by intro υ0;obtain rfl:=υ0;simp at h2),by exact ω200 hsize h2,by exact ω6 hsize hsz rfl⟩
 have hoa:=S2.aF (.head _)
 have hT:s.TypeIs (.ref a) "set":=⟨o,hoa,hex.1⟩
 refine wpAny_bind (wpAny_runValue (codeAny_builtin F.entry_proto_collect ?_))
 rw[Around.under_plainId F.plain_proto_collect _]
 show wpAny _ A.in1 (newList []>>=fun l=>again (.builtin "list.__iadd__" ⟨[l,.ref a],[]⟩)) _ _ s
 refine wpAny_bind (wpAny_newObj_type ?_)
 refine wpAny_pure ⟨plainId_quiet F.plain_list_iadd _,codeAny_builtin F.entry_list_iadd ?_⟩
 rw[Around.under_plainId F.plain_list_iadd _]
 have hne:s.heap.objs.size≠a:=Nat.ne_of_gt (Heap.lt_size hoa)
 have S3:=S2.push (tk:=s.toks) (o:=aC [] 0) (ck (aC [] 0)) () fun ν ν=>rfl
 have hT3:({s with heap:=s.heap.push (aC [] 0)}:Shared).TypeIs (.ref a) "set":=⟨o,S3.aF (.tail _ (.head _)),hex.1⟩
 show wpAny _ A.in1 (Builtin.List.listExtendWith (.ref s.heap.objs.size) (.ref a) (.ref s.heap.objs.size)) _ _ {s with heap:=s.heap.push (aC [] 0)}
 refine wpAny_bind (wpAny_typeOf hT3 ?_)
 have h1:Builtin.List.listSameRef (.ref s.heap.objs.size) (.ref a)=false:=by simp[Builtin.List.listSameRef,hne]
 rw[if_neg (by rw[h1];decide)]
 refine wpAny_bind (jq (S3.Ax (o:=o) (.tail _ (.head _)) hex.1 hd hf hst.pl hst.two hst.sz fun it ord first s4 hperm S4=>?_))
 have hT4:s4.TypeIs (.ref a) "set":=⟨o,S4.aF (.tail _ (.tail _ (.tail _ (.head _)))),hex.1⟩
 refine wpAny_bind (wpAny_holding ?_)
 refine wpAny_bind (wpAny_specialOf hT4 F.slot_set_len.lookup ?_)
 generalize hid:("set.__len__":String)=id0
 dsimp only
 rw[show splitId id0=some ("set","__len__") from by subst hid;decide+kernel]
 refine wpAny_bind (wpAny_isInstance (b:=true) hT4 (by rw[isSubtype_type];kernel_rfl) ?_)
 rw[if_neg (by decide)]
 subst hid
 rw[if_pos (by decide+kernel)]
 refine wpAny_bind (wpAny_typeOf hT4 ?_)
 refine wpAny_pure ?_
 rw[if_pos (by decide+kernel)]
 refine wpAny_bind (wpAny_rule ?_)
 refine av (S4.get (.tail _ (.tail _ (.head _)))) fun ν0 ol el e2 ν4=>?_
 have el:s4.heap.get? s.heap.objs.size=some (aC [] 0):=by rw[el,show ol=_ from e2]
 obtain⟨n1,e1⟩:∃n1,(s4.heap.update s.heap.objs.size (Obj.mapSeq (·.push .none))).get? s.heap.objs.size=some (aC [.none] n1):=⟨_,get?_update_seq el (·.push .none)⟩
 obtain⟨n2,e3⟩:∃n2,((s4.heap.update s.heap.objs.size (Obj.mapSeq (·.push .none))).update s.heap.objs.size (Obj.mapSeq (·.pop))).get? s.heap.objs.size=some (aC [] n2):=⟨_,get?_update_seq e1 (·.pop)⟩
 refine wpAny_bind (wpAny_bind (listUpdate_at el rfl (listUpdate_at e1 rfl ?_ (by rw[sizeLine_eq];simp) (by rw[sizeLine_eq];simp)) (by rw[sizeLine_eq];simp) (by rw[sizeLine_eq];simp)))
 have S5:=S4.turn (tk:=s4.toks) (.there (.there .here)) (ck (aC [] n2)) () ((Heap.SameBut.update s4.heap s.heap.objs.size (Obj.mapSeq (·.push .none))).trans (Heap.SameBut.update _ _ (Obj.mapSeq (·.pop)))) e3 fun ν ν ν ν ν=>rfl
 have hol:ord.length=xs.length:=by
  rw[hperm.length_eq,List.length_map,Array.length_toList,hsize]
 have hperm2:=hperm.trans hv2
 refine aj (hv1.perm hperm2.symm) fun ys hy1 hy2=>?_
 refine wpAny_pure ⟨plainId_quiet F.plain_extend_loop _,uE (R:=.kn (tH c a es ep ord first):: .kn (held a o)::G) hst (.tail _ (.head _)) (.head _) (by exact ω6 hol hsz rfl) (fun s' n hl' S'=>?_) ord.length 0 _ _ n2 hh (by lia) (S5.sub (.own (.there .here) (.own .here (.kn (.head _) (.kn (.tail _ (.head _)) (.drop (.drop .all)))))))⟩
 refine wpAny_bind (wpAny_load hl' ?_)
 exact wpAny_pure (h ord ys s' hy1.symm hy2 (S'.sub (.drop (.drop .all))))
end
end Mine
namespace Mine
theorem j8{α β:Type}(f:α→β)(xs:List α):∀(l:List Nat),picked (xs.map f) l=(picked xs l).map f
 | []=>rfl
 |i::l=>by
  have ih:=j8 f xs l
  unfold picked at ih⊢
  rw[List.filterMap_cons,List.filterMap_cons,List.getElem?_map]
  cases xs[i]? with
  |none=>exact ih
  |some x=>simp only[Option.map_some];rw[List.map_cons,ih]
section
variable{c:Cx}{A:Around}{L:Addr}{V V':ay}{G R:List Fa}{s:Shared}{env:Env}{t u:Tok}
theorem aa.AH{α:Type}{T:Ty α}{a:Addr}{xs:List α}{x:α}{v:Value}{E:Value→Shared→Prop}{Q:Unit→Shared→Prop}(S:aa c L V G s)(hm:bA G (.ow (own a (ai T) xs)) R)(hx:∀B,Kh R B→T.rel B v x)(hsz:xs.length≤1000)
 (h:∀s',aa c L V (.ow (own a (ai T) (xs++[x]))::R) s'→Q () s'):wpAny (model c.prog c.w) A (Builtin.List.listUpdate (.ref a) (·.push v)) Q E s:=by
 refine av (S.aQ (hm.perm.mem_iff.mpr (.head _))) fun vs n e hl S'=>?_
 obtain⟨n',e'⟩:∃n',(s.heap.update a (Obj.mapSeq (·.push v))).get? a=some (aC (vs++[v]) n'):=by
  have:=get?_update_seq e (·.push v)
  have ea:vs.toArray.push v=(vs++[v]).toArray:=by simp
  rw[ea] at this
  exact⟨_,this⟩
 refine listUpdate_at e rfl (h _ ?_) (by rw[List.size_toArray,sizeLine_eq];exact ω6 hl hsz rfl) (by rw[Array.size_push,List.size_toArray,sizeLine_eq];exact ω122 hsz hl rfl)
 have S2:=S'.turn (tk:=s.toks) (.there hm) (ai T) (xs++[x]) (Heap.SameBut.update s.heap a _) e' fun B o ν k ν=>⟨vs++[v],n',rfl,az.snoc (k.at (.head _):az (T.rel B) vs xs) (hx B fun q hq=>k q (.tail _ hq))⟩
 exact S2.sub (.own .here (.drop .all))
theorem aa.vY{α κ:Type}{T:Ty α}{TK:Ty κ}{f:κ→κ→Bool}{n:Nat}(hS:cQ c TK f n)(hO:Ord f)(kf:α→κ){a:Addr}{xs:List α}{fv:Value}{P:PySem.Fin→Shared→Prop}(S:aa c L V G s)(hm:bA G (.ow (own a (ai T) xs)) R)(hnd:(xs.map kf).Nodup)(h2:2≤xs.length)(h64:xs.length<64)(hu:A.units+n<cLine)
 (hcall:∀v x H s',x∈xs→aa c L V (.kn (is T v x)::(H++R)) s'→Wp c A (call fv [v]) (fun k s''=>aa c L V (.kn (is TK k (kf x))::(H++R)) s'') s')
 (h:∀ys s',ys.Perm xs→(ys.Pairwise fun x y=>f (kf x) (kf y)=true)→aa c L V (.ow (own a (ai T) ys)::R) s'→P (.done (.ret .none)) s'):Wp c A (ksk_tree a fv false) P s:=by
 refine av (S.aQ (hm.perm.mem_iff.mpr (.head _))) fun vs k ho hl S'=>?_
 have s1:=Heap.SameBut.update s.heap a (Obj.mapSeq fun ν=>(#[]:Array Value))
 obtain⟨e1,ho1⟩:∃e1,(s.heap.update a (Obj.mapSeq fun ν=>(#[]:Array Value))).get? a=some (seqObj "list" #[] e1):=⟨_,get?_update_seq ho fun ν=>#[]⟩
 have S1:=S'.turn (tk:=s.toks) (.there hm) (ck (seqObj "list" #[] e1)) () s1 ho1 fun ν ν ν ν ν=>rfl
 have S2:=S1.rY (o:={cls:=.type "tuple",data:=.seq vs.toArray}) (tk:=s.toks)
 have S3:=S2.push (o:=aC [] 0) (tk:=s.toks) (ai TK) [] fun ν ν=>⟨[],0,rfl,.nil⟩
 refine wpAny_bind (listItems_at ho rfl ?_)
 refine wpAny_bind (listUpdate_at ho rfl ?_ (by rw[List.size_toArray,sizeLine_eq];exact ω8 hl h64 rfl) (Nat.zero_le _))
 refine wpAny_bind (seqEpoch_at ho1 rfl ?_)
 refine wpAny_bind (wpAny_newTuple ?_ (by show vs.length≤_;rw[sizeLine_eq];exact ω8 hl h64 rfl))
 refine wpAny_bind (wpAny_newList ?_ (Nat.zero_le _))
 refine wpAny_holding ?_
 generalize hkS:((s.heap.update a (Obj.mapSeq fun ν=>(#[]:Array Value))).push {cls:=.type "tuple",data:=.seq vs.toArray}).objs.size =kS at S3
 have S3:aa c L V (.ow (own kS (ai TK) ((xs.take 0).map kf)):: .ow (own a (ck (seqObj "list" #[] e1)) ()):: .kn (rows T vs xs)::R) _:=S3
 refine wpAny_bind (wpAny_rule ?_)
 refine wpAny_bind ?_
 rw[List.forIn_toArray]
 refine wpAny_forIn_list _ (fun rest ν s'=>∃i,rest=vs.drop i∧i≤xs.length∧aa c L V (.ow (own kS (ai TK) ((xs.take i).map kf)):: .ow (own a (ck (seqObj "list" #[] e1)) ()):: .kn (rows T vs xs)::R) s') _ ?_ ?_ _ _ ⟨0,rfl,Nat.zero_le _,S3⟩
 ·intro v rest _ s' υ4;obtain⟨i,hr,hi,S⟩:=υ4
  have hlt:i<vs.length:=by
   rcases Nat.lt_or_ge i vs.length with q|q
   ·exact q
   ·rw[List.drop_of_length_le q] at hr;cases hr
  rw[List.drop_eq_getElem_cons hlt] at hr
  injection hr with hv hrest
  have hlx:i<xs.length:=by exact ω154 hlt (id (Eq.symm hl))
  refine aj (S.dX (i:=i) (x:=xs[i]) (.tail _ (.tail _ (.head _))) (List.getElem?_eq_getElem hlx)) fun v' hv' S1=>?_
  obtain rfl:v'=v:=by rw[List.getElem?_eq_getElem hlt] at hv';rw[hv];exact(Option.some.inj hv').symm
  refine wpAny_bind (wpAny_attempt (jq (wpAny_mono (hcall v' xs[i] [.ow (own kS (ai TK) ((xs.take i).map kf)),.ow (own a (ck (seqObj "list" #[] e1)) ()),.kn (rows T vs xs)] s' (List.getElem_mem hlx) S1) (fun k s'' S2=>?_) fun ν ν x=>x.elim)))
  refine wpAny_bind (S2.AH (T:=TK) (x:=kf xs[i]) (.there .here) (fun B k=>k.at (.head _)) (by simp;exact ω144 h64 rfl) fun s3 S3=>wpAny_pure ⟨i+1,hrest,hlx,?_⟩)
  have e2:(xs.take (i+1)).map kf=(xs.take i).map kf++[kf xs[i]]:=by
   rw[List.take_add_one,List.getElem?_eq_getElem hlx,List.map_append];rfl
  rw[e2]
  exact S3.sub (.own .here (.drop .all))
 ·intro _ s' υ2;obtain⟨i,hr,hi,S⟩:=υ2
  have hi':xs.length≤i:=by
   have:=congrArg List.length hr
   simp at this;lia
  rw[List.take_of_length_le hi'] at S
  refine av (S.aQ (.head _)) fun ks nk hks hkl S1=>?_
  rw[List.length_map] at hkl
  refine wpAny_bind (listItems_at hks rfl ?_)
  unfold ksk_end
  dsimp only
  have hn2:¬vs.toArray.size<2:=by rw[List.size_toArray];lia
  rw[if_neg Bool.false_ne_true,if_neg hn2,if_neg hn2]
  obtain⟨B,S2⟩:=S1
  have hr2:az (TK.rel B) ks (xs.map kf):=S2.know _ (.head _)
  refine wpAny_bind (hS.kind (B:=B) S2.keep hr2 (by exact ω200 hkl h2) fun κ hκ=>?_)
  have hmn:vs.length=(xs.map kf).length:=by rw[List.length_map];exact hl
  refine wpAny_bind (wpAny_mono (qa (f:=f) (ks:=ks) (vs:=vs) (xs:=xs.map kf) (by lia) hmn (by rw[List.length_map];exact h2) (by rw[List.length_map];exact h64) (vn hO hr2 hnd fun rv rw' ne hC=>hκ hu rv rw' ne hC) (Q:=fun st s''=>s''=s'∧∃p,Pn (xs.map kf).length p∧Up (iR f (xs.map kf)) p (xs.map kf).length∧failedOf st=none∧(arrOf st).map (·.2)=(p.toList.map fun i=>vs.getD i Value.none).toArray) fun st p h1 h2 h3 h4=>⟨rfl,p,h1,h2,h3,h4⟩) ?_ fun ν ν x=>x)
  rintro⟨⟨⟩,st'⟩ s'' ⟨rfl,p,hp,hup,hf,hout⟩
  obtain⟨q1,q2⟩:=gT rfl hp hup
  have hpm:=j8 kf xs p.toList
  have hpn:Pn xs.length p:=by rw[List.length_map] at hp;exact hp
  have q3:(picked xs p.toList).Perm xs:=by
   have h1:(picked xs p.toList).Perm (picked xs (List.range xs.length)):=hpn.filterMap _
   rwa [iu] at h1
  have q4:(picked xs p.toList).Pairwise fun x y=>f (kf x) (kf y)=true:=by
   rw[hpm,List.pairwise_map] at q2
   exact q2
  have hpl:∀i∈p.toList,i<xs.length:=fun i hi=>by simpa using hpn.mem_iff.mp hi
  have S4:aa c L V (.kn (rows TK ks (xs.map kf)):: .ow (own kS (ai TK) (xs.map kf)):: .ow (own a (ck (seqObj "list" #[] e1)) ()):: .kn (rows T vs xs)::R) s'':=⟨B,S2⟩
  unfold ksk_tail
  rw[hout]
  refine wpAny_bind (listUpdate_at hks rfl ?_ (by rw[List.size_toArray,sizeLine_eq];exact ω8 hkl h64 rfl) (Nat.zero_le _))
  have S5:=S4.lose (tk:=s''.toks) (.there .here) (Heap.SameBut.update s''.heap kS (Obj.mapSeq fun ν=>(#[]:Array Value))).extBut
  refine av (S5.get (.tail _ (.head _))) fun ν0 oa ea ra ν4=>?_
  have ea:(s''.heap.update kS (Obj.mapSeq fun ν=>(#[]:Array Value))).get? a=some (seqObj "list" #[] e1):=by rw[ea,show oa=_ from ra]
  refine wpAny_bind (wpAny_letGo ?_)
  refine wpAny_bind (seqEpoch_at ea rfl ?_)
  have hsz:((p.toList.map fun i=>vs.getD i Value.none).toArray).size≤sizeLine:=by
   rw[List.size_toArray,List.length_map,Array.length_toList,hpn.size,sizeLine_eq];exact ω3 h64 rfl
  refine wpAny_bind (listUpdate_at ea rfl ?_ (Nat.zero_le _) (Nat.le_succ_of_le hsz))
  rw[hf]
  rw[bne_self_eq_false,if_neg Bool.false_ne_true]
  refine wpAny_pure (h (picked xs p.toList) _ q3 q4 ?_)
  have S6:=S5.turn (tk:=s''.toks) (.there .here) (ai T) (picked xs p.toList) (Heap.SameBut.update _ a (Obj.mapSeq fun ν=>(p.toList.map fun i=>vs.getD i Value.none).toArray)) (get?_update_seq ea fun ν=>(p.toList.map fun i=>vs.getD i Value.none).toArray) fun B' ν ν kh ν=>⟨p.toList.map fun i=>vs.getD i Value.none,_,rfl,gV (kh.at (.tail _ (.head _)):az (T.rel B') vs xs) _ hpl⟩
  exact S6.sub (.own .here (.drop (.drop .all)))
theorem aa.qx{κ:Type}{TK:Ty κ}{f:κ→κ→Bool}{n:Nat}(hS:cQ c TK f n)(hO:Ord f)(kf:Tx→κ){a q:Addr}{xs:List Tx}{Q:Value→Shared→Prop}(hh:A.handled=none)(S:aa c L V G s)(hm: .kn (is (Ty.ref (bQ c)) (.ref a) xs)∈G)(hnd:(xs.map kf).Nodup)(h2:2≤xs.length)(h64:xs.length<64)(hu:A.units+(n+2)<cLine)
 (hcall:∀v x H s',x∈xs→aa c L V (.kn (is ah v x)::(H++G)) s'→Wp c A.in1.in1 (call (.ref q) [v]) (fun k s''=>aa c L V (.kn (is TK k (kf x))::(H++G)) s'') s')
 (h:∀l ys s',ys.Perm xs→(ys.Pairwise fun x y=>f (kf x) (kf y)=true)→aa c L V (.ow (own l (ai ah) ys)::G) s'→Q (.ref l) s'):Wp c A (call (.builtin "sorted") [.ref a] [(Str.ofString "key",.ref q)]) Q s:=by
 refine call_function_entry_kw kind_sorted plain_sorted entry_sorted (ksk_s1 _ _) ?_
 refine wpAny_bind (m:=checkCount "sorted" 1 1 _) (wpAny_pure ?_)
 refine wpAny_bind (S.qk (A:=A.in1) hh hm h2 (by exact ω3 h64 rfl) fun vs ys s1 hp hv S1=>?_)
 have hyl:ys.length=xs.length:=hp.length_eq
 refine wpAny_bind (wpAny_newList ?_ (by show vs.length≤_;rw[hv.length,sizeLine_eq];exact ω8 hyl h64 rfl))
 have S2:=S1.push (tk:=s1.toks) (o:=aC vs 0) (ai ah) ys fun B ν=>⟨vs,0,rfl,hv⟩
 have hoL:(s1.heap.push (aC vs 0)).get? s1.heap.objs.size=some (aC vs 0):=Heap.get?_push_size _ rfl
 refine wpAny_bind (wpAny_holding (wpAny_call_entry_kw slot_list_sort ⟨_,hoL,rfl⟩ entry_list_sort ?body (ksk_l1 _ _)))
 rw[ksk_t1]
 refine S2.vY hS hO kf .here ((hp.map kf).nodup_iff.mpr hnd) (by exact ω200 hyl h2) (by exact ω168 h64 hyl) (by show A.units+1+1+n<_;exact ω77 (ω77 hu)) (fun v x H s' hx S'=>hcall v x H s' (hp.mem_iff.mp hx) S') fun zs s3 p1 p2 S3=>⟨_,rfl,wpAny_pure ⟨_,rfl,?_⟩⟩
 exact h _ zs s3 (p1.trans hp) p2 S3
end
end Mine
namespace Mine
structure zk(c:Cx):Prop where
 code:CodeHd c.hG 125 123
 bmain:∃bm ob,c.mg "__builtins__"=some (.ref bm)∧bm≠builtinsNs∧c.hG.get? bm=some ob∧ob.cls= .type "module"∧ob.dict=some builtinsNs∧ob.data= .plain
noncomputable def j5:Tb Unit:=⟨fun ν o ν=>∃ps,o=tabObj ps,fun ν r=>r,fun⟨_,e⟩=>e▸rfl⟩
noncomputable def sd(qual:Str):Tb Unit:=⟨fun ν o ν=>∃(vs:Array Value) (t:Tok),o.data= .fields vs∧vs[1]?=some (Value.str qual t),fun ν r=>r,fun⟨_,_,h,_⟩=>gj h⟩
section
variable{c:Cx}{A:Around}{L:Addr}{V V':ay}{G R:List Fa}{s:Shared}{env:Env}{t u:Tok}
theorem aa.lam(g:cg c)(l:zk c)(S:aa c L V G s)(hm:bA G (.ow (own 123 (ck (tabObj #[])) ())) R){params:Arguments}{body:Expr}{scope:Scope}{pos:Pos}{Q:Value→Shared→Prop}(hcode:env.code= .ref 125)(hge:env.globals=mainGlobals)(hcl:closureFor scope env=pure [])
 (hdef:defaultsOf params env=([],[]))
 (h:∀f cc pm ctv s',aa c L V (.kn (held f {cls:=.type "function",data:=.func (kla_fn "<lambda>" (env.qual++"<lambda>") params body scope [] pm (.ref cc) ctv)}):: .kn (is (Ty.ref (sd (env.qual++"<lambda>"))) (.ref cc) ()):: .ow (own 123 j5 ())::R) s'→Q (.ref f) s'):
 Wp c A (eval (.Lambda params body scope pos) env) Q s:=by
 rw[arm_eval_Lambda,hdef]
 refine wpAny_bind (wpAny_pure ?_)
 refine wpAny_bind (wpAny_holding (wpAny_pure ?_))
 have S0:=S.front hm
 refine av (S0.get (.head _)) fun ν0 oP eP rP ν4=>?_
 have eP:s.heap.get? 123=some (tabObj #[]):=by rw[eP,show oP=_ from rP]
 have hG:∀b o,c.hG.get? b=some o→s.heap.get? b=some o:=fun b o e=>S.ground e
 have hn:c.hG.get? 123=none:=by
  cases e:c.hG.get? 123 with
  |none=>rfl
  |some o=>
   obtain⟨B,S1⟩:=S0
   refine bL (S1.own _ (.head _)) fun ν0 ν1 h1 ν3=>?_
   have:=S1.base _ _ e
   rw[show(own 123 (ck (tabObj #[])) ()).a =123 from rfl] at h1
   rw[h1] at this;cases this
 refine vj l.bmain fun bm ob b1 b2 b3 b4 b5 b6=>?_
 have hgP:mainGlobals≠123:=fun q=>by
  refine gh g.g fun o es ep e hd ν5=>?_
  rw[q,hn] at e;cases e
 have hbP:bm≠123:=fun q=>by rw[q,hn] at b3;cases b3
 have hbG:bm≠mainGlobals:=fun q=>by
  refine gh g.g fun o es ep e hd ν5=>?_
  rw[q,e] at b3;cases b3;rw[hd] at b6;cases b6
 refine wt (kla_makeFunction (c:=125) (P:=123) (mg:=c.mg) hcl hge (g.g.keeps hG) hcode (l.code.keeps hG) eP ?_ ?_ hgP ⟨bm,ob,b1,b2,hbG,hbP,hG _ _ b3,b4,b5,b6⟩ fun c' ctv h' tk hx hc1 hc2 hrec htab ht=>?_)
 ·exact trivial
 ·rfl
 refine fK hrec fun c₂ oc vs t e2 hoc hd hv=>?_;try clear hrec
 cases e2
 have S1:=S0.nI (tk:=tk) .here j5 () (sd (env.qual++"<lambda>")) () hx htab hc1 hoc (fun ν ν ν ν ν=>⟨_,rfl⟩) (fun ν ν=>⟨vs,t,hd,hv⟩) ht
 have S2:=S1.freeze .here
 have S3:=S2.push (tk:=tk) (o:={cls:=.type "function",data:=.func (kla_fn "<lambda>" (env.qual++"<lambda>") params body scope [] ((c.mg "__name__").getD .none) (.ref c') ctv)}) (ck {cls:=.type "function",data:=.func (kla_fn "<lambda>" (env.qual++"<lambda>") params body scope [] ((c.mg "__name__").getD .none) (.ref c') ctv)}) () fun ν ν=>rfl
 have S4:=S3.freeze .here
 refine h _ c' ((c.mg "__name__").getD .none) ctv _ ((S4.add (held h'.objs.size _) fun B k=>?_).sub (.kn (.head _) (.drop (.drop (.kn (.head _) (.drop (.own .here .all)))))))
 refine fO (k.at (k:=is (Ty.ref (ck {cls:=.type "function",data:=.func (kla_fn "<lambda>" (env.qual++"<lambda>") params body scope [] ((c.mg "__name__").getD .none) (.ref c') ctv)})) (.ref h'.objs.size) ()) (.head _)) fun a' o' e ν3 ho' r=>?_
 cases e
 rw[show o'=_ from r] at ho'
 exact ho'
theorem uO{n:Nat}{f cc:Addr}{qual:Str}{params:Arguments}{body:Expr}{scope:Scope}{pm ctv:Value}{args:Args}{binds:List (Str×Value)}{Q:Value→Shared→Prop}
 (g:cg c) (S:aa c L V G s) (ok:Ok A (n+1)) (ho: .kn (held f {cls:=.type "function",data:=.func (kla_fn "<lambda>" qual params body scope [] pm (.ref cc) ctv)})∈G) (hcd: .kn (is (Ty.ref (sd qual)) (.ref cc) ())∈G)
 (hbind:bindArgs (kla_fn "<lambda>" qual params body scope [] pm (.ref cc) ctv) args=pure binds)
 (hnd:(scope.names.map (·.1)).Nodup) (hkind:(binds.all fun x=>scope.names.lookup x.1==some .local ||scope.names.lookup x.1==some .cell)=true)
 (hV:cN scope.names (bindL (fun x=>scope.names.lookup x) binds fun ν=>none)=V')
 (hC:∀L',aG (cellsFrom (L'+1) scope.names []) (bindC (fun x=>scope.names.lookup x) binds fun ν=>none) scope.names=[])
 (h:∀L' s',aa c L' V' (.ow (own L bC V)::G) s'→Ok (A.deeper (envOfC qual scope L' f (.ref cc))) n→
   Wp c (A.deeper (envOfC qual scope L' f (.ref cc))) (eval body (envOfC qual scope L' f (.ref cc))) Q s')
 (hco:autoParam (scope.isCoroutine=false) af) (hgen:autoParam (scope.isGenerator=false) af) (hk:autoParam (scope.kind= .function) af):
 Wp c A (call (.ref f) args.pos args.kw) Q s:=by
 refine wpAny_call ?_
 have hG:∀b o,c.hG.get? b=some o→s.heap.get? b=some o:=fun b o e=>S.ground e
 have hrec:s.heap.CodeRec (.ref cc) qual:=by
  refine aj (S.inst hcd) fun B π31 hk=>?_;obtain⟨a,o,e,_,hoB,vs,t,hd,hv⟩:=π31
  cases e
  exact⟨cc,o,vs,t,rfl,hk _ _ hoB,hd,hv⟩
 refine kla_callFunE ok.room (S.aF ho) rfl hco hgen rfl hrec ?_
 rw[hbind]
 refine wpAny_pure ?_
 refine wpAny_with_toks (n:=s.toks) (Nat.le_refl _) (wpAny_mono (wpAny_newFunctionEnv_cells (Q:=fun env s'=>s.toks≤s'.toks→s'.heap.NoLimit∧codeAny (model c.prog c.w) A (.expr body env) _ s') hk (fun x hx=>?_) fun env he s' X ht=>?_) (fun ν ν x=>x) fun ν ν x=>fun ν=>x)
 ·have:=List.all_eq_true.mp hkind x hx
  rcases Bool.or_eq_true _ _▸this with q|q
  ·exact .inl (eq_of_beq q)
  ·exact .inr ⟨eq_of_beq q,cellsFrom_some _ _ _ _ (.inr (eq_of_beq q))⟩
 ·subst he
  refine⟨(g.nolimit.keeps hG).keeps X.toInCall.keep,kla_codeExpr ?_⟩
  have S':=S.lH (ns:=scope.names) hnd X ht
  have e1:cN scope.names (bindL (Env.kindOf (newEnv scope s.heap.objs.size mainGlobals (cellsFrom (s.heap.objs.size+1) scope.names []) (qual++".<locals>.") (some f) (.ref cc) none builtinsNs)) binds fun ν=>none)=V':=hV
  have e2:aG (cellsFrom (s.heap.objs.size+1) scope.names []) (bindC (Env.kindOf (newEnv scope s.heap.objs.size mainGlobals (cellsFrom (s.heap.objs.size+1) scope.names []) (qual++".<locals>.") (some f) (.ref cc) none builtinsNs)) binds fun ν=>none) scope.names=[]:=hC _
  have key:∀C0,aG (cellsFrom (s.heap.objs.size+1) scope.names []) (bindC (Env.kindOf (newEnv scope s.heap.objs.size mainGlobals (cellsFrom (s.heap.objs.size+1) scope.names []) (qual++".<locals>.") (some f) (.ref cc) none builtinsNs)) binds fun ν=>none) scope.names=C0→aa c s.heap.objs.size V' (aI C0++ .ow (own L bC V)::G) s':=by
   intro _ υ1;obtain rfl:=υ1;rw[←e1];exact S'
  have S'':aa c s.heap.objs.size V' (.ow (own L bC V)::G) s':=key _ e2
  exact wpAny_mono (h _ s' S'' (ok.deeper _)) (fun ν ν x=>x) fun ν ν x=>x.elim
end
end Mine
namespace Mine
theorem gc:Slot "method_descriptor" "__get__" "method_descriptor.__get__":=
 .of (owner:="method_descriptor") (n:="__get__") (by rw[typeLookup_type,builtinLookup_eq_fast];kernel_rfl) (by decide+kernel) (by decide+kernel) (by decide+kernel)
  (by first|exact .inl (by decide+kernel)|exact .inr (by decide+kernel)) (by rw[isSubtype_type];kernel_rfl)
theorem ou:entryFor table "method_descriptor.__get__"=some Builtin.«method_descriptor.__get__»:=entryFor_of_tree (by kernel_rfl)
theorem o7(a b c:Value):argsOk "method_descriptor.__get__" ⟨[a,b,c],[]⟩:=by unfold argsOk;kernel_rfl
theorem sV:typeLookup (.type "method_descriptor") "__set__"=pure none:=by rw[typeLookup_type,builtinLookup_eq_fast];kernel_rfl
theorem sL:typeLookup (.type "method_descriptor") "__delete__"=pure none:=by rw[typeLookup_type,builtinLookup_eq_fast];kernel_rfl
theorem yf:Manifest.toldItsClass.contains "list.append"=false:=by decide+kernel
theorem zI:Manifest.signature? "list.append"=some ⟨.oneArg,"list.append","append",.self,[⟨"object",.posOnly,true⟩]⟩:=by kernel_rfl
theorem wU:builtinKind "list.append"=some .method:=by kernel_rfl
noncomputable def cM(a:Addr):Obj:={cls:=.type "builtin_function_or_method",data:=.fields #[.builtin "list.append",.ref a]}
section
variable{prog:Program}{w:World}{A:Around}{E:Value→Shared→Prop}{h:Heap}{g:Array GenState}{d:Drawn}{t:Nat}{os:OsState}{a:Addr}{o:Obj}
theorem pn{R:Result→Shared→Prop}(hx:h.get? a=some o)(hc:o.cls= .type "list")(hq:R (.ok (.ret (.ref h.objs.size))) ⟨h.push (cM a),g,d,t,os⟩):
 codeAny (model prog w) A (.call (.builtin "method_descriptor.__get__") ⟨[.builtin "list.append",.ref a,.type "list"],[]⟩) R ⟨h,g,d,t,os⟩:=by
 have hT:(⟨h,g,d,t,os⟩:Shared).TypeIs (.ref a) "list":=⟨_,hx,hc⟩
 have hT5:(⟨h,g,d,t,os⟩:Shared).TypeIs (.builtin "list.append") "method_descriptor":=F.type_list_append
 refine codeAny_call_builtin gc.plain ou (gc.check _ _ _ _ _ _ _ _ hT5 (o7 _ _ _) ?_)
 refine wpAny_bind (wpAny_of_eq (a:=(.builtin "list.append",some (.ref a),some (.type "list"))) (by first|rfl|kernel_rfl) ?_)
 dsimp only
 rw[yf,if_neg Bool.false_ne_true]
 have hsub:isSubtype (.type "list") (.type (".".intercalate ("list.append".cutAt '.').dropLast))=pure true:=by
  rw[show(".".intercalate ("list.append".cutAt '.').dropLast)="list" from by decide+kernel,isSubtype_type];kernel_rfl
 repeat (any_goals (first|assumption|wp_step))
theorem nV{tk:Tok}{vs:List Value}{n:Nat}{Q:PySem.Fin→Shared→Prop}(hx:h.get? a=some (aC vs n))(hq:Q (.done (.ret (.ref h.objs.size))) ⟨h.push (cM a),g,d,t,os⟩):
 wpAny (model prog w) A (Builtin.«object.__getattribute__» ⟨[.ref a,.str "append" tk],[]⟩) Q E ⟨h,g,d,t,os⟩:=by
 have hT:(⟨h,g,d,t,os⟩:Shared).TypeIs (.ref a) "list":=⟨_,hx,rfl⟩
 have hT5:(⟨h,g,d,t,os⟩:Shared).TypeIs (.builtin "list.append") "method_descriptor":=F.type_list_append
 have f4:=F.slot_list_append.lookup
 have f5:=F.type_list_append
 have f6:=gc.lookup
 have f7:=sV
 have f8:=sL
 repeat (any_goals (first|assumption|wp_step))
 repeat (any_goals (first|assumption|wp_step))
 exact pn hx rfl (wpAny_pure hq)
theorem sR{tk:Tok}{vs:List Value}{n:Nat}{ex:Bool}{Q:Value→Shared→Prop}(hx:h.get? a=some (aC vs n))(hq:Q (.ref h.objs.size) ⟨h.push (cM a),g,d,t,os⟩):
 wpAny (model prog w) A (getAttrBy (.ref a) (.str "append" tk) true ex) Q E ⟨h,g,d,t,os⟩:=by
 have hT:(⟨h,g,d,t,os⟩:Shared).TypeIs (.ref a) "list":=⟨_,hx,rfl⟩
 have f2:=F.slot_list_getattribute.lookup
 have f3:=F.slot_list_getattribute.bind (.ref a)
 repeat (any_goals (first|assumption|wp_step))
 rw[show(ex&&onTheHeap (Value.builtin "list.__getattribute__"))=false from by cases ex <;> rfl,if_neg (by decide)]
 repeat (any_goals (first|assumption|wp_step))
 refine codeAny_call_builtin F.slot_list_getattribute.plain F.entry_list_ga (F.slot_list_getattribute.check _ _ _ _ _ _ _ _ (show(⟨h,g,d,t,os⟩:Shared).TypeIs (.ref a) "list" from⟨_,hx,rfl⟩) (F.args_list_getattribute_2 _ _) (nV hx ?_))
 repeat (any_goals (first|assumption|wp_step))
theorem uw{vs:List Value}{n:Nat}{v:Value}{Q:Unit→Shared→Prop}(hx:h.get? a=some (aC vs n))(hq:Q () ⟨h,g,d,t,os⟩):
 wpAny (model prog w) A (checkBoundCall "list.append" ⟨[.ref a,v],[]⟩) Q E ⟨h,g,d,t,os⟩:=by
 have hT:(⟨h,g,d,t,os⟩:Shared).TypeIs (.ref a) "list":=⟨_,hx,rfl⟩
 unfold checkBoundCall
 rw[zI]
 rw[wU]
 dsimp only
 rw[if_neg (by decide)]
 have hm:isSubtype (.type "list") (.type "module")=pure false:=by rw[isSubtype_type];kernel_rfl
 refine wpAny_bind ?_
 repeat (any_goals (first|assumption|wp_step))
theorem wK{as:Args}:(Code.builtin "list.append" as).quiet =true:=Code.quiet_builtin _ (by decide+kernel)
theorem wF:entryFor table "list.append"=some Builtin.«list.append»:=entryFor_of_tree (by kernel_rfl)
end
section
variable{c:Cx}{A:Around}{L:Addr}{V V':ay}{G R:List Fa}{s:Shared}{env:Env}{t u:Tok}
theorem aa.x8{α:Type}{T:Ty α}{a:Addr}{xs:List α}{ex:Bool}{Q:Value→Shared→Prop}(S:aa c L V G s)(hm: .ow (own a (ai T) xs)∈G)
 (h:∀q s',aa c L V (.kn (held q (cM a))::G) s'→Q (.ref q) s'):Wp c A (getAttr (.ref a) "append" ex) Q s:=by
 refine wpAny_bind (wpAny_mkText ?_)
 obtain⟨_,o,ho,⟨vs,n,rfl,_⟩,_⟩:=S.get hm
 obtain⟨hh,gg,d,tk,os⟩:=s
 refine sR ho ?_
 have S1:aa c L V (.ow (own hh.objs.size (ck (cM a)) ())::G) ⟨hh.push (cM a),gg,d,tk+1,os⟩:=S.push (tk:=tk+1) (ck (cM a)) () fun ν ν=>rfl
 refine h hh.objs.size _ (aa.sub (aa.add (aa.freeze S1 .here) (held hh.objs.size (cM a)) fun B k=>?_) (.kn (.head _) (.drop (.drop .all))))
 refine fO (k.at (k:=is (Ty.ref (ck (cM a))) (.ref hh.objs.size) ()) (.head _)) fun a' o e ν3 ho r=>?_
 cases e
 have r:o=cM a:=r
 rw[r] at ho;exact ho
theorem aa.Bd{α:Type}{T:Ty α}{a q:Addr}{xs:List α}{x:α}{v:Value}{Q:Value→Shared→Prop}(S:aa c L V G s)(hm:bA G (.ow (own a (ai T) xs)) R)(hq: .kn (held q (cM a))∈R)(hx:∀B,Kh R B→T.rel B v x)(hsz:xs.length≤1000000)
 (h:∀s',aa c L V (.ow (own a (ai T) (xs++[x]))::R) s'→Q .none s'):Wp c A (call (.ref q) [v]) Q s:=by
 have hq': .kn (held q (cM a))∈G:=hm.perm.mem_iff.mpr (.tail _ hq)
 have hb:=S.aF hq'
 refine av (S.aQ (hm.perm.mem_iff.mpr (.head _))) fun vs n e hl S'=>?_
 refine wpAny_call (codeAny_of_tree ?_)
 show wpAny _ A.in1 (callAny (.ref q) ⟨[v],[]⟩) _ _ s
 rw[callAny]
 refine wpAny_bind (wpAny_load hb ?_)
 dsimp only[cM]
 refine KFB.if_so (by decide) ?_
 obtain⟨hh,gg,d,tk,os⟩:=s
 refine wpAny_bind (uw e ?_)
 refine wpAny_bind (wpAny_pure (wpAny_pure ?_))
 refine⟨wK,codeAny_builtin wF ?_⟩
 show wpAny _ _ (updateSeq a (·.push v)>>=fun ν=>ret .none) _ _ _
 refine wpAny_bind ?_
 refine wpAny_updateSeq e rfl (wpAny_pure (h _ ?_))
 have hs:=Heap.SameBut.update hh a (Obj.mapSeq (·.push v))
 have e':(hh.update a (Obj.mapSeq (·.push v))).get? a=some (aC (vs++[v]) (n+1)):=by
  rw[Heap.get?_update_self _ e (by rw[Obj.mapSeq_push_plain];rfl),Obj.mapSeq_push_plain,List.push_toArray]
 have S2:=S'.turn (tk:=tk) (.there hm) (ai T) (xs++[x]) hs e' fun B o ν k ν=>⟨vs++[v],n+1,rfl,az.snoc (k.at (.head _):az (T.rel B) vs xs) (hx B fun q hq=>k q (.tail _ hq))⟩
 exact S2.sub (.own .here (.drop .all))
theorem yb{M:Model}{q a:Addr}(h:Heap)(X:h.get? q=some (cM a)):∃k,(k=Keeper.frame∨k=Keeper.machine∨k=Keeper.boundFrame)∧Looks M h (keeperOf (.ref q)) k:=
 ⟨.machine,.inr (.inl rfl),(Looks.ld (part:=none) X).andThen .now⟩
theorem Aj{e:Expr}{id:Str}{p pos:Pos}{a q:Addr}{Q:Value→Shared→Prop}
 (hn:Wp c A (eval (.Name id p) env) (fun v s₁=>v= .ref q∧Wp c A (eval e env) (fun v s₂=>s₂.heap.get? q=some (cM a)∧Wp c A (call (.ref q) [v]) Q s₂) s₁) s)
 (he:autoParam (starEach [e] env=(false,eval e env)::starEach [] env) af):Wp c A (eval (.Call (.Name id p) [e] [] pos) env) Q s:=by
 show Wp c A (eval (.Name id p) env>>=fun f=>callWith pos f [] (backTo pos (starEach [e] env)) (backToKw pos (keywordEach [] env))) Q s
 refine wpAny_bind (wpAny_mono hn (fun v s₁ h₁=>?_) fun ν ν x=>x)
 obtain⟨rfl,h₁⟩:=h₁
 refine callWith_of (P:=fun h=>h.get? q=some (cM a)) (by rw[he];rfl) (fun h X=>yb h X) ?_
 rw[he]
 refine Calls.evalArgs_plain ?_
 refine Calls.spliced_cons (wpAny_mono h₁ (fun v s₂ h₂=>?_) fun ν ν x=>x)
 exact Calls.spliced_nil h₂
theorem aa.zS(g:cg c){x dx f:Addr}{AV:bU}{name:Str}{ex:Bool}{Q:Value→Shared→Prop}(S:aa c L V G s)(hx: .kn (held x (aU dx))∈G)(hd: .ow (own dx aR AV)∈G)(hn:AV.lookup name=none)
 (hs:findIn (aO c) (.ref 150) name=some (some (.ref f))) (hf:typeIn (aO c) (.ref f)=some (.type "function")) (hg:specialIn (aO c) (.ref f) "__get__"=some (some (.builtin "function.__get__"))) (ht:takesIn (aO c) (.ref f)=some false) (hc:copiedNames.contains name=false)
 (h:∀q s',aa c L V (.kn (held q (methodObj (.ref f) (.ref x)))::G) s'→Q (.ref q) s'):Wp c A (getAttr (.ref x) name ex) Q s:=by
 refine av (S.nF hx hd) fun es n I he hr=>?_
 have hhd:hasDictIn (aO c) 150=true:=by kernel_rfl
 refine get_bind (g.oK S) I (fy c).get (findObj_fn hhd hs hg ht hc (by rw[lookIn_dict,oh hr name,hn])) (fy c).noget ?_
 have S0:=S.toks (tk:=s.toks+1)
 refine wpAny_call (fn_get (s:={s with toks:=s.toks+1}) (g.oK S0) hf (handed_on rfl ?_))
 have S1:aa c L V (.ow (own s.heap.objs.size (ck (methodObj (.ref f) (.ref x))) ())::G) {s with heap:=s.heap.push (methodObj (.ref f) (.ref x)),toks:=s.toks+1}:=S.push (tk:=s.toks+1) (ck (methodObj (.ref f) (.ref x))) () fun ν ν=>rfl
 refine h s.heap.objs.size _ (aa.sub (aa.add (aa.freeze S1 .here) (held s.heap.objs.size (methodObj (.ref f) (.ref x))) fun B k=>?_) (.kn (.head _) (.drop (.drop .all))))
 refine fO (k.at (k:=is (Ty.ref (ck (methodObj (.ref f) (.ref x)))) (.ref s.heap.objs.size) ()) (.head _)) fun a' o e ν3 ho r=>?_
 cases e
 have r:o=methodObj (.ref f) (.ref x):=r
 rw[r] at ho;exact ho
theorem yV(g:cg c){e:Expr}{id:Str}{p pos:Pos}{q f x:Addr}{Q:Value→Shared→Prop}(hf:fnIn (aO c) f=true)
 (hn:Wp c A (eval (.Name id p) env) (fun v s₁=>v= .ref q∧Wp c A (eval e env) (fun v s₂=>(∃L V G,aa c L V G s₂∧.kn (held q (methodObj (.ref f) (.ref x)))∈G)∧codeAny (model c.prog c.w) A (.call (.ref f) ⟨[.ref x,v],[]⟩) (fun r s'=>match r with | .ok (.ret v)=>Q v s'| .ok _=>False| .error _=>False) s₂) s₁) s)
 (he:autoParam (starEach [e] env=(false,eval e env)::starEach [] env) af):Wp c A (eval (.Call (.Name id p) [e] [] pos) env) Q s:=by
 show Wp c A (eval (.Name id p) env>>=fun f=>callWith pos f [] (backTo pos (starEach [e] env)) (backToKw pos (keywordEach [] env))) Q s
 refine wpAny_bind (wpAny_mono hn (fun v s₁ h₁=>?_) fun ν ν x=>x)
 obtain⟨rfl,h₁⟩:=h₁
 refine callWith_of (P:=MethP (aO c) q f (.ref x)) (by rw[he];rfl) (keeps_M hf) ?_
 rw[he]
 refine Calls.evalArgs_plain ?_
 refine Calls.spliced_cons (wpAny_mono h₁ (fun v s₂ h₂=>?_) fun ν ν x=>x)
 obtain⟨⟨_,_,_,S,hm⟩,h₂⟩:=h₂
 refine Calls.spliced_nil ⟨⟨S.aF hm,g.oK S⟩,?_⟩
 exact wpAny_call (method_call (S.aF hm) h₂)
end
end Mine
namespace Mine
section
variable{c:Cx}{A:Around}{L C:Addr}{V V' VC:ay}{G R:List Fa}{s:Shared}{env cenv:Env}{t u:Tok}
theorem aa.newD{β:Type}{Q:Value→Shared→Prop}(T:Ty β)(S:aa c L V G s)(h:∀a s',aa c L V (.ow (own a (aK c T) [])::G) s'→Q (.ref a) s'):Wp c A newDict Q s:=by
 refine wpAny_newObj_type (h _ _ (S.push (aK c T) [] fun B k=>⟨[],?_,.nil⟩))
 refine aj (Heap.dictOf_iff.mp (Heap.DictOf.new (knd:=PySem.strKind c.prog c.w) ⟨#[],{}⟩)) fun o ho x=>?_
 have e:(⟨#[],{}⟩:Heap).push {cls:=.type "dict",data:=.dict #[]}=(⟨#[{cls:=.type "dict",data:=.dict #[]}],{}⟩:Heap):=rfl
 rw[e] at ho
 cases ho
 exact x
theorem aa.Bh{β:Type}{T:Ty β}{d:Addr}{xs:List (Tx×β)}{k:Tx}{y:β}{v:Value}{Q:Unit→Shared→Prop}(S:aa c L V G s)(hm:bA G (.ow (own d (aK c T) xs)) R)(hy:∀B,Kh R B→T.rel B v y)(hsz:xs.length≤1000000)
 (h:∀s',aa c L V (.ow (own d (aK c T) (put xs k y))::R) s'→Q () s'):Wp c A (dictSet d (.str (tx k) t) v) Q s:=by
 refine fO (S.gF (hm.perm.mem_iff.mpr (.head _))) fun o kvs e hD hl S'=>?_
 refine wpAny_dictSet_pairs (strKind_is _ _ _ _) (aM hD e) (fun h' hd' hs=>h _ ?_) (by rw[hl];unfold sizeLine;lia)
 refine aj (Heap.dictOf_iff.mp hd') fun o' e' x=>?_
 have S2:=S'.turn (tk:=s.toks+1) (.there hm) (aK c T) (put xs k y) hs e' fun B ν ν kh ν=>⟨_,x,kT (kh.at (.head _):az (dc T B) kvs xs) k (hy B fun q hq=>kh q (.tail _ hq))⟩
 exact S2.sub (.own .here (.drop .all))
theorem vV{α β:Type}{T:Ty α}{xs:List α}{F:Nat→List Fa}{Z:List Fa}{it:Value}{kx vx target iter:Expr}{scope:Scope}{cl:List (Str×Addr)}{pos:Pos}{use:Option (Value→Sem Unit)}{Q:Value→Shared→Prop}
 (src:ig c it target T xs F Z) (hh:A.handled=none) (U:Ty β) (out:List α→List (Tx×β)) (I:Addr→List α→ay→List Fa→Prop) (S:aa c L V (F 0++G) s) (hout:out []=[]) (hsz:∀l,l.length≤xs.length→(out l).length≤1000000)
 (h0:∀C,∃G',I C [] (bN scope.names) G'∧Sub (aI (aG (cellsFrom (C+1) scope.names []) (fun ν=>none) scope.names)++G) G')
 (step:∀C a done x rest VC G' X v s,xs=done++x::rest→I C done VC G'→aa c C VC (.kn (is T v x):: .ow (own a (aK c U) (out done)):: .ow (own L bC V)::(G'++X)) s→
   Wp c A (assign target (aN scope cl C env) v) (fun ν s₂=>
    Wp c A (eval kx (aN scope cl C env)) (fun kv s₃=>Wp c A (eval vx (aN scope cl C env)) (fun y s₄=>∃VC' G'' z k tk,kv= .str (tx k) tk∧out (done++[x])=put (out done) k z∧I C (done++[x]) VC' G''∧aa c C VC' (.kn (is U y z):: .ow (own a (aK c U) (out done)):: .ow (own L bC V)::(G''++X)) s₄) s₃) s₂) s)
 (hend:∀C a VC G' s',I C xs VC G'→aa c L V (.ow (own C bC VC):: .ow (own a (aK c U) (out xs))::(Z++G')) s'→bh c A L use Q (.ref a) C s'):
 Wp c A newDict (fun acc s₃=>∃L V G,aa c L V G s₃∧∀C s₄,aa c C (bN scope.names) (aI (aG (cellsFrom (C+1) scope.names []) (fun ν=>none) scope.names)++ .ow (own L bC V)::G) s₄→
  codeAny (model c.prog c.w) A (.compStart (.DictComp kx vx [⟨target,iter,[],0⟩] scope pos) 0 it acc (aN scope cl C env)) (fun r s₅=>r= .ok .next∧bh c A L use Q acc C s₅) s₄) s:=by
 have hL:=S.above
 refine S.newD U fun a s₃ S₃=>⟨L,V,_,S₃,fun C s₄ S₄=>?_⟩
 refine aj (h0 C) fun G0 hI0 hsub=>?_
 have S5:aa c C (bN scope.names) (F 0++(.ow (own a (aK c U) (out [])):: .ow (own L bC V)::G0)) s₄:=by
  rw[hout]
  have p1:(aI (aG (cellsFrom (C+1) scope.names []) (fun ν=>none) scope.names)++ .ow (own L bC V):: .ow (own a (aK c U) [])::(F 0++G)).Perm (F 0++(.ow (own a (aK c U) []):: .ow (own L bC V)::(aI (aG (cellsFrom (C+1) scope.names []) (fun ν=>none) scope.names)++G))):=by
   refine List.perm_middle.trans ?_
   refine(List.Perm.cons _ List.perm_middle).trans ?_
   refine(List.Perm.swap ..).trans ?_
   refine List.Perm.trans (List.Perm.cons _ (List.Perm.cons _ ?_)) ((List.perm_middle.trans (List.Perm.cons _ List.perm_middle)).symm)
   rw[←List.append_assoc,←List.append_assoc]
   exact List.Perm.append_right _ List.perm_append_comm
  have h1:=S₄.perm p1
  refine h1.sub (Sub.ia ?_)
  exact .own .here (.own .here hsub)
 have loop:codeAny (model c.prog c.w) A (.compLoop (.DictComp kx vx [⟨target,iter,[],0⟩] scope pos) 0 it (.ref a) (aN scope cl C env)) (fun r s₅=>r= .ok .next∧bh c A L use Q (.ref a) C s₅) s₄:=by
  refine jk (g:=⟨target,iter,[],0⟩) src.src hh (sy ..) (fun ν ν=>rfl) (Around.under_of_weight rfl) rfl
   (fun done VC G'=>∃G'',I C done VC G''∧G'= .ow (own a (aK c U) (out done)):: .ow (own L bC V)::G'') S5 ⟨_,⟨_,hI0,rfl⟩,.all⟩ ?_ ?_
  ·intro done x rest VC _ X v s₆ ex υ9 S₆;obtain⟨G',hI,rfl⟩:=υ9
   refine wpAny_mono (step C a done x rest VC G' X v s₆ ex hI S₆) (fun ν s₇ h₇=>qG ?_) fun ν ν x=>x
   rw[if_pos rfl]
   refine wpAny_bind (wpAny_mono h₇ (fun kv s₈ h₈=>?_) fun ν ν x=>x)
   refine wpAny_bind (wpAny_holding (wpAny_mono h₈ (fun y s₉ h₉=>?_) fun ν ν x=>x))
   refine Bx h₉ fun VC' G'' z k tk π95 eo hI' S₉=>?_;try clear h₉;rcases π95 with rfl
   refine wpAny_bind (wpAny_standAt (wpAny_holding ?_))
   refine S₉.Bh (T:=U) (y:=z) (.there .here) (fun B k=>k.at (.head _)) (hsz _ (by rw[ex];simp)) fun s' S'=>⟨VC',_,⟨G'',hI',rfl⟩,?_⟩
   rw[eo]
   exact S'.sub (.own .here (.drop .all))
  ·intro VC _ s₆ υ3 S₆;obtain⟨G',hI,rfl⟩:=υ3
   refine⟨rfl,hend C a VC G' s₆ hI ?_⟩
   have p2:(Z++(.ow (own a (aK c U) (out xs)):: .ow (own L bC V)::G')).Perm (.ow (own L bC V):: .ow (own a (aK c U) (out xs))::(Z++G')):=
    (List.perm_middle.trans (List.Perm.cons _ List.perm_middle)).trans (List.Perm.swap ..)
   exact(S₆.perm p2).swap .here hL
 refine fh (g:=⟨target,iter,[],0⟩) rfl rfl (fun ν ν=>rfl) (Around.under_of_weight rfl) rfl loop (src.self S5 loop) fun ν=>rfl
theorem zj{kx vx target iter:Expr}{scope:Scope}(cl:List (Str×Addr)){pos spos ypos:Pos}{y:Str}{Q:Flow→Shared→Prop}
 (h:Wp c A (eval iter env) (fun x s₁=>Wp c A (pyIter x) (fun it s₂=>Wp c A newDict (fun acc s₃=>∃L V G,aa c L V G s₃∧∀C s₄,aa c C (bN scope.names) (aI (aG (cellsFrom (C+1) scope.names []) (fun ν=>none) scope.names)++ .ow (own L bC V)::G) s₄→
   codeAny (model c.prog c.w) A (.compStart (.DictComp kx vx [⟨target,iter,[],0⟩] scope pos) 0 it acc (aN scope cl C env)) (fun r s₅=>r= .ok .next∧bh c A L (some (assign (.Name y ypos) env)) (fun ν s'=>Q .next s') acc C s₅) s₄) s₂) s₁) s)
 (hclos:autoParam (closureFor scope env=pure cl) af) (hs:autoParam (∀x,foldedSetIterable iter env x=pure x) ua) (hkind:autoParam (scope.kind= .function) af) (hn:autoParam ((scope.names.map (·.1)).Nodup) ym)
 (hsw:autoParam (swapsWith (.DictComp kx vx [⟨target,iter,[],0⟩] scope pos) (some (.Name y ypos)) spos.line env=pure true) af):
 Wp c A (exec (.Assign [.Name y ypos] (.DictComp kx vx [⟨target,iter,[],0⟩] scope pos) spos) env) Q s:=by
 rw[exec_Assign_Name_used _ _ _ _ hsw]
 refine wpAny_bind (wpAny_standAt (wpAny_bind ?_))
 exact wpAny_bind (wpAny_mono (gG (Q:=fun ν s'=>Q .next s') rfl hs hclos hkind hn h) (fun ν s' hq=>wpAny_pure (wpAny_pure hq)) fun ν ν x=>x)
end
end Mine
namespace Mine
section
variable{c:Cx}{A:Around}{L C:Addr}{V V' VC:ay}{G R:List Fa}{s:Shared}{env cenv:Env}{t u:Tok}
theorem aa.nR(g:cg c){e0 e1:Expr}{sp pos:Pos}{k:Nat}{Q:Value→Shared→Prop}(S:aa c L V G s)(hc:kdsCode (aO c) env.code=true)
 (h:∀a s',aa c L V (.ow (own a (bQ c) [])::G) s'→Wp c A (eval e0 env) (fun v s1=>∃L1 V1 G1 R1 tag t,v= .str (tx tag) t∧aa c L1 V1 G1 s1∧bA G1 (.ow (own a (bQ c) [])) R1∧
   ∀s2,aa c L1 V1 (.ow (own a (bQ c) [tag])::R1) s2→Wp c A (eval e1 env) (fun v s3=>Wp c A (setDisplayStar a v) (fun ν s4=>Q (.ref a) s4) s3) s2) s')
 (hk:autoParam ((displayRoad k [e0,.Starred e1 sp]== .constants)=false) af) (hk':autoParam ((displayRoad k [e0,.Starred e1 sp]== .unsure)=false) af) (hs:autoParam (starEach [e0,.Starred e1 sp] env=[(false,eval e0 env),(true,eval e1 env)]) af):
 Wp c A (eval (.Set [e0,.Starred e1 sp] k pos) env) Q s:=by
 rw[arm_eval_Set]
 refine wpAny_bind (wpAny_standAt ?_)
 refine wpAny_bind (kds_main (g.oK S) hc fun b=>?_)
 rw[hs]
 unfold setDisplay
 rw[if_neg (by rw[hk];exact Bool.false_ne_true)]
 refine wpAny_bind (wpAny_newSet_of (knd:=PySem.strKind c.prog c.w) fun led ν=>?_)
 have S1:=S.push (tk:=s.toks) (o:={cls:=.type "set",dict:=none,data:=.set #[] 0 (.fresh 0 0 led)}) (bQ c) [] fun ν ν=>⟨⟨rfl,rfl,rfl⟩,#[],0,_,rfl,fun ν he=>by simp at he,⟨[],.nil,by simp⟩,rfl,fun h=>absurd rfl h⟩
 refine wpAny_bind (wpAny_holding ?_)
 refine wpAny_bind (m:=evalAll [(eval e0 env>>=fun v=>standAt pos>>=fun ν=>pure v)]) ?_
 refine wpAny_evalAll_cons (wpAny_bind (wpAny_mono (h _ _ S1) (fun v s1 h1=>?_) fun ν ν x=>x))
 obtain⟨L1,V1,G1,R1,tag,t,rfl,S2,hp,h1⟩:=h1
 refine wpAny_bind (wpAny_standAt (wpAny_pure ?_))
 refine wpAny_evalAll_nil ?_
 refine wpAny_bind (wpAny_holding ?_)
 refine wpAny_bind ?_
 rw[List.forIn_cons]
 refine wpAny_bind (wpAny_bind (S2.AX hp (by simp) (by simp) fun s2 S3=>wpAny_pure ?_))
 dsimp only
 rw[List.forIn_nil]
 refine wpAny_pure ?_
 rw[hk',if_neg Bool.false_ne_true]
 refine wpAny_pure ?_
 refine wpAny_bind (m:=forIn [(true,(eval e1 env>>=fun v=>standAt pos>>=fun ν=>pure v))] PUnit.unit _) ?_
 rw[List.forIn_cons]
 refine wpAny_bind (wpAny_bind (wpAny_bind (wpAny_mono (h1 s2 S3) (fun v s3 h3=>?_) fun ν ν x=>x)))
 refine wpAny_bind (wpAny_standAt (wpAny_pure ?_))
 rw[if_pos rfl]
 refine wpAny_bind (wpAny_holding (wpAny_mono h3 (fun ν s4 h4=>?_) fun ν ν x=>x))
 refine wpAny_pure ?_
 dsimp only
 rw[List.forIn_nil]
 exact wpAny_pure (wpAny_pure (wpAny_pure h4))
end
end Mine
namespace Mine
noncomputable abbrev gR(f0:Value)(b:Bool)(d:Addr)(i n ep:Nat)(ok ov:Value):Obj:={cls:=.type "dict_itemiterator",dict:=none,data:=.fields #[f0,.bool b,.ref d,.int i 0,.int n 0,.int ep 0,ok,ov],slots:=#[]}
theorem lia{M:Model}{A:Around}{E:Value→Shared→Prop}{s:Shared}{a:Addr}{Q:Option Obj→Shared→Prop}(h:Q (s.heap.get? a) s):wpAny M A (loadIfAlive a) Q E s:=fun Γ p hΓ=>by
 show Sem.wp M Γ (.loadIfAlive a .pure) _ _ p s
 rw[Sem.wp_loadIfAlive];exact wpAny_pure (A:=A) (E:=E) h Γ p hΓ
section
variable{prog:Program}{w:World}{K:Type}[DecidableEq K]{knd:KeyKind prog w K}{A:Around}{E:Value→Shared→Prop}{s:Shared}
theorem lz{it d a:Addr}{oa:Obj}{b:Bool}{i ep:Nat}{kvs:List (K×Value)}{k:K}{v ok ov:Value}{Q:Option Value→Shared→Prop}(hit:s.heap.get? it=some (gR (rawInt a) b d i kvs.length ep ok ov))(hoa:s.heap.get? a=some oa)(hne:a≠it)
 (hm:s.heap.DictAt knd d kvs ep) (hx:kvs[i]?=some (k,v))
 (hQ:∀key h',knd.is k key=true→h'.get? it=some (gR (rawInt a) true d (i+1) kvs.length ep ok ov)→
   h'.get? s.heap.objs.size=some {cls:=.type "tuple",data:=.seq #[key,v]}→
   (∀b o,b≠it→s.heap.get? b=some o→h'.get? b=some o)→Q (some (.ref s.heap.objs.size)) {s with heap:=h'}):
 wpAny (model prog w) A (pyNext (.ref it)) Q E s:=by
 obtain⟨hp,g,dr,tk,os⟩:=s
 refine vj (id hm) fun od es hod hcd hdd hk hpr hn=>?_
 have hT:Shared.TypeIs ⟨hp,g,dr,tk,os⟩ (.ref it) "dict_itemiterator":=⟨_,hit,rfl⟩
 refine eU hT F.slot_dict_itemiterator_next F.entry_dict_itemiterator_next (F.args_dict_itemiterator_next_1 _) fun F X hF hX=>?_
 refine wpAny_bind (wpAny_pure ?_)
 refine wpAny_bind ?_
 refine wpAny_bind ?_
 first|refine wpAny_bind (wpAny_typeNameOfWhole_itemiter hT (wpAny_pure ?_))|refine wpAny_bind (wpAny_typeNameOf_itemiter hT (wpAny_pure ?_))
 refine wpAny_bind (wpAny_fieldsOf hit rfl ?_)
 show wpAny _ _ (if(Value.ref d==Value.none)=true then _ else _) _ _ _
 rw[if_neg (show¬((Value.ref d==Value.none)=true) from Bool.false_ne_true)]
 refine wpAny_bind (wpAny_pure ?_)
 refine wpAny_bind (wpAny_dictEntries hod hdd ?_)
 have hsz:es.size=kvs.length:=by rw[←hpr.length];simp
 rw[if_neg (by rw[hsz];simp)]
 refine wpAny_bind (wpAny_pure ?_)
 refine wpAny_bind (wpAny_dictEpoch hod hdd ?_)
 rw[if_neg (by simp)]
 refine wpAny_pure ?_
 have hlt:i<kvs.length:=by
  rcases Nat.lt_or_ge i kvs.length with h|h
  ·exact h
  ·simp[List.getElem?_eq_none h] at hx
 have hlt':i<es.size:=by rw[hsz];exact hlt
 obtain⟨hkey,hval⟩:=hpr.get? (e:=es[i]) (by simp[hlt']) hx
 dsimp only
 rw[if_neg (show¬((i:Int)<0) from by exact fun a_1=>hne (ω233 a_1)),Int.toNat_natCast,Array.getElem?_eq_getElem hlt']
 refine wpAny_bind ?_
 first|refine wpAny_bind (wpAny_typeNameOfWhole_itemiter hT (wpAny_pure ?_))|refine wpAny_bind (wpAny_typeNameOf_itemiter hT (wpAny_pure ?_))
 refine wpAny_bind (wpAny_isOneOf_itemiter hT ?_)
 show wpAny _ _ (setField (.ref it) 3 (rawInt ((i:Int)+1))>>=_) _ _ ⟨hp,g,dr,tk,os⟩
 refine wpAny_bind (wpAny_setField_rec hit (by simp) fun h₁ he₁ hs₁=>?_)
 replace hs₁:Heap.SameBut it hp h₁:=hs₁
 replace he₁:h₁.get? it=some (gR (rawInt a) b d (i+1) kvs.length ep ok ov):=by
  have e:((i+1:Nat):Int)=(i:Int)+1:=by exact rfl
  unfold gR;rw[e];simpa[rawInt] using he₁
 have hT₁:Shared.TypeIs ⟨h₁,g,dr,tk,os⟩ (.ref it) "dict_itemiterator":=⟨_,he₁,rfl⟩
 refine wpAny_bind (wpAny_holding ?_)
 refine wpAny_bind (wpAny_isOneOf_itemiter hT₁ ?_)
 refine wpAny_bind (wpAny_isOneOf_itemiter hT₁ ?_)
 show wpAny _ _ (Builtin.Dict_items.pairFromOwner (.ref it) 6 es[i].key es[i].val) _ _ ⟨h₁,g,dr,tk,os⟩
 refine wpAny_bind (wpAny_newTuple ?_)
 have he₂:(h₁.push {cls:=.type "tuple",data:=.seq #[es[i].key,es[i].val]}).get? it=some (gR (rawInt a) b d (i+1) kvs.length ep ok ov):=Heap.get?_push_of_some _ he₁
 generalize hh₂:h₁.push {cls:=.type "tuple",data:=.seq #[es[i].key,es[i].val]}=h₂ at he₂
 have hz₁:h₁.objs.size=hp.objs.size:=hs₁.1
 have hil:it<hp.objs.size:=Heap.lt_size hit
 have ht₂:h₂.get? hp.objs.size=some {cls:=.type "tuple",data:=.seq #[es[i].key,es[i].val]}:=by rw[←hh₂,←hz₁];exact Heap.get?_push_size _ rfl
 have hk₂:∀b o,b≠it→hp.get? b=some o→h₂.get? b=some o:=fun b o hb e=>by rw[←hh₂];exact Heap.get?_push_of_some _ (hs₁.extBut b o hb e)
 show wpAny _ _ (Builtin.Dict_items.ownedTupleIsFree (.ref it)>>=_) _ _ ⟨h₂,g,dr,tk,os⟩
 rw[hz₁]
 clear hh₂ he₁ hs₁ hT₁ hz₁ h₁
 refine wpAny_bind ?_
 refine wpAny_bind (wpAny_field he₂ rfl (x:=rawInt a) rfl ?_)
 refine wpAny_bind (lia ?_)
 have hoa2:h₂.get? ((a:Int).toNat)=some oa:=by rw[Int.toNat_natCast];exact hk₂ a oa hne hoa
 rw[show(({heap:=h₂,gens:=g,drawn:=dr,toks:=tk,os:=os}:Shared).heap.get? ((a:Int).toNat))=some oa from hoa2]
 rw[if_neg (by simp)]
 refine wpAny_bind (wpAny_field he₂ rfl (x:=.bool b) rfl ?_)
 have fin:∀h₃,h₃.get? it=some (gR (rawInt a) true d (i+1) kvs.length ep ok ov)→Heap.SameBut it h₂ h₃→Q (some (.ref hp.objs.size)) ⟨h₃,g,dr,tk,os⟩:=fun h₃ he₃ hs₃=>
  hQ es[i].key h₃ hkey he₃ (by rw[←hval];exact hs₃.extBut _ _ (Nat.ne_of_gt hil) ht₂) fun b o hb e=>hs₃.extBut b o hb (hk₂ b o hb e)
 cases b with
 |true=>
  rw[if_neg (by decide)]
  refine wpAny_pure (wpAny_pure ?_)
  exact wpAny_pure (hF _ _ (fin h₂ he₂ (Heap.SameBut.refl _ _)))
 |false=>
  rw[if_pos (by decide)]
  refine wpAny_bind (wpAny_setField_rec he₂ (by simp) fun h₃ he₃ hs₃=>?_)
  refine wpAny_pure (wpAny_pure ?_)
  exact wpAny_pure (hF _ _ (fin h₃ he₃ hs₃))
end
end Mine
namespace Mine
section
variable{prog:Program}{w:World}{K:Type}[DecidableEq K]{knd:KeyKind prog w K}{A:Around}{E:Value→Shared→Prop}{s:Shared}
theorem jF{it d:Addr}{f0:Value}{b:Bool}{i ep:Nat}{kvs:List (K×Value)}{ok ov:Value}{Q:Option Value→Shared→Prop}(hh:A.handled=none)(hit:s.heap.get? it=some (gR f0 b d i kvs.length ep ok ov))
 (hm:s.heap.DictAt knd d kvs ep) (hx:kvs[i]?=none)
 (hQ:∀h',Heap.ExtBut it s.heap h'→Q none {s with heap:=h'}):wpAny (model prog w) A (pyNext (.ref it)) Q E s:=by
 refine vj (id hm) fun od es hod hcd hdd hk hpr hn=>?_
 have hT:s.TypeIs (.ref it) "dict_itemiterator":=⟨_,hit,rfl⟩
 refine eU hT F.slot_dict_itemiterator_next F.entry_dict_itemiterator_next (F.args_dict_itemiterator_next_1 _) fun F X hF hX=>?_
 refine wpAny_bind (wpAny_pure ?_)
 refine wpAny_bind ?_
 refine wpAny_bind ?_
 first|refine wpAny_bind (wpAny_typeNameOfWhole_itemiter hT (wpAny_pure ?_))|refine wpAny_bind (wpAny_typeNameOf_itemiter hT (wpAny_pure ?_))
 refine wpAny_bind (wpAny_fieldsOf hit rfl ?_)
 show wpAny _ _ (if(Value.ref d==Value.none)=true then _ else _) _ _ s
 rw[if_neg (show¬((Value.ref d==Value.none)=true) from Bool.false_ne_true)]
 refine wpAny_bind (wpAny_pure ?_)
 refine wpAny_bind (wpAny_dictEntries hod hdd ?_)
 have hsz:es.size=kvs.length:=by rw[←hpr.length];simp
 rw[if_neg (by rw[hsz];simp)]
 refine wpAny_bind (wpAny_pure ?_)
 refine wpAny_bind (wpAny_dictEpoch hod hdd ?_)
 rw[if_neg (by simp)]
 refine wpAny_pure ?_
 have hge:es.size≤i:=by rw[hsz];simpa using hx
 dsimp only
 rw[if_neg (show¬((i:Int)<0) from by exact fun a=>ω233 a),Int.toNat_natCast,Array.getElem?_eq_none hge]
 refine wpAny_bind ?_
 first|refine wpAny_bind (wpAny_typeNameOfWhole_itemiter hT (wpAny_pure ?_))|refine wpAny_bind (wpAny_typeNameOf_itemiter hT (wpAny_pure ?_))
 show wpAny _ _ (setField (.ref it) 2 .none>>=_) _ _ s
 refine wpAny_bind (wpAny_setField hit rfl (by simp) ?_)
 show wpAny _ _ (newExc (.type "StopIteration") []>>=_) _ _ _
 exact nS (A:=A.in1) hh hX fun h' hk=>hQ _ ((Heap.SameBut.update ..).extBut.trans fun b o ν=>hk b o)
theorem nO:typeLookup (.type "dict_items") "__len__"=pure (some (.builtin "dict_items.__len__")):=by rw[typeLookup_type,builtinLookup_eq_fast];kernel_rfl
theorem qN{r:Addr}{Q:Bool→Shared→Prop}(hT:s.TypeIs (.ref r) "dict_items")(h:Q false s):wpAny (model prog w) A (Builtin.List.listLengthHint (.ref r)) Q E s:=by
 refine wpAny_bind (wpAny_specialOf hT nO ?_)
 generalize hid:("dict_items.__len__":String)=id0
 wp_delta
 rw[show splitId id0=some ("dict_items","__len__") from by subst hid;decide+kernel]
 subst hid
 refine wpAny_bind (wpAny_isInstance (T:="dict_items") (b:=true) hT (by rw[isSubtype_type];kernel_rfl) ?_)
 refine wpAny_ite_split (fun hab=>absurd hab (by decide)) (fun ν=>?_)
 refine wpAny_ite_split (fun ν=>?_) (fun hab=>absurd (by decide+kernel) hab)
 refine wpAny_bind (wpAny_typeOf hT ?_)
 exact wpAny_pure h
end
section
variable{c:Cx}{A:Around}{L:Addr}{V V':ay}{G R:List Fa}{s:Shared}{env:Env}{t u:Tok}
noncomputable def dY(d:Addr)(i n ep:Nat):Tb Unit:=
 ⟨fun B o ν=>∃f0 b ok ov,o=gR f0 b d i n ep ok ov∧(f0= .none∧b=false∨∃a oa,f0=rawInt (a:Addr)∧B a=some oa),
  fun hle ⟨f0,b,ok,ov,e,h⟩=>⟨f0,b,ok,ov,e,h.imp id fun⟨a,oa,e1,e2⟩=>⟨a,oa,e1,hle _ _ e2⟩⟩,fun⟨_,_,_,_,e,_⟩=>e▸rfl⟩
theorem aa.A3{β:Type}{T:Ty β}{d it:Addr}{i ep:Nat}{xs:List (Tx×β)}{x:Tx×β}{o:Obj}{kvs:List (Str×Value)}{E:Value→Shared→Prop}{Q:Option Value→Shared→Prop}(S:aa c L V G s)(hp:bA G (.ow (own it (dY d i kvs.length ep) ())) R)(hD:dH c o kvs ep)(ho: .kn (held d o)∈R)(hk: .kn (prs T kvs xs)∈R)(hx:xs[i]?=some x)
 (h:∀v s',aa c L V (.kn (is (bY ah T) v x):: .ow (own it (dY d (i+1) kvs.length ep) ())::R) s'→Q (some v) s'):wpAny (model c.prog c.w) A (pyNext (.ref it)) Q E s:=by
 have S:=S.front hp
 obtain⟨B,S0⟩:=id S
 obtain⟨oi,e,eB,_,_,f0,b,ok,ov,rfl,hf⟩:=S0.own _ (.head _)
 simp only[kc] at e eB
 have hm:=hD.at (S.aF (.tail _ ho))
 have hkr:az (dc T B) kvs xs:=S0.know _ (bx.mpr (.tail _ hk))
 refine aj (hkr.at hx) fun kv hkv hr=>?_
 have hne:s.heap.objs.size≠it:=Nat.ne_of_gt (Heap.lt_size e)
 have body:∀(KA:MP) (a:Addr) (b':Bool) (ok' ov' key:Value) (h':Heap),aa c L V (.ow (own it (dY d i kvs.length ep) ()):: .kn KA::R) s→(∀B,KA.p B→a=s.heap.objs.size∨∃oa,B a=some oa)→(PySem.strKind c.prog c.w).is kv.1 key=true→h'.get? it=some (gR (rawInt a) b' d (i+1) kvs.length ep ok' ov')→
  h'.get? s.heap.objs.size=some {cls:=.type "tuple",data:=.seq #[key,kv.2]}→(∀b o,b≠it→s.heap.get? b=some o→h'.get? b=some o)→Q (some (.ref s.heap.objs.size)) {s with heap:=h'}:=by
  intro KA a b' ok' ov' key h' S1 hKA hkey hit' htup hk'
  obtain⟨t,rfl⟩:=Value.isStrOf_shape hkey
  have S2:=S1.nI (tk:=s.toks) .here (ck (gR (rawInt a) b' d (i+1) kvs.length ep ok' ov')) () (pX (Row.cons ah (Row.one T))) x hk' hit' (Nat.le_refl _) htup (fun ν ν ν ν ν=>rfl) fun B' k'=>by
   refine aj ((k'.at (.tail _ hk):az (dc T B') kvs xs).at hx) fun v' hv' r=>?_
   rw[hkv] at hv';cases hv'
   exact⟨_,0,rfl,rfl,⟨t,by rw[r.1]⟩,r.2,trivial⟩
  have S3:=S2.freeze .here
  have S4:=S3.turn (tk:=s.toks) (.there .here) (dY d (i+1) kvs.length ep) () (Heap.SameBut.refl _ _) hit' fun B' o' ν k' r=>by
   obtain rfl:o'=_:=r
   refine⟨_,_,_,_,rfl,.inr ⟨a,?_⟩⟩
   rcases hKA B' (k'.at (.tail _ (.head _))) with rfl|⟨oa,ha⟩
   ·refine fO (k'.at (k:=is (Ty.ref (pX (Row.cons ah (Row.one T)))) (.ref s.heap.objs.size) x) (.head _)) fun a' oa e' ν3 ha ν5=>?_
    cases e'
    exact⟨oa,rfl,ha⟩
   ·exact⟨oa,rfl,ha⟩
  exact h _ _ (S4.sub (.kn (.tail _ (.head _)) (.own .here (.drop (.drop .all)))))
 rcases hf with⟨rfl,rfl⟩|⟨a,oa,rfl,ha⟩
 ·refine wpAny_pyNext_items_item e hm (k:=kv.1) (v:=kv.2) hkv fun key h' hkey hit' htup hsz hk'=>body ⟨fun ν=>True,fun ν h=>h⟩ _ _ _ _ key h' ?_ (fun ν ν=>.inl rfl) hkey hit' htup hk'
  exact(S.add ⟨fun ν=>True,fun ν h=>h⟩ fun ν ν=>trivial).sub (.own (.there .here) (.kn (.head _) (.drop .all)))
 ·refine lz e (S0.keep _ _ ha) (by intro υ0;obtain rfl:=υ0;rw[eB] at ha;cases ha) hm (k:=kv.1) (v:=kv.2) hkv fun key h' hkey hit' htup hk'=>body (held a oa) _ _ _ _ key h' ?_ (fun B h=>.inr ⟨_,h⟩) hkey hit' htup hk'
  have S1:aa c L V (.kn (held a oa):: .ow (own it (dY d i kvs.length ep) ())::R) s:=by
   refine⟨B,{S0 with know:=fun k' hk'=>?_}⟩
   rcases List.mem_cons.mp hk' with rfl|hk'
   ·exact ha
   ·exact S0.know k' hk'
  exact S1.sub (.own (.there .here) (.kn (.head _) (.drop .all)))
theorem aa.AI{β:Type}{T:Ty β}{d it:Addr}{i ep:Nat}{xs:List (Tx×β)}{o:Obj}{kvs:List (Str×Value)}{Q:Option Value→Shared→Prop}(hh:A.handled=none)(S:aa c L V G s)(hp:bA G (.ow (own it (dY d i kvs.length ep) ())) R)(hD:dH c o kvs ep)(ho: .kn (held d o)∈R)(hk: .kn (prs T kvs xs)∈R)(hx:xs[i]?=none)
 (h:∀s',aa c L V R s'→Q none s'):Wp c A (pyNext (.ref it)) Q s:=by
 have S:=S.front hp
 obtain⟨B,oi,e,⟨f0,b,ok,ov,rfl,hf⟩,_⟩:=S.get (.head _)
 have hm:=hD.at (S.aF (.tail _ ho))
 have hlen:kvs.length=xs.length:=S.fact fun ν k ν=>(k.at (.tail _ hk):az _ kvs xs).length
 have hn:kvs[i]?=none:=by
  have:xs.length≤i:=by simpa using hx
  simp[hlen,this]
 exact jF hh e hm hn fun h' hk=>h _ (S.lose .here hk)
theorem qv{β:Type}{T:Ty β}{d it l:Addr}{ep:Nat}{xs:List (Tx×β)}{o:Obj}{kvs:List (Str×Value)}{res:Value}{P:Result→Shared→Prop}(hD:dH c o kvs ep)(ho: .kn (held d o)∈R)(hk: .kn (prs T kvs xs)∈R)(hsz:xs.length≤1000)
 (h:∀s' vs n,s'.heap.get? l=some (aC vs n)→aa c L V (.ow (own l (ck (aC vs n)) ()):: .kn (rows (bY ah T) vs xs)::R) s'→P (.ok (.ret res)) s'):∀(k i:Nat) (s:Shared) (A:Around) (vs:List Value) (n:Nat),A.handled=none→i+k=xs.length→vs.length=i→aa c L V (.ow (own it (dY d i kvs.length ep) ()):: .ow (own l (ck (aC vs n)) ()):: .kn (rows (bY ah T) vs (xs.take i))::R) s→
   codeAny (model c.prog c.w) A (.builtin "list.extend.loop" ⟨[.ref l,.ref it,res],[]⟩) P s:=by
 intro k
 induction k with
 |zero=>
  intro i s A vs n hh hi hvl S
  refine codeAny_builtin F.entry_extend_loop ?_
  rw[Around.under_plainId F.plain_extend_loop _]
  refine wpAny_bind (jq (S.AI hh .here hD (.tail _ (.tail _ ho)) (.tail _ (.tail _ hk)) (by simp;lia) fun s' S=>wpAny_pure ?_))
  rw[List.take_of_length_le (by lia)] at S
  refine av (S.get (.head _)) fun ν0 ol el e2 ν4=>?_
  exact h s' vs n (by rw[el,show ol=_ from e2]) S
 |succ k ih=>
  intro i s A vs n hh hi hvl S
  refine codeAny_builtin F.entry_extend_loop ?_
  rw[Around.under_plainId F.plain_extend_loop _]
  have hlt:i<xs.length:=by exact ω74 hi
  refine wpAny_bind (S.A3 .here hD (.tail _ (.tail _ ho)) (.tail _ (.tail _ hk)) (List.getElem?_eq_getElem hlt) fun v s' S=>?_)
  refine av (S.get (.tail _ (.tail _ (.head _)))) fun ν0 ol el e2 ν4=>?_
  have el:s'.heap.get? l=some (aC vs n):=by rw[el,show ol=_ from e2]
  refine wpAny_bind (listUpdate_at el rfl ?_ (by rw[List.size_toArray,sizeLine_eq];exact ω184 hsz hi hvl rfl) (by rw[Array.size_push,List.size_toArray,sizeLine_eq];lia))
  obtain⟨n',e'⟩:∃n',(s'.heap.update l (Obj.mapSeq fun x=>x.push v)).get? l=some (aC (vs++[v]) n'):=by
   have:=get?_update_seq el fun x=>x.push v
   rw[List.push_toArray] at this
   exact⟨_,this⟩
  refine wpAny_pure ⟨plainId_quiet F.plain_extend_loop _,ih (i+1) _ A (vs++[v]) n' hh (by exact ω73 hi) (by simp[hvl]) ?_⟩
  have S2:=S.turn (tk:=s'.toks) (.there (.there .here)) (ck (aC (vs++[v]) n')) () (Heap.SameBut.update s'.heap l _) e' fun ν ν ν ν ν=>rfl
  have S3:=S2.add (rows (bY ah T) (vs++[v]) (xs.take (i+1))) fun B kh=>by
   rw[List.take_add_one,List.getElem?_eq_getElem hlt]
   exact az.snoc (kh.at (.tail _ (.tail _ (.tail _ (.head _)))):az _ vs (xs.take i)) (kh.at (.tail _ (.head _)))
  exact S3.sub (.own (.there (.there (.there .here))) (.own (.there .here) (.kn (.head _) (.drop (.drop (.drop .all))))))
end
end Mine
namespace Mine
section
variable{c:Cx}{A:Around}{L:Addr}{V V':ay}{G R:List Fa}{s:Shared}{env:Env}{t u:Tok}
theorem pR{β:Type}{T:Ty β}{l vw d:Addr}{n:Nat}{xs:List (Tx×β)}{res:Value}{P:Result→Shared→Prop}(hh:A.handled=none)(S:aa c L V (.ow (own l (ck (aC [] n)) ())::G) s)(hv: .ow (own vw (bE "dict_items" #[.ref d]) ())∈G)(hm: .kn (is (Ty.dct c T) (.ref d) xs)∈G)(hsz:xs.length≤1000)
 (h:∀s' vs n,s'.heap.get? l=some (aC vs n)→aa c L V (.ow (own l (ck (aC vs n)) ()):: .kn (rows (bY ah T) vs xs)::G) s'→P (.ok (.ret res)) s'):
 wpAny (model c.prog c.w) A.in1 (Builtin.List.listExtendWith (.ref l) (.ref vw) res) (fun fin s'=>match fin with | .done f=>P (.ok f) s'| .again c'=>c'.quiet=true∧codeAny (model c.prog c.w) A c' P s') (fun e s'=>P (.error e) s') s:=by
 refine gJ (S.gx (.tail _ hm)) fun o kvs ep hD S1=>?_
 have S2:aa c L V (.ow (own l (ck (aC [] n)) ()):: .kn (held d o):: .kn (prs T kvs xs)::G) s:=S1.sub (.own (.there (.there .here)) (.kn (.head _) (.kn (.tail _ (.head _)) (.drop (.drop .all)))))
 have hv2: .ow (own vw (bE "dict_items" #[.ref d]) ())∈(.ow (own l (ck (aC [] n)) ()):: .kn (held d o):: .kn (prs T kvs xs)::G:List Fa):=.tail _ (.tail _ (.tail _ hv))
 refine av (S2.get hv2) fun ν0 ov e π53 ν4=>?_;obtain⟨hc,hdt⟩:=π53
 have hT:s.TypeIs (.ref vw) "dict_items":=⟨ov,e,hc⟩
 refine wpAny_bind (wpAny_typeOf hT ?_)
 have hne:l≠vw:=by
  intro υ0;obtain rfl:=υ0
  refine av (S2.get (a:=l) (T:=ck (aC [] n)) (x:=()) (.head _)) fun ν0 ol el e2 ν4=>?_
  rw[e] at el;cases el
  rw[show ov=_ from e2] at hc
  exact absurd hc (show¬(Value.type "list"=Value.type "dict_items") from by decide)
 have h1:Builtin.List.listSameRef (.ref l) (.ref vw)=false:=by simp[Builtin.List.listSameRef,hne]
 rw[if_neg (by rw[h1];decide)]
 refine wpAny_bind (wpAny_pyIter_items (v:=vw) ⟨ov,e,hc,hdt⟩ (hD.at (S2.aF (.tail _ (.head _)))) ?_)
 have S3:aa c L V (.ow (own s.heap.objs.size (dY d 0 kvs.length ep) ()):: .ow (own l (ck (aC [] n)) ()):: .kn (held d o):: .kn (prs T kvs xs)::G) {s with heap:=s.heap.push {cls:=.type "dict_itemiterator",data:=.fields #[.none,.bool false,.ref d,.int 0 0,.int kvs.length 0,.int ep 0,.none,.none]}}:=
  S2.push (tk:=s.toks) (dY d 0 kvs.length ep) () fun ν ν=>⟨.none,false,.none,.none,rfl,.inl ⟨rfl,rfl⟩⟩
 have hT3:({s with heap:=s.heap.push {cls:=.type "dict_itemiterator",data:=.fields #[.none,.bool false,.ref d,.int 0 0,.int kvs.length 0,.int ep 0,.none,.none]}}:Shared).TypeIs (.ref vw) "dict_items":=⟨ov,Heap.get?_push_of_some _ e,hc⟩
 refine wpAny_bind (wpAny_holding (qN hT3 ?_))
 have loop:=fun(s':Shared) (n':Nat) (S':aa c L V (.ow (own s.heap.objs.size (dY d 0 kvs.length ep) ()):: .ow (own l (ck (aC [] n')) ()):: .kn (held d o):: .kn (prs T kvs xs)::G) s')=>
  qv (T:=T) (xs:=xs) (res:=res) (P:=P) (R:=.kn (held d o):: .kn (prs T kvs xs)::G) hD (.head _) (.tail _ (.head _)) hsz (fun s' vs n hl S=>h s' vs n hl (S.sub (.own .here (.kn (.head _) (.drop (.drop (.drop .all))))))) xs.length 0 s' A [] n' hh (by lia) rfl (by
   have:=S'.add (rows (bY ah T) [] (xs.take 0)) fun B kh=>by rw[List.take_zero];exact .nil
   exact this.sub (.own (.there .here) (.own (.there .here) (.kn (.head _) (.drop .all)))))
 refine wpAny_ite_split (fun ν=>?_) (fun ν=>wpAny_pure ⟨plainId_quiet F.plain_extend_loop _,loop _ _ S3⟩)
 refine wpAny_bind (wpAny_rule ?_)
 refine av (S3.get (.tail _ (.head _))) fun ν0 ol el e2 ν4=>?_
 have el:({s with heap:=s.heap.push {cls:=.type "dict_itemiterator",data:=.fields #[.none,.bool false,.ref d,.int 0 0,.int kvs.length 0,.int ep 0,.none,.none]}}:Shared).heap.get? l=some (aC [] n):=by rw[el,show ol=_ from e2]
 obtain⟨n1,e1⟩:=(⟨_,get?_update_seq el (·.push .none)⟩:∃n1,(Heap.update _ l (Obj.mapSeq (·.push .none))).get? l=some (aC [.none] n1))
 obtain⟨n2,e3⟩:=(⟨_,get?_update_seq e1 (·.pop)⟩:∃n2,(Heap.update _ l (Obj.mapSeq (·.pop))).get? l=some (aC [] n2))
 refine wpAny_bind (wpAny_bind (listUpdate_at el rfl (listUpdate_at e1 rfl ?_ (by rw[sizeLine_eq];simp) (by rw[sizeLine_eq];simp)) (by rw[sizeLine_eq];simp) (by rw[sizeLine_eq];simp)))
 have S5:=S3.turn (tk:=s.toks) (.there .here) (ck (aC [] n2)) () ((Heap.SameBut.update _ l (Obj.mapSeq (·.push .none))).trans (Heap.SameBut.update _ _ (Obj.mapSeq (·.pop)))) e3 fun ν ν ν ν ν=>rfl
 exact wpAny_pure ⟨plainId_quiet F.plain_extend_loop _,loop _ _ (S5.sub (.own (.there .here) (.own .here .all)))⟩
theorem aa.lX{β:Type}{T:Ty β}{vw d:Addr}{xs:List (Tx×β)}{Q:List Value→Shared→Prop}(hh:A.handled=none)(S:aa c L V G s)(hv: .ow (own vw (bE "dict_items" #[.ref d]) ())∈G)(hm: .kn (is (Ty.dct c T) (.ref d) xs)∈G)(hsz:xs.length≤1000)
 (h:∀vs s',aa c L V (.kn (rows (bY ah T) vs xs)::G) s'→Q vs s'):Wp c A (collect (.ref vw)) Q s:=by
 refine wpAny_bind (wpAny_runValue (codeAny_builtin F.entry_proto_collect ?_))
 rw[Around.under_plainId F.plain_proto_collect _]
 show wpAny _ A.in1 (newList []>>=fun l=>again (.builtin "list.__iadd__" ⟨[l,.ref vw],[]⟩)) _ _ s
 refine wpAny_bind (wpAny_newObj_type ?_)
 refine wpAny_pure ⟨plainId_quiet F.plain_list_iadd _,codeAny_builtin F.entry_list_iadd ?_⟩
 rw[Around.under_plainId F.plain_list_iadd _]
 have S3:=S.push (tk:=s.toks) (o:=aC [] 0) (ck (aC [] 0)) () fun ν ν=>rfl
 have key:=pR (A:=A) (res:=.ref s.heap.objs.size) (P:=fun r s'=>∃vs n,r= .ok (.ret (.ref s.heap.objs.size))∧s'.heap.get? s.heap.objs.size=some (aC vs n)∧aa c L V (.kn (rows (bY ah T) vs xs)::G) s') hh S3 hv hm hsz fun s' vs n hl S'=>⟨vs,n,rfl,hl,S'.sub (.drop .all)⟩
 refine wpAny_mono key (fun fin s' x=>?_) fun e s' x=>?_
 ·cases fin with
  |done f=>
   refine av x fun vs n e hl S'=>?_;try clear x
   cases e
   refine wpAny_bind (wpAny_load hl ?_)
   exact wpAny_pure (h vs s' S')
  |again c₁=>
   refine⟨x.1,codeAny_mono x.2 fun q s₂ y=>?_⟩
   refine av y fun vs n π52 hl S'=>?_;try clear y;rcases π52 with rfl
   refine wpAny_bind (wpAny_load hl ?_)
   exact wpAny_pure (h vs s₂ S')
 ·refine aB x fun ν0 ν1 e' ν3=>?_;try clear x
  cases e'
theorem aa.nD{β:Type}{T:Ty β}{f:(Tx×β)→(Tx×β)→Bool}{n:Nat}{vw d:Addr}(hS:cQ c (bY ah T) f n)(hO:Ord f){xs:List (Tx×β)}{Q:Value→Shared→Prop}(hh:A.handled=none)(S:aa c L V G s)(hv: .ow (own vw (bE "dict_items" #[.ref d]) ())∈G)(hm: .kn (is (Ty.dct c T) (.ref d) xs)∈G)(hnd:xs.Nodup)(h2:2≤xs.length)(h64:xs.length<64)(hu:A.units+(n+2)<cLine)
 (h:∀a ys s',ys.Perm xs→(ys.Pairwise fun x y=>f x y=true)→aa c L V (.ow (own a (ai (bY ah T)) ys)::G) s'→Q (.ref a) s'):Wp c A (call (.builtin "sorted") [.ref vw]) Q s:=by
 refine Calls.call_function_entry kind_sorted plain_sorted entry_sorted (args_sorted1 _) ?_
 refine wpAny_bind (m:=checkCount "sorted" 1 1 _) (wpAny_pure ?_)
 refine wpAny_bind (S.lX (A:=A.in1) hh hv hm (by exact ω3 h64 rfl) fun vs s1 S1=>?_)
 have hvl:vs.length=xs.length:=S1.gC (.head _)
 refine wpAny_bind (wpAny_newList ?_ (by show vs.length≤_;rw[hvl,sizeLine_eq];exact ω3 h64 rfl))
 have S3:=S1.push (tk:=s1.toks) (o:={cls:=.type "list",data:=.seq vs.toArray}) (ai (bY ah T)) xs fun B kh=>⟨vs,0,rfl,kh.at (.head _)⟩
 have hoL:(s1.heap.push (aC vs 0)).get? s1.heap.objs.size=some (aC vs 0):=Heap.get?_push_size _ rfl
 refine wpAny_bind (wpAny_holding (wpAny_call_entry slot_list_sort ⟨_,hoL,rfl⟩ entry_list_sort ?body (args_list_sort _)))
 exact S3.uu hS hO .here hnd h2 h64 (by show A.units+1+1+n<_;exact ω77 (ω77 hu)) fun ys s' p1 p2 S4=>⟨_,rfl,wpAny_pure ⟨_,rfl,h _ ys s' p1 p2 (S4.sub (.own .here (.drop .all)))⟩⟩
theorem aa.qY{β:Type}{T:Ty β}{vw d:Addr}{xs:List (Tx×β)}{Q:Value→Shared→Prop}(hh:A.handled=none)(S:aa c L V G s)(hv: .ow (own vw (bE "dict_items" #[.ref d]) ())∈G)(hm: .kn (is (Ty.dct c T) (.ref d) xs)∈G)(hsz:xs.length≤1000)
 (h:∀a s',aa c L V (.ow (own a (ai (bY ah T)) xs)::G) s'→Q (.ref a) s'):Wp c A (call (.type "list") [.ref vw]) Q s:=by
 refine callType_codes (Q₁:=fun obj s₁=>obj= .ref s.heap.objs.size∧s₁={s with heap:=s.heap.push {cls:=.type "list",data:=.seq #[]}}) PySem.F.called_list (PySem.F.typeCall_list_1 _) PySem.F.entry_list_init
  (code_list_new _ ⟨rfl,rfl⟩) fun obj s₁ h₁=>?_
 obtain⟨rfl,rfl⟩:=h₁
 have hS:(s.heap.push {cls:=.type "list",data:=.seq #[]}).get? s.heap.objs.size=some {cls:=.type "list",data:=.seq #[]}:=Heap.get?_push_size _ rfl
 have S3:=S.push (tk:=s.toks) (o:=aC [] 0) (ck (aC [] 0)) () fun ν ν=>rfl
 refine⟨⟨_,hS,rfl⟩,PySem.F.args_list_init_2 _ _,?_⟩
 show wpAny _ _ (do let old ←Builtin.List.listItems (.ref s.heap.objs.size);Builtin.List.listUpdate (.ref s.heap.objs.size) (fun ν=>#[]);letGo old.toList.reverse;Builtin.List.listExtendWith (.ref s.heap.objs.size) (.ref vw) .none) _ _ _
 refine wpAny_bind (listItems_at hS rfl ?_)
 refine wpAny_bind (listUpdate_at hS rfl ?_ (by rw[sizeLine_eq];simp) (by rw[sizeLine_eq];simp))
 obtain⟨n1,e1⟩:=(⟨_,get?_update_seq hS fun ν=>#[]⟩:∃n1,(Heap.update _ s.heap.objs.size (Obj.mapSeq fun ν=>(#[]:Array Value))).get? s.heap.objs.size=some (aC [] n1))
 have S4:=S3.turn (tk:=s.toks) .here (ck (aC [] n1)) () (Heap.SameBut.update _ s.heap.objs.size (Obj.mapSeq fun ν=>(#[]:Array Value))) e1 fun ν ν ν ν ν=>rfl
 refine wpAny_bind (wpAny_letGo ?_)
 refine pR (A:=A.in1) hh S4 hv hm hsz fun s' vs n hl S'=>⟨rfl,h _ s' ?_⟩
 have S5:=S'.turn (tk:=s'.toks) .here (ai (bY ah T)) xs (Heap.SameBut.refl _ _) hl fun B ν ν k ν=>⟨vs,n,rfl,k.at (.head _)⟩
 exact S5.sub (.own .here (.drop .all))
end
end Mine
namespace Mine
theorem qq{α κ:Type}{f:κ→κ→Bool}(hO:Ord f)(kf:α→κ){xs ys:List α}(hp:xs.Perm ys)(hk:∀x∈xs,∀y∈xs,kf x=kf y→x=y)(h1:xs.Pairwise fun x y=>f (kf x) (kf y)=true)(h2:ys.Pairwise fun x y=>f (kf x) (kf y)=true):xs=ys:=by
 have e:xs.map kf=ys.map kf:=eV hO (hp.map kf) (by rw[List.pairwise_map];exact h1) (by rw[List.pairwise_map];exact h2)
 have hy:∀y∈ys,y∈xs:=fun y h=>hp.mem_iff.mpr h
 clear h1 h2 hp
 have gen:∀(as bs:List α),(∀a∈as,a∈xs)→(∀b∈bs,b∈xs)→as.map kf=bs.map kf→as=bs:=by
  intro as
  induction as with
  |nil=>intro bs _ _ e;cases bs with
   |nil=>rfl
   |cons=>cases e
  |cons a as ih=>intro bs ha hb e;cases bs with
   |nil=>cases e
   |cons b bs=>
    rw[List.map_cons,List.map_cons] at e
    injection e with e1 e2
    rw[hk a (ha a (.head _)) b (hb b (.head _)) e1,ih bs (fun a h=>ha a (.tail _ h)) (fun b h=>hb b (.tail _ h)) e2]
 exact gen xs ys (fun ν h=>h) hy e
section
variable{c:Cx}{A:Around}{L C:Addr}{V V' VC:ay}{G R:List Fa}{s:Shared}{env cenv:Env}{t u:Tok}
theorem Ok.Ci{n:Nat}(ok:Ok A (n+1)):Ok A.in1.in1 n:=⟨ok.hd,by have:=ok.dp;show A.depth+n<1000;exact ω147 this,by have:=ok.un;show A.units+1+1+16*n<9900;lia⟩
theorem zd{e:Expr}{id:Str}{p pos kp:Pos}{b:String}{kn:Str}{ke:Expr}{Q:Value→Shared→Prop}
 (hn:Wp c A (eval (.Name id p) env) (fun v s₁=>v= .builtin b∧Wp c A (eval e env) (fun v s₂=>Wp c A (eval ke env) (fun k s₃=>Wp c A (call (.builtin b) [v] [(kn,k)]) Q s₃) s₂) s₁) s)
 (he:autoParam (starEach [e] env=(false,eval e env)::starEach [] env) af):Wp c A (eval (.Call (.Name id p) [e] [⟨some kn,ke,kp⟩] pos) env) Q s:=by
 show Wp c A (eval (.Name id p) env>>=fun f=>callWith pos f [] (backTo pos (starEach [e] env)) (backToKw pos (keywordEach [⟨some kn,ke,kp⟩] env))) Q s
 refine wpAny_bind (wpAny_mono hn (fun v s₁ h₁=>?_) fun ν ν x=>x)
 obtain⟨rfl,h₁⟩:=h₁
 refine callWith_kw (spliced_more (wpAny_mono h₁ (fun v s₂ h₂=>spliced_none (kws_cons (wpAny_mono h₂ (fun k s₃ h₃=>kws_nil h₃) fun ν ν x=>x))) fun ν ν x=>x) he) (by rw[he];rfl) (by rw[he];rfl)
theorem aa.Au{β:Type}{T:Ty β}{v:Value}{xs:List (Tx×β)}{Q:Bool→Shared→Prop}(S:aa c L V G s)(hm:At G v (aK c T) xs)(hsz:xs.length≤1000000)(h:∀s',aa c L V G s'→Q (!xs.isEmpty) s'):Wp c A (truthy v) Q s:=by
 refine tD (S.mY hm) fun a o kvs π93 hn e hD hl ν8=>?_;rcases π93 with rfl
 refine wpAny_truthy_dict hn (aM hD e) (by rw[hl];exact ω15 hsz rfl) ?_
 have e2:(!kvs.isEmpty)= !xs.isEmpty:=by
  cases kvs with
  |nil=>cases xs with
   |nil=>rfl
   |cons _ _=>simp at hl
  |cons _ _=>cases xs with
   |nil=>simp at hl
   |cons _ _=>rfl
 rw[e2]
 exact h _ (S.toks (ht:=by lia))
theorem aa.AZ{β:Type}{T:Ty β}{v:Value}{xs:List (Tx×β)}{k:Tx}{Q:Value→Shared→Prop}(S:aa c L V G s)(hm:At G v (aK c T) xs)(hx:at' xs k=none)
 (h:∀s',aa c L V G s'→Q .none s'):Wp c A (call (.builtin "dict.get") [v,.str (tx k) t]) Q s:=by
 refine tD (S.mY hm) fun a o kvs π93 hn e hD ν7 S'=>?_;rcases π93 with rfl
 have hk:=strKind_is c.prog c.w (tx k) t
 have hmap:=(aM hD e).mapOf
 have h1:valueAt kvs (tx k)=none:=S'.fact fun B kh ν=>by
  rcases nP (kh.at (.head _):az (dc T B) kvs xs) k with⟨v,y',h1,h2,h3⟩|⟨h1,h2⟩
  ·rw[hx] at h2;cases h2
  ·exact h1
 refine call_meetsIn F.slot_dict_get (aM hD e).typeIs F.entry_dict_get (F.args_dict_get_2 _ _) (meets_dict_get (strKind c.prog c.w) a hk hn) ⟨_,hmap,?_⟩
 rw[h1]
 exact h _ S.toks
end
end Mine
namespace Mine
section
variable{c:Cx}{A:Around}{L:Addr}{V V':ay}{G R:List Fa}{s:Shared}{env:Env}{t u:Tok}
theorem yd{x:Tx}{l:List Tx}(hx:x.length≤100)(hb:∀y∈l,y.length≤100000)(hn:l.length≤100):JoinOk (tx x) (l.map tx)=true:=by
 unfold JoinOk Builtin.Str.tooLong sizeLine
 have:=l8 x.length (l.map tx) 0 100000 100 (fun y hy=>by
  refine aj (List.mem_map.mp hy) fun z hz π32=>?_;rcases π32 with rfl
  rw[aq];exact hb z hz) (by rw[List.length_map];exact hn)
 rw[List.foldl_toArray',aq]
 simp only[gt_iff_lt,Bool.not_eq_true',decide_eq_false_iff_not,Nat.not_lt]
 have h2:100*(100000+x.length)≤100*100100:=Nat.mul_le_mul_left _ (by lia)
 lia
 simp
theorem aa.zQ{x:Tx}{w:Value}{xs:List Tx}{Q:Value→Shared→Prop}(S:aa c L V G s)(hm:At G w (ai ah) xs)(hx:x.length≤100)(hb:∀y∈xs,y.length≤100000)(hn:xs.length≤100)(h:∀t s',aa c L V G s'→Q (.str (tx (cE x xs)) t) s'):
 Wp c A (call (.builtin "str.join") [.str (tx x) t,w]) Q s:=by
 refine jH (S.gP hm) fun a vs n π83 ν4 e ν6 S'=>?_;rcases π83 with rfl
 refine aj (S'.fact fun B k ν=>mT (k.at (.head _):az (ah.rel B) vs xs)) fun l e1 e2=>?_
 refine wt (SC.join (l:=l) (texts:=xs.map tx) ⟨_,e,rfl,n,by rw[e1]⟩ e2 (yd hx hb hn) fun t' k hk=>h _ _ (S.toks (ht:=hk)))
theorem AS{B:Mem}{v:Value}{x y:Tx}(h:(Ty.list ah).rel B v [x,y]):A8.rel B v (x,y):=h
end
end Mine
namespace Mine
section
variable{prog:Program}{w:World}{A:Around}{E:Value→Shared→Prop}{s:Shared}
theorem kR{sl:Addr}{u:Tok}{Q:Int×Int×Nat→Shared→Prop}(hs:s.heap.IsSliceOf sl .none (.int 4 u) .none)(h:Q ((0:Int),1,4) s):
 wpAny (model prog w) A (Builtin.Slice.sliceApplied (.ref sl) (pure (5:Int))) Q E s:=by
 refine bL (id hs) fun os hos hcs hds=>?_
 refine wpAny_bind (wpAny_bind (wpAny_field hos hds (x:=.none) rfl (wpAny_bind (wpAny_field hos hds (x:=.int 4 u) rfl (wpAny_bind (wpAny_field hos hds (x:=.none) rfl (wpAny_pure ?_)))))))
 refine wpAny_bind (slicePart_none ?_)
 rw[if_neg (by decide)]
 refine wpAny_bind (slicePart_none (wpAny_bind (slicePart_int (wpAny_bind (wpAny_pure ?_)))))
 show wpAny _ _ (match Builtin.Slice.sliceAdjust none (some 4) 1 (5:Int) with |(lo,hi)=>pure (lo,(1:Int),Builtin.Slice.slicePlaces lo hi 1)) _ _ s
 rw[show Builtin.Slice.sliceAdjust none (some 4) 1 (5:Int)=(0,4) from by decide]
 exact wpAny_pure h
theorem i9{t sl:Addr}{x1 x2 x3 x4 x5:Value}{u:Tok}{Q:Value→Shared→Prop}(ht:IsTup s.heap t #[x1,x2,x3,x4,x5])(hs:s.heap.IsSliceOf sl .none (.int 4 u) .none)
 (h:Q (.ref s.heap.objs.size) {s with heap:=s.heap.push {cls:=.type "tuple",data:=.seq #[x1,x2,x3,x4]}}):wpAny (model prog w) A (getItem (.ref t) (.ref sl)) Q E s:=by
 have hdrop:sizeOk (.seq #[x1,x2,x3,x4]):=by
  show(4:Nat)≤sizeLine
  rw[sizeLine_eq];decide
 refine bL (id hs) fun os hos hcs hds=>?_
 have hTs:s.TypeIs (.ref sl) "slice":=⟨os,hos,hcs⟩
 unfold getItem
 try with_reducible refine wpAny_holding ?_
 first|refine wpAny_bind (wpAny_pure ?_)|skip
 refine wpAny_bind (wpAny_sequenceKey ht.typeIs (by decide) ?_)
 refine wpAny_bind (wpAny_callSpecial?_slot (name:=Str.ofString "__getitem__") ht.typeIs slot_tuple_getitem
  (wpAny_call_entry slot_tuple_getitem ht.typeIs entry_tuple_getitem ?_ (args_tuple_getitem _ _)))
 show wpAny _ _ (Builtin.Tuple.tupleItemsOf (.ref t)>>=_) _ _ s
 refine wpAny_bind (tupleItemsOf_ ht ?_)
 refine wpAny_bind (wpAny_typeOf hTs ?_)
 rw[if_pos (by decide)]
 refine wpAny_bind (kR hs ?_)
 show wpAny _ _ (if((0:Int)==0&&(1:Int)==1&&(4:Nat)==(#[x1,x2,x3,x4,x5]:Array Value).size)=true then _ else _) _ _ s
 rw[if_neg (by simp)]
 first
  |exact wpAny_bind (m:=Builtin.Tuple.tupleExact _) (wpAny_newObj_type (wpAny_pure ⟨_,rfl,wpAny_pure h⟩) hdrop)
  |exact wpAny_bind (m:=Builtin.Tuple.tupleExact _) (wpAny_newObj_type (wpAny_bind (wpAny_pure (wpAny_pure ⟨_,rfl,wpAny_pure h⟩))) hdrop)
  |exact wpAny_bind (wpAny_bind (m:=Builtin.Tuple.tupleExact _) (wpAny_newObj_type (wpAny_pure (wpAny_pure ⟨_,rfl,wpAny_pure h⟩)) hdrop))
  |exact wpAny_bind (wpAny_bind (m:=Builtin.Tuple.tupleExact _) (wpAny_newObj_type (wpAny_pure ⟨_,rfl,wpAny_pure h⟩) hdrop))
end
section
variable{c:Cx}{A:Around}{L:Addr}{V V':ay}{G R:List Fa}{s:Shared}{env:Env}{t u:Tok}
noncomputable abbrev Ao:Row (Int×Int×Int×Int):=.cons ao (.cons ao (.cons ao (.one ao)))
noncomputable abbrev yq:Row (Int×Int×Int×Int×Int):=.cons ao (.cons ao (.cons ao (.cons ao (.one ao))))
theorem aa.Ak{α:Type}{T:Ty α}{v:Value}{sl:Addr}{x:Int×Int×Int×Int×α}{Q:Value→Shared→Prop}(S:aa c L V G s)(hm: .kn (is (Ty.tup (.cons ao (.cons ao (.cons ao (.cons ao (.one T)))))) v x)∈G)(hs: .ow (own sl (bE "slice" #[.none,.int 4 t,.none]) ())∈G)
 (h:∀v' s',aa c L V (.kn (is (Ty.tup Ao) v' (x.1,x.2.1,x.2.2.1,x.2.2.2.1))::G) s'→Q v' s'):Wp c A (getItem v (.ref sl)) Q s:=by
 refine aj (S.inst hm) fun B π31 hk=>?_;obtain⟨a,o,rfl,_,ho,vs,n,rfl,hl,h12⟩:=π31
 refine zE (rg hl) fun x1 x2 x3 x4 x5 π65=>?_;rcases π65 with rfl
 refine xQ h12 fun π60 π61 π62 π63 ν4 ν5=>?_;try clear h12;obtain⟨t1,e1⟩:=π60;obtain⟨t2,e2⟩:=π61;obtain⟨t3,e3⟩:=π62;obtain⟨t4,e4⟩:=π63
 cases e1;cases e2;cases e3;cases e4
 refine av (S.get hs) fun ν0 os e π53 ν4=>?_;obtain⟨hc,hd⟩:=π53
 refine i9 ⟨_,hk _ _ ho,rfl,n,rfl⟩ ⟨os,e,hc,hd⟩ ?_
 have S1:=S.push (tk:=s.toks) (o:={cls:=.type "tuple",data:=.seq #[.int x.1 t1,.int x.2.1 t2,.int x.2.2.1 t3,.int x.2.2.2.1 t4]}) (pX Ao) (x.1,x.2.1,x.2.2.1,x.2.2.2.1) fun ν ν=>⟨_,0,rfl,rfl,⟨t1,rfl⟩,⟨t2,rfl⟩,⟨t3,rfl⟩,⟨t4,rfl⟩,trivial⟩
 exact h _ _ (S1.freeze .here)
theorem aa.zg{v w:Value}{x:Int×Int×Int×Int}{y:Int}{Q:Value→Shared→Prop}(S:aa c L V G s)(hm: .kn (is (Ty.tup Ao) v x)∈G)(hw: .kn (is (Ty.tup (Row.one ao)) w y)∈G)
 (h:∀v' s',aa c L V (.kn (is (Ty.tup yq) v' (x.1,x.2.1,x.2.2.1,x.2.2.2,y))::G) s'→Q v' s'):Wp c A (binaryOp .Add v w) Q s:=by
 refine aj (S.inst hm) fun B π31 hk=>?_;obtain⟨a,o,rfl,_,ho,vs,n,rfl,hl,h12⟩:=π31
 refine aj (S.inst hw) fun B' π31 hk'=>?_;obtain⟨a',o',rfl,_,ho',vs',n',rfl,hl',h12'⟩:=π31
 refine zx (rq hl) fun x1 x2 x3 x4 π54=>?_;rcases π54 with rfl
 obtain⟨y1,rfl⟩:=fj hl'
 refine kO h12 fun π50 π51 π52 π53 ν4=>?_;try clear h12;obtain⟨t1,e1⟩:=π50;obtain⟨t2,e2⟩:=π51;obtain⟨t3,e3⟩:=π52;obtain⟨t4,e4⟩:=π53
 obtain⟨⟨t5,e5⟩,_⟩:=h12'
 cases e1;cases e2;cases e3;cases e4;cases e5
 refine P.add_tuple (hk _ _ ho) (hk' _ _ ho') (by simp) (by simp) ?_ (by rw[sizeLine_eq];simp)
 have S1:=S.push (tk:=s.toks) (o:={cls:=.type "tuple",data:=.seq #[.int x.1 t1,.int x.2.1 t2,.int x.2.2.1 t3,.int x.2.2.2 t4,.int y t5]}) (pX yq) (x.1,x.2.1,x.2.2.1,x.2.2.2,y) fun ν ν=>⟨_,0,rfl,rfl,⟨t1,rfl⟩,⟨t2,rfl⟩,⟨t3,rfl⟩,⟨t4,rfl⟩,⟨t5,rfl⟩,trivial⟩
 exact h _ _ (S1.freeze .here)
end
end Mine
namespace Mine
section
variable{c:Cx}{A:Around}{L:Addr}{V V':ay}{G R:List Fa}{s:Shared}{env:Env}
end
end Mine
local macro_rules | `(tactic| walk_at "m") => `(tactic| repeat with_reducible first | exact List.mem_cons_self | apply List.mem_cons_of_mem)
local macro_rules | `(tactic| walk_at "c") => `(tactic| repeat with_reducible constructor)
local macro_rules | `(tactic| walk_at "s") => `(tactic| first | (with_reducible first | exact .all | exact .nil | exact .left) | ((with_reducible refine .kn ?_ ?_); (focus (walk_at "m"; done)); walk_at "s") | ((with_reducible apply Mine.Sub.own); (focus (walk_at "c"; done)); walk_at "s") | ((with_reducible refine .drop ?_); walk_at "s") | ((with_reducible refine .right ?_); walk_at "s"))
local macro_rules | `(tactic| walk_at "t") => `(tactic| ((try simp only [List.cons_append, List.nil_append, List.foldl_append, List.foldl_cons, List.foldl_nil]); walk_at "s"))
namespace Mine
section
variable{c:Cx}{A:Around}{L:Addr}{V V':ay}{G R:List Fa}{s:Shared}{env:Env}
noncomputable def cW(acc:List (Tx×Int))(p:Tx×Int):List (Tx×Int):=put acc p.1 (match at' acc p.1 with |some v=>v+p.2|none=>p.2)
noncomputable def gm(xs ys:List (Tx×Int)):List (Tx×Int):=ys.foldl cW (xs.foldl (fun acc p=>put acc p.1 p.2) [])
theorem kD{β:Type}(xs:List (Tx×β))(k:Tx)(v:β):(put xs k v).length≤xs.length+1:=by
 unfold put;split <;> simp
theorem iV(ys xs:List (Tx×Int))(f:List (Tx×Int)→Tx×Int→Int):(ys.foldl (fun acc p=>put acc p.1 (f acc p)) xs).length≤xs.length+ys.length:=by
 induction ys generalizing xs with
 |nil=>simp
 |cons y ys ih=>
  rw[List.foldl_cons]
  have:=ih (put xs y.1 (f xs y))
  have:=kD xs y.1 (f xs y)
  simp only[List.length_cons];exact id (ω72 (ih (put xs y.fst (f xs y))) this)
end
end Mine
namespace Mine
section
variable{c:Cx}{A:Around}{L:Addr}{V V':ay}{G R:List Fa}{s:Shared}{env:Env}
theorem dU{e:Expr}{rest:List Expr}{id:Str}{p pos:Pos}{f:Addr}{oc:Value}{od:Option Addr}{osl:Array (Option Value)}{fd:FuncData}{Q:Value→Shared→Prop}(g:cg c)(S:aa c L V G s)
 (hid:nsIn (aO c) mainGlobals id=some (some (.ref f))) (ho:(aO c).lookup f=some ⟨oc,od,.func fd,osl⟩)
 (h:Wp c A (spliced (backTo pos (starEach (e::rest) env))) (fun vs s₂=>(∃L V G,aa c L V G s₂)∧Wp c A (call (.ref f) vs) Q s₂) s)
 (he:autoParam (starEach (e::rest) env=(false,eval e env)::starEach rest env) af) (hg:autoParam (env.globals=mainGlobals) af) (hk:autoParam (env.scope.kind= .function) af)
 (hx:autoParam (env.kindOf id=some .globalImplicit) b7) (hd:autoParam ((id==("__debug__":Str))=false) b7):Wp c A (eval (.Call (.Name id p) (e::rest) [] pos) env) Q s:=
 yF (o:=⟨oc,od,.func fd,osl⟩) (S.gl g hid ⟨rfl,wpAny_mono h (fun ν ν ⟨⟨_,_,_,S⟩,h⟩=>⟨S.ground (g.X _ _ ho),h⟩) fun ν ν x=>x⟩ hg hk hx hd) rfl he
noncomputable abbrev bk:=Int×Int×Int×Int×List (Tx×Int)
noncomputable abbrev bF(c:Cx):Row bk:=.cons ao (.cons ao (.cons ao (.cons ao (.one (Ty.dct c ao)))))
noncomputable def fP(x y:bk):bk:=(y.1+x.1,y.2.1+x.2.1,y.2.2.1+x.2.2.1,y.2.2.2.1+x.2.2.2.1,gm x.2.2.2.2 y.2.2.2.2)
end
end Mine
namespace Mine
section
variable{c:Cx}{A:Around}{L:Addr}{V V':ay}{G R:List Fa}{s:Shared}{env:Env}{t u:Tok}
noncomputable def signs:List Nat:=[38,60,97,124]
noncomputable def bI(ps:List Tx)(x:Int):Tx:=
 cut ((ps++[[]]).getD (x.fmod (ps.length+1)).toNat []) none (some ((x.fdiv 16).fmod 4))++(List.replicate ((x.fdiv 256).fmod 2+1).toNat [signs.getD ((x.fdiv 64).fmod 4).toNat 0]).flatten
noncomputable def bG(acc:List Tx×List (Tx×Int×Int))(x:Int):List Tx×List (Tx×Int×Int):=
 (if bI acc.1 x∈acc.1 then acc.1 else acc.1++[bI acc.1 x],acc.2++[(bI acc.1 x,x.fmod 5,x.fmod 1000)])
noncomputable def au(xs:List Int):List Tx×List (Tx×Int×Int):=xs.foldl bG ([],[])
noncomputable abbrev dK:Row (Tx×Int×Int):=.cons ah (.cons ao (.one ao))
theorem cT{a b:Int}(h:0<b):0≤a.fmod b∧a.fmod b<b:=⟨Int.fmod_nonneg_of_pos _ h,Int.fmod_lt_of_pos _ h⟩
theorem sG{α:Type}(x:List α)(k:Int)(h:0≤k):(cut x none (some k)).length≤k.toNat:=by
 unfold cut
 simp only[Option.elim,List.drop_zero,Nat.sub_zero,List.length_take]
 have:clipAt x.length k≤k.toNat:=by
  exact ω38 h ((clipAt_cast x.length k).trans (by rw[if_neg (Int.not_lt.2 h)]))
 exact id (ω39 this)
theorem pB(n d:Nat):(List.replicate n [d]).flatten =List.replicate n d:=by
 induction n with
 |zero=>rfl
 |succ n ih=>simp[List.replicate_succ,ih]
theorem ki(ps:List Tx)(x:Int):(bI ps x).length≤5:=by
 have h1:=cT (a:=x.fdiv 16) (b:=4) (by exact ω219)
 have h2:=cT (a:=x.fdiv 256) (b:=2) (by exact ω219)
 have h3:=sG ((ps++[[]]).getD (x.fmod (ps.length+1)).toNat []) ((x.fdiv 16).fmod 4) h1.1
 unfold bI
 rw[List.length_append,pB,List.length_replicate]
 exact id (ω103 h1 h2 h3)
theorem jw(xs:List Int):(au xs).1.length≤xs.length∧(au xs).2.length =xs.length∧(∀p∈(au xs).1,p.length≤5):=by
 have:∀(l done:List Int) (acc:List Tx×List (Tx×Int×Int)),acc.1.length≤done.length→acc.2.length=done.length→(∀p∈acc.1,p.length≤5)→
  (l.foldl bG acc).1.length≤(done++l).length∧(l.foldl bG acc).2.length =(done++l).length∧(∀p∈(l.foldl bG acc).1,p.length≤5):=by
  intro l
  induction l with
  |nil=>intro done acc h1 h2 h3;simpa using⟨h1,h2,h3⟩
  |cons x l ih=>
   intro done acc h1 h2 h3
   have:=ih (done++[x]) (bG acc x) (by unfold bG;dsimp only;split <;> simp <;> lia) (by unfold bG;simp;exact h2) (by
    unfold bG;dsimp only
    split
    ·exact h3
    ·intro p hp
     rcases List.mem_append.mp hp with hp|hp
     ·exact h3 p hp
     ·rw[List.mem_singleton.mp hp];exact ki _ _)
   simpa using this
 have:=this xs [] ([],[]) (by simp) rfl (by simp)
 rw[List.nil_append] at this
 exact this
end
end Mine
namespace Mine
section
variable{c:Cx}{A:Around}{L:Addr}{V V':ay}{G R:List Fa}{s:Shared}{env:Env}{t u:Tok}
noncomputable def dS(xs:List Tx)(p:Int×Tx):Bool:=!decide (p.2∈cut xs none (some p.1))
noncomputable def bX(xs:List Tx):List Tx:=((numbered xs).filter (dS xs)).map (·.2)
end
end Mine
namespace Mine
section
variable{c:Cx}{A:Around}{L:Addr}{V V':ay}{G R:List Fa}{s:Shared}{env:Env}{t u:Tok}
noncomputable abbrev cO:=Tx×Int×Int
noncomputable def below(path x:Tx):Bool:=decide (cut x none (some path.length)=path)
noncomputable abbrev aV(x:Tx):Tx:=cut x (some (-2)) (some (-1))
noncomputable def Ag(x:Tx):Tx:=[x.getD (x.length-1) 0]
noncomputable def ic(x:Tx):Bool:=decide (cnt x (Ag x)=1)
noncomputable def aX(path:Tx)(samples:List cO):List cO:=samples.filter fun p=>below path p.1
noncomputable abbrev yi:Row (Int×Int×Int×Int):=.cons ao (.cons ao (.cons ao (.one ao)))
noncomputable abbrev yv:Row (Tx×Int):=.cons ah (.one ao)
noncomputable abbrev rJ:Row ((Int×Int×Int×Int)×List (Tx×Int)×Int):=.cons (Ty.tup yi) (.cons (Ty.list (Ty.tup yv)) (.one ao))
noncomputable def calledBy(w:List cO)(name:Tx):Int:=(w.filter fun p=>decide (aV p.1=name)).length
noncomputable def dF(path:Tx)(order:List Tx)(samples:List cO):(Int×Int×Int×Int)×List (Tx×Int)×Int:=
 (((((aX path samples).filter fun p=>ic p.1).length :Nat),((aX path samples).length :Nat),((aX path samples).map (·.2.1)).sum,((aX path samples).map (·.2.2)).sum),
   (bX ((order.filter (below path)).map aV)).map fun name=>(name,calledBy (aX path samples) name),((aX path samples).length :Nat))
theorem pN{x:Tx}(h:x≠[]):seqIndex? (-1) x.length=some (x.length-1)∧x[x.length-1]?=some (x.getD (x.length-1) 0):=by
 have hl:0<x.length:=List.length_pos_iff.mpr h
 refine⟨?_,?_⟩
 ·rw[Bw (by decide) (by lia)]
  congr 1;exact ω106
 ·rw[List.getD_eq_getElem?_getD,List.getElem?_eq_getElem (by exact ω56 hl)];rfl
end
end Mine
namespace Mine
section
variable{c:Cx}{A:Around}{L:Addr}{V V':ay}{G R:List Fa}{s:Shared}{env:Env}{t u:Tok}
noncomputable def iI:Tx:=[38,108,116,59]
noncomputable def bP:Tx:=[38,97,109,112,59]
noncomputable def plainT(x:Tx):Tx:=dR (dR x iI [60]) bP [38]
end
end Mine
namespace Mine
section
variable{c:Cx}{A:Around}{L:Addr}{V V':ay}{G R:List Fa}{s:Shared}{env:Env}{t u:Tok}
noncomputable abbrev Told:=Int×Tx×bk
noncomputable abbrev bu(c:Cx):Row Told:=.cons ao (.cons ah (.one (Ty.tup (bF c))))
noncomputable abbrev fL:Row (Tx×List Tx):=.cons ah (.one (Ty.list ah))
noncomputable abbrev lW(c:Cx):Row (Tx×bk):=.cons ah (.one (Ty.tup (bF c)))
noncomputable abbrev yk(c:Cx):Row (List (Tx×List Tx)×List (Tx×bk)):=.cons (Ty.list (Ty.tup fL)) (.one (Ty.list (Ty.tup (lW c))))
noncomputable def orderOf(told:List Told):List Told:=(runs 0 1 told.length).flatMap fun n=>told.filter fun one=>decide (one.1=n)
noncomputable abbrev RS:=List (Tx×List Tx)×List (Tx×bk)×List (Tx×bk)
noncomputable def mQ(order:List Told)(st:RS):Option RS:=(order[st.1.length]?).map fun o=>(st.1++[(o.2.1,st.2.2.reverse.map (·.1))],st.2.1,(o.2.1,o.2.2)::st.2.2)
noncomputable def fF(order:List Told):Nat→RS→Option RS
 |0,st=>some st
 |k+1,st=>(mQ order st).bind (fF order k)
noncomputable def bump(f:bk):List (Tx×bk)→List (Tx×bk)
 | []=>[]
 |(h,g)::r=>(h,fP g f)::r
noncomputable def uQ(path:Tx)(st:RS):Option RS:=match st.2.2 with
 | []=>none
 |(h,f)::r=>if h=path then some (st.1,st.2.1++[(path,f)],bump f r) else none
noncomputable def pW(order:List Told)(st:RS)(one:Told):Option RS:=(fF order ((one.1+1).toNat -st.1.length) st).bind (uQ one.2.1)
noncomputable def gE(order:List Told):List Told→RS→Option RS
 | [],st=>some st
 |o::r,st=>(pW order st o).bind (gE order r)
noncomputable abbrev Item:=Addr×Tx×bk
noncomputable def c7:Ty Item:=⟨fun ν v p=>v= .ref p.1,fun ν r=>r⟩
noncomputable abbrev AB(c:Cx):Tb (Tx×bk):=gS ah (Ty.tup (bF c))
noncomputable def stk(c:Cx)(items:List Item):List Fa:=items.map fun p=>.ow (own p.1 (AB c) p.2)
noncomputable def lJ(l:List (Tx×bk)):Nat:=(l.map fun p=>p.2.2.2.2.2.length).sum
theorem aa.zl{α β:Type}{a:Addr}{T:Tb α}{x:α}(S:aa c L V G s)(h:bA G (.ow (own a T x)) R)(T':Tb β)(x':β)(hr:∀B o,T.rel B o x→T'.rel B o x'):aa c L V (.ow (own a T' x')::R) s:=by
 refine av (S.get (h.perm.mem_iff.mpr (.head _))) fun B o e r ν4=>?_
 exact S.turn (tk:=s.toks) h T' x' (Heap.SameBut.refl ..) e fun B' o' e' ν r'=>by rw[e] at e';cases e';exact hr B' o r'
theorem ve{B:Mem}{vs:List Value}{xs ys:List Item}(h:az (c7.rel B) vs xs)(e:xs.map (·.1)=ys.map (·.1)):az (c7.rel B) vs ys:=by
 induction h generalizing ys with
 |nil=>cases ys with
  |nil=>exact .nil
  |cons _ _=>cases e
 |cons h _ ih=>cases ys with
  |nil=>cases e
  |cons y r=>
   have e1:_∧_:=List.cons.inj e
   exact .cons (h.trans (congrArg Value.ref e1.1)) (ih e1.2)
theorem qi(xs ys:List (Tx×Int)):(gm xs ys).length≤xs.length+ys.length:=by
 have h1:=iV xs [] (fun ν p=>p.2)
 have h3:=iV ys (xs.foldl (fun acc p=>put acc p.1 p.2) []) (fun acc p=>match at' acc p.1 with |some v=>v+p.2|none=>p.2)
 simp at h1
 have:(gm xs ys).length≤(xs.foldl (fun acc p=>put acc p.1 p.2) []).length +ys.length:=h3
 exact id (ω195 h1 this)
theorem tL(told:List Told):(orderOf told).length≤told.length*told.length:=by
 unfold orderOf
 have:∀(l:List Int),(l.flatMap fun n=>told.filter fun one=>decide (one.1=n)).length≤l.length*told.length:=by
  intro l
  induction l with
  |nil=>simp
  |cons x l ih=>
   rw[List.flatMap_cons,List.length_append,List.length_cons,Nat.succ_mul]
   have:=List.length_filter_le (fun one:Told=>decide (one.1=x)) told
   exact id (ω71 ih this)
 have h:=this (runs 0 1 told.length)
 rwa [show(runs 0 1 told.length).length =told.length from by simp[runs]] at h
theorem sO{told:List Told}{o:Told}(h:o∈orderOf told):o∈told:=by
 unfold orderOf at h
 refine aj (List.mem_flatMap.mp h) fun n ν1 h=>?_
 exact(List.mem_filter.mp h).1
end
end Mine
namespace Mine
section
variable{c:Cx}{A:Around}{L:Addr}{V V':ay}{G R:List Fa}{s:Shared}{env:Env}{t u:Tok}
noncomputable abbrev pH:=Int×Int×Int×Int×Int
inductive Line
 |ns (nm uri:Tx)
 |ln (num:Int) (path:Tx) (f:pH)
noncomputable def iP:Tx:=[120,109,108,110,115]
noncomputable def Line.known:Line→Option (Tx×Tx)
 | .ns nm uri=>some (nm,uri)
 | .ln .. =>none
noncomputable def Line.told:Line→Option Told
 | .ns .. =>none
 | .ln num path f=>some (num,path,(f.1,f.2.1,f.2.2.1,f.2.2.2.1,[(aV path,f.2.2.2.2)]))
noncomputable def fS(f:pH):List Tx:=[bZ f.1,bZ f.2.1,bZ f.2.2.1,bZ f.2.2.2.1,bZ f.2.2.2.2]
noncomputable def Small(i:Int):Prop:=0≤i∧i<10^10
noncomputable def Named(a pf lo:Tx):Prop:=∃seg,(aJ a [32])[1]?=some seg∧aJ (cut seg none (some (-1))) [58]=[pf,lo]∧seg.length≤1000∧pf.length≤100∧lo.length≤100
noncomputable def kJ(known:List (Tx×Tx))(a b:Tx):Line→Prop
 | .ns nm uri=>Named a iP nm∧plainT b=uri∧(dR b iI [60]).length≤1000
 | .ln num path f=>∃pf lo,Named a pf lo∧pf≠iP∧pf.length≤100∧((known.filter fun p=>decide (p.1=pf)).map (·.2)).getLast? =some path∧path.length≤100∧aJ b [32]=fS f∧
    Small f.1∧Small f.2.1∧Small f.2.2.1∧Small f.2.2.2.1∧Small f.2.2.2.2∧cut pf (some 1) none=bZ num∧Small num
end
end Mine
namespace Mine
theorem xq(x:Str):tx x.cps.toList=x:=by cases x;simp[tx]
theorem pg(l:List Str):(jG l).map tx=l:=by
 unfold jG
 rw[List.map_map]
 exact(List.map_congr_left fun x ν=>xq x).trans (List.map_id l)
noncomputable def glue(z:Tx):List Tx→Tx
 | []=>[]
 | [a]=>a
 |a::b::r=>a++z++glue z (b::r)
theorem app_list(x y:Str):(x++y).cps.toList =x.cps.toList++y.cps.toList:=by
 show(x.cps++y.cps).toList =_
 simp
theorem iH(z:Tx):∀l:List Tx,(Str.join (tx z) (l.map tx)).cps.toList =glue z l
 | []=>rfl
 | [a]=>bO a
 |a::b::r=>by
  show(tx a++tx z++Str.join (tx z) ((b::r).map tx)).cps.toList =a++z++glue z (b::r)
  rw[app_list,app_list,bO,bO,iH z (b::r)]
theorem jZ(z:Tx)(l:List Tx):cE z l=glue z l:=by
 unfold cE Txt.join
 rw[StrLaws.glued_eq_join]
 exact iH z l
theorem iU:∀l:List Tx,glue [] l=l.flatten
 | []=>rfl
 | [a]=>by simp[glue]
 |a::b::r=>by
  show a++[]++glue [] (b::r)=_
  rw[iU (b::r)];simp
theorem vF{c:Nat}:∀{a b X Y:Tx},c∉a→c∉b→a++c::X=b++c::Y→a=b∧X=Y
 | [],[],_,_,_,_,h=>⟨rfl,(List.cons.inj h).2⟩
 | [],d::b,_,_,_,hb,h=>absurd ((List.cons.inj h).1▸List.mem_cons_self) hb
 |d::a,[],_,_,ha,_,h=>absurd ((List.cons.inj h).1▸List.mem_cons_self) ha
 |d::a,e::b,X,Y,ha,hb,h=>by
  obtain⟨h1,h2⟩:=List.cons.inj h
  obtain⟨h3,h4⟩:=vF (fun q=>ha (.tail _ q)) (fun q=>hb (.tail _ q)) h2
  exact⟨by rw[h1,h3],h4⟩
theorem iT{z a:Tx}{l:List Tx}(h:l≠[]):glue z (a::l)=a++z++glue z l:=by
 cases l with
 |nil=>exact absurd rfl h
 |cons b r=>rfl
theorem pF{c:Nat}:∀{l m:List Tx},l≠[]→m≠[]→(∀p∈l,c∉p)→(∀p∈m,c∉p)→glue [c] l=glue [c] m→l=m
 | [],_,h,_,_,_,_=>absurd rfl h
 |_,[],_,h,_,_,_=>absurd rfl h
 | [a],[b],_,_,_,_,h=>by rw[show a=b from h]
 | [a],b::b'::r,_,_,ha,_,h=>by
   refine absurd ?_ (ha a (.head _))
   rw[show a=b++[c]++glue [c] (b'::r) from h]
   simp
 |a::a'::r,[b],_,_,_,hb,h=>by
  refine absurd ?_ (hb b (.head _))
  rw[show b=a++[c]++glue [c] (a'::r) from h.symm]
  simp
 |a::a'::r,b::b'::r',_,_,ha,hb,h=>by
  have h1:a++c::glue [c] (a'::r)=b++c::glue [c] (b'::r'):=by
   have h:a++[c]++glue [c] (a'::r)=b++[c]++glue [c] (b'::r'):=h
   simpa using h
  obtain⟨e1,e2⟩:=vF (ha a (.head _)) (hb b (.head _)) h1
  rw[e1,pF (List.cons_ne_nil _ _) (List.cons_ne_nil _ _) (fun p hp=>ha p (.tail _ hp)) (fun p hp=>hb p (.tail _ hp)) e2]
theorem vM(x y:Str):Txt.split x y≠[]:=by
 unfold Txt.split
 split
 ·exact List.cons_ne_nil _ _
 ·split
  ·exact List.cons_ne_nil _ _
  ·rw[StrLaws.partsBetween_eq]
   refine fZ (StrLaws.partsFrom_ne x y.length 0 (Builtin.Str.occurrences x y 0 x.length (x.length+1))) fun p r h=>?_
   rw[h]
   exact List.cons_ne_nil _ _
theorem jb(x y:Tx):aJ x y≠[]:=fun h=>vM (tx x) (tx y) (List.map_eq_nil_iff.mp h)
theorem dB(x:Tx)(c:Nat):glue [c] (aJ x [c])=x:=by
 have h:=StrLaws.join_split (tx x) (tx [c])
 have h2:=iH [c] (aJ x [c])
 rw[show(aJ x [c]).map tx=Txt.split (tx x) (tx [c]) from pg _,h,bO] at h2
 exact h2.symm
theorem dW(x:Tx)(c:Nat):∀p∈aJ x [c],c∉p:=by
 intro p hp
 refine aj (List.mem_map.mp hp) fun q hq π32=>?_;rcases π32 with rfl
 exact StrLaws.split_free (tx x) c q hq
theorem cZ{c:Nat}{l:List Tx}(h:l≠[])(hf:∀p∈l,c∉p):aJ (glue [c] l) [c]=l:=
 pF (jb _ _) h (dW _ _) hf (dB _ _)
noncomputable def subst1(c:Nat)(z:Tx)(x:Tx):Tx:=x.flatMap fun a=>if a=c then z else[a]
theorem c5{c:Nat}{z:Tx}:∀{x:Tx},c∉x→subst1 c z x=x
 | [],_=>rfl
 |a::x,h=>by
  have h1:a≠c:=fun q=>h (q▸List.mem_cons_self)
  have h2:=c5 (z:=z) (x:=x) fun q=>h (.tail _ q)
  show(if a=c then z else[a])++subst1 c z x=a::x
  rw[if_neg h1,h2];rfl
theorem lg{c:Nat}{z x y:Tx}:subst1 c z (x++y)=subst1 c z x++subst1 c z y:=List.flatMap_append ..
theorem jB{c:Nat}{z:Tx}:∀{l:List Tx},(∀p∈l,c∉p)→subst1 c z (glue [c] l)=glue z l
 | [],_=>rfl
 | [a],h=>c5 (h a (.head _))
 |a::b::r,h=>by
  show subst1 c z (a++[c]++glue [c] (b::r))=a++z++glue z (b::r)
  rw[lg,lg,c5 (h a (.head _)),jB fun p hp=>h p (.tail _ hp)]
  show a++((if c=c then z else[c])++[])++_=_
  rw[if_pos rfl,List.append_nil]
theorem yH(x z:Tx)(c:Nat):dR x [c] z=subst1 c z x:=by
 unfold dR
 rw[show tx [c]=⟨#[c]⟩ from rfl,StrLaws.replace_one]
 have h1:=iH z (aJ x [c])
 rw[show(aJ x [c]).map tx=Txt.split (tx x) (tx [c]) from pg _] at h1
 rw[show(⟨#[c]⟩:Str)=tx [c] from rfl,h1,←jB (dW x c),dB]
noncomputable def cJ(y:Tx):Nat→Tx→Nat
 |_,[]=>0
 |k+1,_::r=>cJ y k r
 |0,a::r=>if y.isPrefixOf (a::r)=true then 1+cJ y (y.length-1) r else cJ y 0 r
noncomputable def fB(y z:Tx):Nat→Tx→Tx
 |_,[]=>[]
 |k+1,_::r=>fB y z k r
 |0,a::r=>if y.isPrefixOf (a::r)=true then z++fB y z (y.length-1) r else a::fB y z 0 r
theorem mX{y:Tx}:∀(k:Nat) (x:Tx),cJ y k x=cJ y 0 (x.drop k)
 |0,x=>rfl
 |k+1,[]=>rfl
 |k+1,_::r=>mX k r
theorem mh{y z:Tx}:∀(k:Nat) (x:Tx),fB y z k x=fB y z 0 (x.drop k)
 |0,x=>rfl
 |k+1,[]=>rfl
 |k+1,_::r=>mh k r
theorem je{x y:Tx}{i:Nat}(hy:y≠[]):StrLaws.At (tx x) (tx y) (tx x).length i↔y.isPrefixOf (x.drop i)=true:=by
 unfold StrLaws.At
 rw[StrLaws.subAt_eq,bO,bO,aq,aq,beq_iff_eq,List.isPrefixOf_iff_prefix,List.prefix_iff_eq_take]
 constructor
 ·exact fun h=>h.2.symm
 ·intro h
  refine⟨?_,h.symm⟩
  have h1:=congrArg List.length h
  have h2:=List.length_pos_iff.mpr hy
  simp only[List.length_take,List.length_drop] at h1
  exact id (ω60 h2 h1)
theorem kU{x y:Tx}:∀{m a:Nat},(∀k,a≤k→k<a+m→¬y.isPrefixOf (x.drop k)=true)→cJ y 0 (x.drop a)=cJ y 0 (x.drop (a+m))
 |0,_,_=>rfl
 |m+1,a,h=>by
  have h1:=h a (Nat.le_refl _) (by exact ω74 rfl)
  rw[show a+(m+1)=(a+1)+m from(ω73 rfl).symm,←kU (m:=m) (a:=a+1) fun k h1 h2=>h k (by exact ω88 h1) (by exact ω94 h2)]
  by_cases hl:a<x.length
  ·rw[List.drop_eq_getElem_cons hl] at h1⊢
   exact if_neg h1
  ·rw[List.drop_eq_nil_of_le (by lia),List.drop_eq_nil_of_le (by exact ω96 hl)]
theorem kW{x y z:Tx}:∀{m a:Nat},(∀k,a≤k→k<a+m→¬y.isPrefixOf (x.drop k)=true)→fB y z 0 (x.drop a)=(x.drop a).take m++fB y z 0 (x.drop (a+m))
 |0,_,_=>rfl
 |m+1,a,h=>by
  have h1:=h a (Nat.le_refl _) (by exact ω74 rfl)
  have ih:=kW (z:=z) (m:=m) (a:=a+1) fun k h1 h2=>h k (by exact ω88 h1) (by exact ω94 h2)
  rw[show a+(m+1)=(a+1)+m from(ω73 rfl).symm]
  by_cases hl:a<x.length
  ·rw[List.drop_eq_getElem_cons hl] at h1⊢
   show(if _ then _ else _)=_
   rw[if_neg h1,ih]
   rfl
  ·rw[List.drop_eq_nil_of_le (by lia),List.drop_eq_nil_of_le (by exact ω95 hl)]
   rfl
theorem uZ{y l:Tx}(hy:y≠[])(h:y.isPrefixOf l=true):cJ y 0 l=1+cJ y 0 (l.drop y.length):=by
 have h2:=List.length_pos_iff.mpr hy
 cases l with
 |nil=>
  exact absurd (List.prefix_nil.mp (List.isPrefixOf_iff_prefix.mp h)) hy
 |cons a r=>
  show(if _ then _ else _)=_
  rw[if_pos h,mX]
  obtain⟨k,hk⟩:∃k,y.length=k+1:=⟨y.length-1,by exact ω59 h2⟩
  rw[hk];rfl
theorem vh{y z l:Tx}(hy:y≠[])(h:y.isPrefixOf l=true):fB y z 0 l=z++fB y z 0 (l.drop y.length):=by
 have h2:=List.length_pos_iff.mpr hy
 cases l with
 |nil=>
  exact absurd (List.prefix_nil.mp (List.isPrefixOf_iff_prefix.mp h)) hy
 |cons a r=>
  show(if _ then _ else _)=_
  rw[if_pos h,mh]
  obtain⟨k,hk⟩:∃k,y.length=k+1:=⟨y.length-1,by exact ω59 h2⟩
  rw[hk];rfl
theorem j4{x y:Tx}(hy:y≠[]):∀{cuts:List Nat} {a f:Nat},StrLaws.ChainG (tx x) (tx y) (tx x).length a cuts f→(∀k,f≤k→¬StrLaws.At (tx x) (tx y) (tx x).length k)→cuts.length=cJ y 0 (x.drop a)
 | [],a,f,h,hn=>by
   obtain rfl:f=a:=h
   rw[kU (m:=x.length) fun k h1 ν=>fun q=>hn k h1 ((je hy).mpr q),List.drop_eq_nil_of_le (by lia)];rfl
 |c::r,a,f,h,hn=>by
  refine j9 h fun h1 h2 h3 h4=>?_;try clear h
  have h5:=kU (x:=x) (y:=y) (a:=a) (m:=c-a) fun k q1 q2=>fun q=>h3 k q1 (by exact ω99 h1 q2) ((je hy).mpr q)
  rw[h5,show a+(c-a)=c from by exact ω98 (by assumption),uZ hy ((je hy).mp h2),List.drop_drop,List.length_cons,j4 hy h4 hn,aq]
  lia
theorem lC{x y z:Tx}(hy:y≠[]):∀{cuts:List Nat} {a f:Nat},StrLaws.ChainG (tx x) (tx y) (tx x).length a cuts f→(∀k,f≤k→¬StrLaws.At (tx x) (tx y) (tx x).length k)→
 (Str.join (tx z) (StrLaws.partsFrom (tx x) (tx y).length a cuts)).cps.toList =fB y z 0 (x.drop a)
 | [],a,f,h,hn=>by
   obtain rfl:f=a:=h
   rw[kW (m:=x.length) fun k h1 ν=>fun q=>hn k h1 ((je hy).mpr q),List.drop_eq_nil_of_le (i:=f+x.length) (by lia)]
   show(Builtin.Str.strSub (tx x) f (tx x).length).cps.toList =_
   rw[StrLaws.strSub_toList,bO,aq]
   show _=_++[]
   rw[List.append_nil,List.take_of_length_le (by rw[List.length_drop];lia),List.take_of_length_le (by rw[List.length_drop];exact ω46)]
 |c::r,a,f,h,hn=>by
  refine j9 h fun h1 h2 h3 h4=>?_;try clear h
  have h5:=kW (x:=x) (y:=y) (z:=z) (a:=a) (m:=c-a) fun k q1 q2=>fun q=>h3 k q1 (by exact ω99 h1 q2) ((je hy).mpr q)
  have h6:=lC (z:=z) hy h4 hn
  rw[h5,show a+(c-a)=c from by exact ω98 (by assumption),vh hy ((je hy).mp h2),List.drop_drop,←aq y,←h6]
  show(Str.join (tx z) (Builtin.Str.strSub (tx x) a c::StrLaws.partsFrom (tx x) (tx y).length (c+(tx y).length) r)).cps.toList =_
  refine fZ (StrLaws.partsFrom_ne (tx x) (tx y).length (c+(tx y).length) r) fun p q e=>?_
  rw[e]
  show(Builtin.Str.strSub (tx x) a c++tx z++Str.join (tx z) (p::q)).cps.toList =_
  rw[app_list,app_list,StrLaws.strSub_toList,bO,bO,List.append_assoc]
theorem nq{x y:Tx}(hy:y≠[]):cnt x y=(cJ y 0 x:Nat):=by
 refine aj (StrLaws.occ_tight (tx x) (tx y) (by rw[aq];exact List.length_pos_iff.mpr hy)) fun f h1 h2=>?_
 have h3:=j4 hy h1 h2
 unfold cnt Txt.count
 rw[h3];rfl
theorem rC{x y z:Tx}(hy:y≠[]):dR x y z=fB y z 0 x:=by
 refine aj (StrLaws.occ_tight (tx x) (tx y) (by rw[aq];exact List.length_pos_iff.mpr hy)) fun f h1 h2=>?_
 have h3:=lC (z:=z) hy h1 h2
 have hl:((tx y).length ==0)=false:=by rw[aq,beq_eq_false_iff_ne];exact fun q=>hy (List.length_eq_zero_iff.mp q)
 unfold dR Txt.replace
 rw[hl,Bool.false_and,Bool.or_false]
 split
 ·rename_i he
  rw[List.isEmpty_iff.mp he] at h3
  rw[bO]
  refine Eq.trans ?_ h3
  show x=(Builtin.Str.strSub (tx x) 0 (tx x).length).cps.toList
  rw[StrLaws.strSub_toList,bO,aq,List.drop_zero,Nat.sub_zero,List.take_length]
 ·rw[StrLaws.glued_eq_join,StrLaws.partsBetween_eq]
  exact h3
theorem zP(x:Tx)(c:Nat):Txt.contains (tx x) (tx [c])=decide (c∈x):=by
 unfold Txt.contains
 rw[show tx [c]=⟨#[c]⟩ from rfl,StrLaws.found_one,bO]
theorem sj{x:Tx}{c:Nat}(h:c∈x):(decide ((tx x).length <(tx [c]).length)||decide (Builtin.Str.strKind (tx x)<Builtin.Str.strKind (tx [c])))=false:=by
 rw[Bool.or_eq_false_iff,decide_eq_false_iff_not,decide_eq_false_iff_not]
 refine⟨?_,fun q=>StrLaws.kind_free (tx x) c q (by rw[bO];exact h)⟩
 have:=List.length_pos_of_mem h
 rw[aq,aq]
 exact fun a=>ω209 this a
theorem oR{a b:Tx}{c:Nat}:jG (Builtin.Str.partsBetween (tx (a++c::b)) [a.length] (tx [c]).length)=[a,b]:=by
 rw[StrLaws.partsBetween_eq]
 show[(Builtin.Str.strSub _ 0 a.length).cps.toList,(Builtin.Str.strSub _ (a.length+1) _).cps.toList]=_
 rw[StrLaws.strSub_toList,StrLaws.strSub_toList,bO,aq]
 congr 1
 ·simp
 ·congr 1
  rw[show a++c::b=(a++[c])++b from by simp,show a.length+1=(a++[c]).length from by simp,List.drop_left,List.take_of_length_le]
  simp;exact ω52
theorem nK{x:Tx}{c i:Nat}:StrLaws.At (tx x) (tx [c]) (tx x).length i↔x[i]?=some c:=by
 have:=StrLaws.subAt_one (tx x) c i
 rw[bO] at this
 exact this
theorem tQ{a b:Tx}{c:Nat}(h:c∉a):gz (a++c::b) [c]=[a,b]:=by
 unfold gz Txt.splitMax
 rw[sj (by simp),if_neg Bool.false_ne_true]
 have hl:PySem.limitOf (tx (a++c::b)) 1=1:=rfl
 rw[hl]
 have h0:StrLaws.At (tx (a++c::b)) (tx [c]) (tx (a++c::b)).length a.length:=nK.mpr (by simp)
 rcases StrLaws.occ_head (tx (a++c::b)) (tx [c]) 1 (Nat.le_refl _) with⟨_,hn⟩|⟨i,r,he,hi,hk⟩
 ·exact absurd h0 (hn _)
 ·have hlen:=StrLaws.occ_length_le (tx (a++c::b)) (tx [c]) 0 (tx (a++c::b)).length 1
  rw[he] at hlen⊢
  have hr:r=[]:=by
   cases r with
   |nil=>rfl
   |cons _ _=>simp at hlen
  subst hr
  have hia:i=a.length:=by
   rcases Nat.lt_trichotomy i a.length with q|q|q
   ·have:=nK.mp hi
    rw[List.getElem?_append_left q] at this
    exact absurd (List.mem_of_getElem? this) h
   ·exact q
   ·exact absurd h0 (hk _ q)
  subst hia
  rw[if_neg (by simp)]
  exact oR
theorem jg{s sub:Str}{lim:Nat}{l':List Nat}:∀{l:List Nat} {st:Array Nat×Nat},(∀k∈l,¬(st.1.size<lim∧s.length-k+sub.length≤st.2∧Builtin.Str.subAt s sub (s.length-k)=true))→
 (forIn (l++l') st (StrLaws.occRBody s sub lim):Id _).run =(forIn l' st (StrLaws.occRBody s sub lim):Id _).run
 | [],_,_=>rfl
 |a::l,st,h=>by
  rw[List.cons_append,List.forIn_cons]
  unfold StrLaws.occRBody
  rw[if_neg fun q=>h a (.head _) ⟨q.1.1,q.1.2,q.2⟩]
  exact jg fun k hk=>h k (.tail _ hk)
theorem q6{a b:Tx}{c:Nat}(h:c∉b):cK (a++c::b) [c]=[a,b]:=by
 unfold cK Txt.rsplitMax
 rw[sj (by simp),if_neg Bool.false_ne_true]
 have hl:PySem.limitOf (tx (a++c::b)) 1=1:=rfl
 rw[hl]
 have h0:StrLaws.At (tx (a++c::b)) (tx [c]) (tx (a++c::b)).length a.length:=nK.mpr (by simp)
 have hx:(tx (a++c::b)).length =a.length+1+b.length:=by rw[aq];simp;lia
 have hocc:Builtin.Str.occurrencesFromRight (tx (a++c::b)) (tx [c]) 1=[a.length]:=by
  rw[StrLaws.occR_eq,hx]
  rw[show List.range' 0 (a.length+1+b.length+1)=List.range' 0 (b.length+1)++(b.length+1)::List.range' (b.length+2) a.length from by
   rw[show a.length+1+b.length+1=(b.length+1)+(a.length+1) from by lia,←List.range'_append_1 (s:=0) (m:=b.length+1),Nat.zero_add]
   rw[List.range'_succ (s:=b.length+1)]]
  rw[jg]
  ·rw[List.forIn_cons]
   have e:(tx (a++c::b)).length -(b.length+1)=a.length:=by rw[hx];exact ω51
   have e2:StrLaws.occRBody (tx (a++c::b)) (tx [c]) 1 (b.length+1) (#[],a.length+1+b.length)=pure (ForInStep.yield (#[a.length],a.length)):=by
    unfold StrLaws.occRBody
    rw[e,if_pos]
    ·rfl
    ·exact⟨⟨by show 0<1;decide,Nat.le_add_right _ _⟩,h0.2⟩
   rw[e2]
   show(forIn (List.range' (b.length+2) a.length) (#[a.length],a.length) (StrLaws.occRBody _ _ 1):Id _).run.fst.toList.reverse =_
   rw[←List.append_nil (List.range' (b.length+2) a.length),jg fun k ν q=>absurd q.1 (by simp)]
   rfl
  ·intro k hk q
   have hk':k≤b.length:=by
    have:=List.mem_range'.mp hk
    refine aj this fun i hi e=>?_;try clear this
    exact id (ω165 hi e)
   rw[hx] at q
   have q1:=nK.mp ⟨by rw[hx];exact q.2.1,q.2.2⟩
   rw[List.getElem?_append_right (by exact ω49 hk'),show a.length+1+b.length-k-a.length=(b.length-k)+1 from by exact ω48 hk',List.getElem?_cons_succ] at q1
   exact h (List.mem_of_getElem? q1)
 rw[hocc,if_neg (by simp)]
 exact oR
theorem jV(m:Nat):bZ (m:Int)=(Nat.toDigits 10 m).map Char.toNat:=KIN.signs_num m
theorem qZ:∀{c:Char},c.isDigit=true→48≤c.toNat∧c.toNat≤57:=by
 intro c h
 have:=(Char.isDigit_iff_toNat).mp h
 exact this
theorem jx{m:Nat}:∀a∈bZ (m:Int),48≤a∧a≤57:=by
 intro a ha
 rw[jV] at ha
 refine aj (List.mem_map.mp ha) fun c hc π32=>?_;rcases π32 with rfl
 exact qZ (Nat.isDigit_of_mem_toDigits (by decide) (by decide) hc)
theorem pU{m n:Nat}(h:bZ (m:Int)=bZ (n:Int)):m=n:=by
 rw[jV,jV] at h
 rw[←KIN.val_back m,←KIN.val_back n,h]
end Mine
namespace Mine
noncomputable abbrev Res:=ay→List Fa→Prop
noncomputable abbrev Arg:=Value→MP
noncomputable def ar{α:Type}(T:Ty α)(a:α):Arg:=fun v=>is T v a
noncomputable def aD(w:Value):Arg:=fun v=>⟨fun ν=>v=w,fun ν h=>h⟩
noncomputable def loc(x:Str)(p:Arg):Res:=fun W H=>∃v,W=[(x,some v)]∧H=[.kn (p v)]
noncomputable def un(x:Str):Res:=fun W H=>∃o,W=[(x,o)]∧H=[]
noncomputable def eW(ca:Addr)(p:Arg):Res:=fun W H=>∃v,W=[]∧H=[.ow (own ca bB (some v)),.kn (p v)]
noncomputable def jE(ca:Addr):Res:=fun W H=>∃o,W=[]∧H=[.ow (own ca bB o)]
noncomputable def fa(f:Fa):Res:=fun W H=>W=[]∧H=[f]
inductive aE:List Res→ay→List Fa→Prop
 |nil:aE [] [] []
 |cons {r:Res} {E W W' H H'}:r W H→aE E W' H'→aE (r::E) (W++W') (H++H')
noncomputable def Hd(c:Cx)(L:Addr)(E:List Res)(F:List Fa)(s:Shared):Prop:=∃W H,aE E W H∧aa c L W (F++H) s
inductive Upd:List Res→Res→Res→List Res→Prop
 |here {r r' E}:Upd (r::E) r r' (r'::E)
 |there {q r r' E E'}:Upd E r r' E'→Upd (q::E) r r' (q::E')
theorem aE.mem{E:List Res}{W:ay}{H:List Fa}{r:Res}(h:aE E W H)(hm:r∈E):∃W1 H1,r W1 H1∧(∀p∈W1,p∈W)∧∀f∈H1,f∈H:=by
 induction h with
 |nil=>cases hm
 |cons a _ ih=>
  cases hm with
  |head=>exact⟨_,_,a,fun ν h=>List.mem_append_left _ h,fun ν h=>List.mem_append_left _ h⟩
  |tail _ hm=>
   refine av (ih hm) fun W1 H1 h1 h2 h3=>?_
   exact⟨W1,H1,h1,fun p h=>List.mem_append_right _ (h2 p h),fun f h=>List.mem_append_right _ (h3 f h)⟩
theorem aE.upd{E E':List Res}{W:ay}{H:List Fa}{r r':Res}(h:aE E W H)(u:Upd E r r' E'):
 ∃W0 W1 W2 H0 H1 H2,r W1 H1∧W=W0++(W1++W2)∧H=H0++(H1++H2)∧∀X Y,r' X Y→aE E' (W0++(X++W2)) (H0++(Y++H2)):=by
 induction u generalizing W H with
 |here=>
  cases h with
  |cons a b=>exact⟨[],_,_,[],_,_,a,rfl,rfl,fun X Y h=>aE.cons (W:=X) (H:=Y) h b⟩
 |there _ ih=>
  cases h with
  | @cons _ _ Wq W' Hq H' a b=>
    obtain⟨W0,W1,W2,H0,H1,H2,h1,e1,e2,k⟩:=ih b
    refine⟨Wq++W0,W1,W2,Hq++H0,H1,H2,h1,by rw[e1,List.append_assoc],by rw[e2,List.append_assoc],fun X Y h=>?_⟩
    rw[List.append_assoc,List.append_assoc]
    exact .cons a (k X Y h)
theorem rB.in{W0 W2:ay}{x:Str}{o:Option Value}{v:Value}:rB (W0++([(x,o)]++W2)) x v (W0++([(x,some v)]++W2)):=by
 induction W0 with
 |nil=>exact .here
 |cons p W0 ih=>exact .there ih
section
variable{c:Cx}{A:Around}{L:Addr}{E E' E1 E2:List Res}{F:List Fa}{s:Shared}{env:PySem.Env}{p q r:Arg}{n:Nat}
theorem aE.fact{W:ay}{H:List Fa}{f:Fa}(h:aE E W H)(hm:fa f∈E):f∈F++H:=by
 refine av (h.mem hm) fun ν0 ν1 π52 ν3 h2=>?_;obtain⟨_,rfl⟩:=π52
 exact List.mem_append_right _ (h2 _ (.head _))
noncomputable def Ev(c:Cx)(A:Around)(L:Addr)(E:List Res)(X:Sem Value)(p:Arg)(E':List Res):Prop:=
 ∀F s,Hd c L E F s→Wp c A X (fun v s'=>Hd c L E' (.kn (p v)::F) s') s
noncomputable def dN(c:Cx)(A:Around)(L:Addr)(E:List Res)(X:Sem Value){α:Type}(T:Tb α)(a:α)(E':List Res):Prop:=
 ∀F s,Hd c L E F s→Wp c A X (fun v s'=>∃b,v= .ref b∧Hd c L E' (.ow (own b T a)::F) s') s
noncomputable def St(c:Cx)(A:Around)(L:Addr)(E:List Res)(X:Sem Flow)(E':List Res):Prop:=
 ∀F s,Hd c L E F s→Wp c A X (fun f s'=>f= .next∧Hd c L E' F s') s
noncomputable abbrev Rp:=List Fa→Flow→Shared→Prop
noncomputable def An(c:Cx)(L:Addr)(p:Arg):Rp:=fun F f s'=>∃v W,f= .ret v∧aa c L W (.kn (p v)::F) s'
noncomputable def Rt(c:Cx)(A:Around)(L:Addr)(E:List Res)(X:Sem Flow)(R:Rp):Prop:=∀F s,Hd c L E F s→Wp c A X (R F) s
noncomputable def c8(c:Cx)(A:Around)(L:Addr)(E:List Res)(X:Sem Bool)(b:Bool)(E':List Res):Prop:=
 ∀F s,Hd c L E F s→Wp c A X (fun r s'=>r=b∧Hd c L E' F s') s
noncomputable def dj:List Arg→List Value→List Fa→Prop
 | [],[],_=>True
 |p::ps,v::vs,G=>.kn (p v)∈G∧dj ps vs G
 |_,_,_=>False
noncomputable def oF(c:Cx)(A:Around)(L:Addr)(E:List Res)(X:Sem (List Value))(ps:List Arg)(E':List Res):Prop:=
 ∀F s,Hd c L E F s→Wp c A X (fun vs s'=>∃X,dj ps vs X∧(∀f∈X,∃k,f= .kn k)∧Hd c L E' (X++F) s') s
noncomputable def Op(c:Cx)(A:Around)(f:List Value→Sem Value)(K:List Fa)(ps:List Arg)(p:Arg):Prop:=
 ∀L W G s vs,aa c L W G s→dj ps vs G→(∀k∈K,k∈G)→Wp c A (f vs) (fun r s'=>aa c L W (.kn (p r)::G) s') s
noncomputable def zF(c:Cx)(A:Around)(f:List Value→Sem Value)(K:List Fa)(ps:List Arg){α:Type}(T:Tb α)(a:α):Prop:=
 ∀L W G s vs,aa c L W G s→dj ps vs G→(∀k∈K,k∈G)→Wp c A (f vs) (fun r s'=>∃b,r= .ref b∧aa c L W (.ow (own b T a)::G) s') s
theorem dj.mono{ps:List Arg}{vs:List Value}{G G':List Fa}(h:dj ps vs G)(hs:∀f∈G,f∈G'):dj ps vs G':=by
 induction ps generalizing vs with
 |nil=>cases vs with
  |nil=>trivial
  |cons=>exact h
 |cons p ps ih=>cases vs with
  |nil=>exact h
  |cons v vs=>exact⟨hs _ h.1,ih h.2⟩
theorem aa.drops{L:Addr}{W:ay}{X G:List Fa}(S:aa c L W (X++G) s):aa c L W G s:=by
 refine S.sub ?_
 clear S
 induction X with
 |nil=>exact .all
 |cons f X ih=>exact .drop ih
theorem Hd.out{X:List Fa}{f:Fa}(h:Hd c L E (f::(X++F)) s):Hd c L E (f::F) s:=by
 refine aB h fun W H hA S=>?_;try clear h
 refine⟨W,H,hA,?_⟩
 have e:(f::(X++F))++H=f::(X++(F++H)):=by rw[List.cons_append,List.append_assoc]
 rw[e] at S
 cases f with
 |kn k=>exact S.sub (.kn (.head _) (.drop (Sub.right .all)))
 |ow w=>exact S.sub (.own .here (Sub.right .all))
theorem Hd.iZ{X:List Fa}(h:Hd c L E (X++F) s):Hd c L E F s:=by
 refine aB h fun W H hA S=>?_;try clear h
 rw[List.append_assoc] at S
 exact⟨W,H,hA,S.drops⟩
theorem Hd.drop{f:Fa}(h:Hd c L E (f::F) s):Hd c L E F s:=h.iZ (X:=[f])
theorem Ev.nm{x:Str}{pos:Pos}(hm:loc x p∈E)(hL:autoParam (env.locals=L) af)(hk:autoParam (env.scope.kind= .function) af)(hl:autoParam (env.kindOf x=some .local) b7)
 (hd:autoParam ((x==("__debug__":Str))=false) b7):Ev c A L E (eval (.Name x pos) env) p E:=by
 intro F s υ2;obtain⟨W,H,hA,S⟩:=υ2
 obtain⟨_,_,⟨v,rfl,rfl⟩,h1,h2⟩:=hA.mem hm
 exact S.nm (h1 _ (.head _)) ⟨W,H,hA,S.sub (.kn (List.mem_append_right _ (h2 _ (.head _))) .all)⟩ hL hk hl hd
theorem Ev.ce{x:Str}{pos:Pos}{ca:Addr}(hc:env.cells.lookup x=some ca)(hm:eW ca p∈E)(hk:autoParam (env.scope.kind= .function) af)(hl:autoParam (env.kindOf x=some .cell) b7)
 (hd:autoParam ((x==("__debug__":Str))=false) b7):Ev c A L E (eval (.Name x pos) env) p E:=by
 intro F s υ2;obtain⟨W,H,hA,S⟩:=υ2
 obtain⟨_,_,⟨v,rfl,rfl⟩,h1,h2⟩:=hA.mem hm
 exact S.ce hc (List.mem_append_right _ (h2 _ (.head _))) ⟨W,H,hA,S.sub (.kn (List.mem_append_right _ (h2 _ (.tail _ (.head _)))) .all)⟩ hk hl hd
theorem Ev.int{i:Int}{k:Nat}{pos:Pos}:Ev c A L E (eval (.Constant (.int i) k pos) env) (ar ao i) E:=by
 intro F s υ2;obtain⟨W,H,hA,S⟩:=υ2
 exact S.jj fun t s' S=>⟨W,H,hA,S.add _ fun ν ν=>⟨_,rfl⟩⟩
theorem Ev.str{x:Str}{y:Tx}{k:Nat}{pos:Pos}(e:autoParam (x.cps.toList=y) af):Ev c A L E (eval (.Constant (.str x) k pos) env) (ar ah y) E:=by
 intro F s υ2;obtain⟨W,H,hA,S⟩:=υ2
 subst e
 exact S.g5 fun s' S ν=>⟨W,H,hA,S.add _ fun ν ν=>⟨_,rfl⟩⟩
theorem Ev.e8{X:Sem Value}{α:Type}{T:Tb α}{a:α}(h:dN c A L E X T a E'):Ev c A L E X (ar (Ty.ref T) a) E':=fun F s hs=>
 wpAny_mono (h F s hs) (fun v s' ⟨b,e,W,H,hA,S⟩=>e▸⟨W,H,hA,S.freeze .here⟩) fun ν ν x=>x
theorem Op.run{f:List Value→Sem Value}{K:List Fa}{ps:List Arg}{vs:List Value}{X:List Fa}(h:Op c A f K ps r)(hK:∀k∈K,fa k∈E)(hs:Hd c L E (X++F) s)(ha:dj ps vs X):Wp c A (f vs) (fun v s'=>Hd c L E (.kn (r v)::F) s') s:=by
 refine aB hs fun W H hA S=>?_;try clear hs
 refine wpAny_mono (h _ _ _ _ _ S (ha.mono fun f h=>List.mem_append_left _ (List.mem_append_left _ h)) fun k hk=>hA.fact (hK k hk)) (fun v s' S=>?_) fun ν ν x=>x
 exact Hd.out (X:=X) ⟨W,H,hA,S⟩
theorem zF.run{f:List Value→Sem Value}{K:List Fa}{ps:List Arg}{vs:List Value}{X:List Fa}{α:Type}{T:Tb α}{a:α}(h:zF c A f K ps T a)(hK:∀k∈K,fa k∈E)(hs:Hd c L E (X++F) s)(ha:dj ps vs X):Wp c A (f vs) (fun v s'=>∃b,v= .ref b∧Hd c L E (.ow (own b T a)::F) s') s:=by
 refine aB hs fun W H hA S=>?_;try clear hs
 refine wpAny_mono (h _ _ _ _ _ S (ha.mono fun f h=>List.mem_append_left _ (List.mem_append_left _ h)) fun k hk=>hA.fact (hK k hk)) (fun v s' ⟨b,e,S⟩=>⟨b,e,?_⟩) fun ν ν x=>x
 exact Hd.out (X:=X) ⟨W,H,hA,S⟩
theorem Ev.two{X Y:Sem Value}{α:Type}{k:Value→Value→Sem α}{Q:α→Shared→Prop}(h1:Ev c A L E X p E1)(h2:Ev c A L E1 Y q E2)(hs:Hd c L E F s)
 (h:∀v w s',dj [p,q] [v,w] [.kn (q w),.kn (p v)]→Hd c L E2 ([.kn (q w),.kn (p v)]++F) s'→Wp c A (k v w) Q s'):Wp c A X (fun v s1=>Wp c A Y (fun w s2=>Wp c A (k v w) Q s2) s1) s:=
 wpAny_mono (h1 F s hs) (fun v ν h'=>wpAny_mono (h2 _ _ h') (fun w s' h''=>h v w s' ⟨.tail _ (.head _),.head _,trivial⟩ h'') fun ν ν x=>x) fun ν ν x=>x
theorem Ev.bin{op:Operator}{e1 e2:Expr}{pos:Pos}{K:List Fa}(h1:Ev c A L E (eval e1 env) p E1)(h2:Ev c A L E1 (eval e2 env) q E2)(h:Op c A (fun vs=>binaryOp op (vs.getD 0 .none) (vs.getD 1 .none)) K [p,q] r)(hK:autoParam (∀k∈K,fa k∈E2) wN):
 Ev c A L E (eval (.BinOp e1 op e2 pos) env) r E2:=fun ν ν hs=>wpAny_BinOp (Ev.two h1 h2 hs fun v w ν ha hs=>h.run (vs:=[v,w]) hK hs ha)
theorem Ev.sub{e1 e2:Expr}{pos:Pos}{K:List Fa}(h1:Ev c A L E (eval e1 env) p E1)(h2:Ev c A L E1 (eval e2 env) q E2)
 (h:∀L W G s v w (Q:Value→Shared→Prop),aa c L W G s→dj [p,q] [v,w] G→(∀k∈K,k∈G)→(∀x s',aa c L W (.kn (r x)::G) s'→Q x s')→gk c A v w Q s) (hK:autoParam (∀k∈K,fa k∈E2) wN):
 Ev c A L E (eval (.Subscript e1 e2 pos) env) r E2:=fun F s hs=>by
 refine t7 (wpAny_mono (h1 F s hs) (fun v ν h'=>wpAny_mono (h2 _ _ h') (fun w s' h''=>?_) fun ν ν x=>x) fun ν ν x=>x)
 refine aB h'' fun W H hA S=>?_;try clear h''
 exact h _ _ _ _ _ _ _ S ⟨.tail _ (.head _),.head _,trivial⟩ (fun k hk=>hA.fact (hK k hk)) fun x s' S=>Hd.out (X:=[.kn (q w),.kn (p v)]) ⟨W,H,hA,S⟩
theorem oF.nil{pos:Pos}:oF c A L E (spliced (backTo pos (starEach [] env))) [] E:=fun ν ν hs=>spliced_none ⟨[],trivial,fun ν h=>(nomatch h),hs⟩
theorem oF.cons{e:Expr}{rest:List Expr}{pos:Pos}{ps:List Arg}(h:Ev c A L E (eval e env) p E1)(hr:oF c A L E1 (spliced (backTo pos (starEach rest env))) ps E2)
 (he:autoParam (starEach (e::rest) env=(false,eval e env)::starEach rest env) af):oF c A L E (spliced (backTo pos (starEach (e::rest) env))) (p::ps) E2:=fun F s hs=>by
 refine spliced_more (wpAny_mono (h F s hs) (fun v s1 h1=>wpAny_mono (hr _ s1 h1) (fun vs s2 h2=>?_) fun ν ν x=>x) fun ν ν x=>x) he
 refine bL h2 fun X ha hk π43=>?_;try clear h2;revert π43;intro h2
 refine⟨X++[.kn (p v)],⟨List.mem_append_right _ (.head _),ha.mono fun ν h=>List.mem_append_left _ h⟩,fun f hf=>?_,?_⟩
 ·rcases List.mem_append.mp hf with hf|hf
  ·exact hk f hf
  ·exact⟨_,List.mem_singleton.mp hf⟩
 ·rw[List.append_assoc];exact h2
theorem oF.run{X:Sem (List Value)}{f:List Value→Sem Value}{K:List Fa}{ps:List Arg}(h:oF c A L E X ps E')(ho:Op c A f K ps r)(hK:∀k∈K,fa k∈E')(hs:Hd c L E F s):Wp c A X (fun vs s'=>Wp c A (f vs) (fun v s''=>Hd c L E' (.kn (r v)::F) s'') s') s:=
 wpAny_mono (h F s hs) (fun ν ν ⟨_,ha,_,h'⟩=>ho.run hK h' ha) fun ν ν x=>x
theorem St.nil:St c A L E (execs [] env) E:=fun ν ν hs=>wpAny_execs_nil ⟨rfl,hs⟩
theorem St.cons{st:Stmt}{rest:List Stmt}(h:St c A L E (exec st env) E1)(hr:St c A L E1 (execs rest env) E2):St c A L E (execs (st::rest) env) E2:=fun F s hs=>
 wpAny_execs_cons (wpAny_mono (h F s hs) (fun f s' h'=>by obtain⟨rfl,h'⟩:=h';exact hr F s' h') fun ν ν x=>x)
theorem Rt.cons{R:Rp}{st:Stmt}{rest:List Stmt}(h:St c A L E (exec st env) E1)(hr:Rt c A L E1 (execs rest env) R):Rt c A L E (execs (st::rest) env) R:=fun F s hs=>
 wpAny_execs_cons (wpAny_mono (h F s hs) (fun f s' h'=>by obtain⟨rfl,h'⟩:=h';exact hr F s' h') fun ν ν x=>x)
theorem Rt.ret{e:Expr}{pos:Pos}{rest:List Stmt}(h:Ev c A L E (eval e env) p E'):Rt c A L E (execs (.Return (some e) pos::rest) env) (An c L p):=fun F s hs=>
 wpAny_execs_cons (wpAny_Return_some (wpAny_mono (h F s hs) (fun v ν ⟨W,_,_,S⟩=>⟨v,W,rfl,by
  have S:=S.perm (G':=_++(.kn (p v)::F)) List.perm_append_comm
  exact S.drops⟩) fun ν ν x=>x))
theorem Hd.set{x:Str}{v:Value}{u r:Res}{f:Fa}(hr:r [(x,some v)] [f])(hu:∀W H,u W H→∃o,W=[(x,o)])(h:Upd E u r E')(hs:Hd c L E (f::F) s){Q:Unit→Shared→Prop}(hQ:∀s',Hd c L E' F s'→Q () s')
 (hL:env.locals=L) (hk:env.scope.kind= .function) (hl:env.kindOf x=some .local):Wp c A (storeName env x v) Q s:=by
 refine aB hs fun W H hA S=>?_;try clear hs
 obtain⟨W0,W1,W2,H0,H1,H2,h1,rfl,rfl,k⟩:=hA.upd h
 obtain⟨o,rfl⟩:=hu _ _ h1
 refine S.st rB.in (fun s' S=>hQ s' ⟨_,_,k _ _ hr,?_⟩) hL hk hl
 have e1:(f::F)++(H0++(H1++H2))=f::(F++(H0++(H1++H2))):=rfl
 rw[e1] at S
 have S:=S.perm (G':=H1++(F++(H0++([f]++H2)))) ?_
 ·exact S.drops
 ·refine((List.perm_append_comm_assoc F H0 (H1++H2)).cons _).trans ?_
  have e2:(f::(H0++(F++(H1++H2)))).Perm (H1++(f::(H0++(F++H2)))):=by
   have h3:(H0++(F++(H1++H2))).Perm (H1++(H0++(F++H2))):=
    ((List.perm_append_comm_assoc F H1 H2).append_left H0).trans (List.perm_append_comm_assoc H0 H1 (F++H2))
   exact(h3.cons _).trans List.perm_middle.symm
  refine e2.trans (List.Perm.append_left H1 ?_)
  have h4:(F++(H0++([f]++H2))).Perm (H0++(F++([f]++H2))):=List.perm_append_comm_assoc ..
  refine List.Perm.trans ?_ h4.symm
  exact(List.perm_middle (a:=f) (l₁:=H0++F) (l₂:=H2)).symm.trans (by simp) |> fun h=>by simpa using h
theorem wZ{x:Str}:∀W H,un x W H→∃o,W=[(x,o)]:=fun ν ν ⟨o,e,_⟩=>⟨o,e⟩
theorem uS{x:Str}:∀W H,loc x p W H→∃o,W=[(x,o)]:=fun ν ν ⟨v,e,_⟩=>⟨some v,e⟩
end
end Mine
namespace Mine
inductive cP(x:Str)(r:Res):List Res→List Res→Prop
 |un {E}:cP x r (un x::E) (r::E)
 |loc {p E}:cP x r (loc x p::E) (r::E)
 |there {q E E'}:cP x r E E'→cP x r (q::E) (q::E')
theorem cP.upd{x:Str}{r:Res}{E E':List Res}(h:cP x r E E'):∃u,(∀W H,u W H→∃o,W=[(x,o)])∧Upd E u r E':=by
 induction h with
 |un=>exact⟨_,wZ,.here⟩
 |loc=>exact⟨_,uS,.here⟩
 |there _ ih=>refine aj ih fun u h1 h2=>?_;try clear ih;exact⟨u,h1,.there h2⟩
inductive Wk:List Res→List Res→Prop
 |nil:Wk [] []
 |same {r E E'}:Wk E E'→Wk (r::E) (r::E')
 |un {x p E E'}:Wk E E'→Wk (loc x p::E) (un x::E')
 |dropN {r E E'} (h:∀W H,r W H→W=[]):Wk E E'→Wk (r::E) E'
 |cu {ca p E E'}:Wk E E'→Wk (eW ca p::E) (jE ca::E')
theorem Wk.drop{f:Fa}{E E':List Res}(h:Wk E E'):Wk (fa f::E) E':=.dropN (fun ν ν ⟨e,_⟩=>e) h
theorem Wk.all:∀{E:List Res},Wk E E
 | []=>.nil
 |_::_=>.same .all
theorem Sub.Al{l r r':List Fa}(h:Sub r r'):Sub (l++r) r':=by
 induction l with
 |nil=>exact h
 |cons x l ih=>exact .drop ih
theorem Wk.run{E E':List Res}{W:ay}{H:List Fa}(h:Wk E E')(hA:aE E W H):∃H',aE E' W H'∧Sub H H':=by
 induction h generalizing W H with
 |nil=>cases hA;exact⟨_,.nil,.all⟩
 |same _ ih=>
  cases hA with
  |cons a b=>refine aj (ih b) fun H' h1 h2=>?_;exact⟨_,.cons a h1,h2.ia⟩
 |un _ ih=>
  cases hA with
  |cons a b=>
   refine aj a fun v π31 π32=>?_;try clear a;rcases π31 with rfl;rcases π32 with rfl
   refine aj (ih b) fun H' h1 h2=>?_
   exact⟨_,aE.cons (H:=[]) ⟨_,rfl,rfl⟩ h1,h2.Al⟩
 |dropN hr _ ih=>
  cases hA with
  |cons a b=>
   obtain rfl:=hr _ _ a
   refine aj (ih b) fun H' h1 h2=>?_
   exact⟨H',h1,h2.Al⟩
 |cu _ ih=>
  cases hA with
  |cons a b=>
   refine aj a fun v π31 π32=>?_;try clear a;rcases π31 with rfl;rcases π32 with rfl
   refine aj (ih b) fun H' h1 h2=>?_
   exact⟨_,aE.cons (W:=[]) ⟨_,rfl,rfl⟩ h1,.own .here (.drop h2)⟩
section
variable{c:Cx}{A:Around}{L:Addr}{E E' E1 E2:List Res}{F:List Fa}{s:Shared}{env:PySem.Env}{p q r:Arg}
theorem Hd.wk(hs:Hd c L E F s)(h:Wk E E'):Hd c L E' F s:=by
 refine aB hs fun W H hA S=>?_;try clear hs
 refine aj (h.run hA) fun H' h1 h2=>?_
 exact⟨W,H',h1,S.sub h2.ia⟩
theorem Hd.e8{α:Type}{a:Addr}{T:Tb α}{x:α}{y:Str}(h1:Upd E (fa (.ow (own a T x))) (fa (.kn (is (Ty.ref T) (.ref a) x))) E1)(h2:cP y (loc y (ar (Ty.ref T) x)) E1 E2)(hm:loc y (aD (.ref a))∈E1)(hs:Hd c L E F s):Hd c L E2 F s:=by
 refine aB hs fun W H hA S=>?_;try clear hs
 obtain⟨W0,W1,W2,H0,H1,H2,⟨rfl,rfl⟩,rfl,rfl,k⟩:=hA.upd h1
 have hA:=k [] [.kn (is (Ty.ref T) (.ref a) x)] ⟨rfl,rfl⟩
 have S:=S.perm (G':=[.ow (own a T x)]++(F++(H0++H2))) (by
  refine((List.perm_append_comm_assoc F H0 _).trans ?_)
  exact((List.perm_append_comm_assoc F _ H2).append_left H0).trans ((List.perm_append_comm_assoc H0 _ _).trans (List.Perm.append_left _ (List.perm_append_comm_assoc H0 F H2)))
  )
 have S:=S.freeze .here
 have S:=S.perm (G':=F++(H0++([.kn (is (Ty.ref T) (.ref a) x)]++H2))) (List.Perm.symm (by
  refine((List.perm_append_comm_assoc F H0 _).trans ?_)
  exact((List.perm_append_comm_assoc F _ H2).append_left H0).trans ((List.perm_append_comm_assoc H0 _ _).trans (List.Perm.append_left [Fa.kn (is (Ty.ref T) (.ref a) x)] (List.perm_append_comm_assoc H0 F H2)))
  ))
 have hmf:Fa.kn (is (Ty.ref T) (.ref a) x)∈F++(H0++([.kn (is (Ty.ref T) (.ref a) x)]++H2)):=List.mem_append_right _ (List.mem_append_right _ (.head _))
 clear k
 generalize H0++([Fa.kn (is (Ty.ref T) (.ref a) x)]++H2)=H at hA S hmf
 generalize W0++([]++W2)=W at hA S
 clear h1
 have key:∀{E1 E2:List Res} {W:ay} {H:List Fa},cP y (loc y (ar (Ty.ref T) x)) E1 E2→aE E1 W H→∃o H',aE E2 W H'∨o=(1:Nat):=fun ν ν=>⟨1,[],.inr rfl⟩
 clear key
 refine aj h2.upd fun u hu h2=>?_
 obtain⟨W0',W1',W2',H0',H1',H2',g1,rfl,rfl,k⟩:=hA.upd h2
 obtain⟨o,rfl⟩:=hu _ _ g1
 obtain⟨_,_,⟨v,rfl,rfl⟩,m1,m2⟩:=hA.mem hm
 have hv:v= .ref a:=S.fact fun B kk ν=>kk.at (List.mem_append_right F (m2 _ (.head _)))
 subst hv
 have ho:o=some (.ref a):=by
  refine bL S.ns fun m ν1 hn hf=>?_
  have hmem:=m1 _ (.head _)
  rw[List.map_append,List.map_append] at hn
  rcases List.mem_append.mp hmem with q|q
  ·exact absurd (List.mem_map.mpr ⟨_,q,rfl⟩) fun z=>(List.nodup_append.mp hn).2.2 _ z _ (List.mem_append_left _ (.head _)) rfl
  ·rcases List.mem_append.mp q with q|q
   ·cases List.mem_singleton.mp q;rfl
   ·exact absurd (List.mem_map.mpr ⟨_,q,rfl⟩) fun z=>(List.nodup_append.mp (List.nodup_append.mp hn).2.1).2.2 _ (.head _) _ z rfl
 subst ho
 have S:=S.add _ fun B kk=>kk.at hmf
 have S:=S.perm (G':=H1'++(F++(H0'++([.kn (is (Ty.ref T) (.ref a) x)]++H2')))) (by
  have e1:(F++(H0'++(H1'++H2'))).Perm (H1'++(F++(H0'++H2'))):=
   ((List.perm_append_comm_assoc H0' H1' H2').append_left F).trans (List.perm_append_comm_assoc F H1' _)
  refine(e1.cons _).trans (List.perm_middle.symm.trans (List.Perm.append_left H1' ?_))
  have e2:(Fa.kn (is (Ty.ref T) (.ref a) x)::(F++(H0'++H2'))).Perm ((F++H0')++Fa.kn (is (Ty.ref T) (.ref a) x)::H2'):=by
   rw[←List.append_assoc];exact List.perm_middle.symm
  simpa using e2)
 exact⟨_,_,k _ _ ⟨_,rfl,rfl⟩,S.drops⟩
theorem St.end(h:Wk E E'):St c A L E (execs [] env) E':=fun ν ν hs=>wpAny_execs_nil ⟨rfl,hs.wk h⟩
theorem Hd.wQ{x:Str}{v:Value}(h:cP x (loc x p) E E')(hs:Hd c L E (.kn (p v)::F) s){Q:Unit→Shared→Prop}(hQ:∀s',Hd c L E' F s'→Q () s')
 (hL:autoParam (env.locals=L) af) (hk:autoParam (env.scope.kind= .function) af) (hl:autoParam (env.kindOf x=some .local) b7):Wp c A (storeName env x v) Q s:=
 let⟨_,hu,h⟩:=h.upd
 Hd.set (r:=loc x p) ⟨v,rfl,rfl⟩ hu h hs hQ hL hk hl
theorem St.set{x:Str}{e:Expr}{pos' pos:Pos}(h:Ev c A L E (eval e env) p E1)(hp:cP x (loc x p) E1 E2)(hs:autoParam (swapsWith e (some (.Name x pos')) pos.line env=pure false) af)
 (hL:autoParam (env.locals=L) af) (hk:autoParam (env.scope.kind= .function) af) (hl:autoParam (env.kindOf x=some .local) b7):St c A L E (exec (.Assign [.Name x pos'] e pos) env) E2:=fun F s hs'=>
 wpAny_Assign_Name (wpAny_mono (h F s hs') (fun ν ν h'=>h'.wQ hp (fun ν h''=>⟨rfl,h''⟩) hL hk hl) fun ν ν x=>x) hs
theorem St.aug{x:Str}{e:Expr}{op:Operator}{pos' pos:Pos}(hm:loc x p∈E)(h:Ev c A L E (eval e env) q E1)(ho:Op c A (fun vs=>inplaceOp op (vs.getD 0 .none) (vs.getD 1 .none)) [] [p,q] r)(hp:cP x (loc x r) E1 E2)
 (hL:autoParam (env.locals=L) af) (hk:autoParam (env.scope.kind= .function) af) (hl:autoParam (env.kindOf x=some .local) b7):St c A L E (exec (.AugAssign (.Name x pos') op e pos) env) E2:=by
 intro F s υ2;obtain⟨W,H,hA,S⟩:=υ2
 obtain⟨_,_,⟨v,rfl,rfl⟩,h1,h2⟩:=hA.mem hm
 refine wpAny_AugAssign_Name (S.ld (h1 _ (.head _)) ?_ hL hk hl)
 have hs:Hd c L E (.kn (p v)::F) s:=⟨W,H,hA,S.sub (.kn (List.mem_append_right _ (h2 _ (.head _))) .all)⟩
 refine wpAny_mono (h _ _ hs) (fun w s' h'=>?_) fun ν ν x=>x
 exact wpAny_mono (ho.run (vs:=[v,w]) (X:=[.kn (q w),.kn (p v)]) (fun ν h=>nomatch h) h' ⟨.tail _ (.head _),.head _,trivial⟩) (fun ν ν h''=>h''.wQ hp (fun ν h3=>⟨rfl,h3⟩) hL hk hl) fun ν ν x=>x
theorem Rt.new{R:Rp}{x:Str}{e:Expr}{pos' pos:Pos}{rest:List Stmt}{α:Type}{T:Tb α}{y:α}{E2:Addr→List Res}(h:dN c A L E (eval e env) T y E1)(hp:∀a,cP x (loc x (aD (.ref a))) E1 (E2 a))(k:∀a,Rt c A L (fa (.ow (own a T y))::E2 a) (execs rest env) R)
 (hs:autoParam (swapsWith e (some (.Name x pos')) pos.line env=pure false) af) (hL:autoParam (env.locals=L) af) (hk:autoParam (env.scope.kind= .function) af) (hl:autoParam (env.kindOf x=some .local) b7):
 Rt c A L E (execs (.Assign [.Name x pos'] e pos::rest) env) R:=fun F s hs'=>by
 refine wpAny_execs_cons (wpAny_Assign_Name (wpAny_mono (h F s hs') (fun v s1 h1=>?_) fun ν ν x=>x) hs)
 obtain⟨a,rfl,W,H,hA,S⟩:=h1
 have h2:Hd c L E1 (.kn (aD (.ref a) (.ref a))::(.ow (own a T y)::F)) s1:=⟨W,H,hA,S.add _ fun ν ν=>rfl⟩
 exact h2.wQ (hp a) (fun s2 h3=>k a F s2 (by
  refine aB h3 fun W H hA S=>?_;try clear h3
  exact⟨W,_,aE.cons (W:=[]) ⟨rfl,rfl⟩ hA,S.perm List.perm_middle.symm⟩)) hL hk hl
noncomputable def It(c:Cx)(A:Around)(L:Addr)(E:List Res)(X:Sem Value)(target:Expr){α:Type}(T:Ty α)(xs:List α)(E':List Res):Prop:=
 ∀F s,Hd c L E F s→Wp c A X (fun v s1=>Wp c A (pyIter v) (fun it s2=>∃(Fi:Nat→List Fa) (Z:List Fa),Src c it target T xs Fi Z∧Hd c L E' (Fi 0++F) s2) s1) s
noncomputable def Tg(c:Cx)(A:Around)(L:Addr)(E:List Res)(env:PySem.Env)(target:Expr)(p:Arg)(E':List Res):Prop:=
 ∀F s v,Hd c L E (.kn (p v)::F) s→Wp c A (assign target env v) (fun ν s'=>Hd c L E' F s') s
theorem Tg.nm{x:Str}{pos:Pos}(h:cP x (loc x p) E E')(hL:autoParam (env.locals=L) af)(hk:autoParam (env.scope.kind= .function) af)(hl:autoParam (env.kindOf x=some .local) b7):Tg c A L E env (.Name x pos) p E':=fun ν ν ν hs=>
 wpAny_assign_Name (hs.wQ h (fun ν h=>h) hL hk hl)
theorem St.forR{σ:Type}{target iter:Expr}{body:List Stmt}{pos:Pos}{α:Type}{T:Ty α}{xs:List α}{E0:List Res}{x0:σ}(hh:A.handled=none)(it:It c A L E (eval iter env) target T xs E0)(I:σ→List Res)(P:List α→σ→Prop)(h0:Wk E0 (I x0))(p0:P [] x0)
 (step:∀done x rest y,xs=done++x::rest→P done y→∃E1 z,Tg c A L (I y) env target (ar T x) E1∧St c A L E1 (execs body env) (I z)∧P (done++[x]) z) (hend:∀y,P xs y→Wk (I y) E')
 (hs:autoParam (∀x,foldedSetIterable iter env x=pure x) ua):St c A L E (exec (.For target iter body [] pos) env) E':=fun F s hs'=>by
 refine wpAny_For (wpAny_mono (it F s hs') (fun v s1 h1=>wpAny_mono h1 (fun it s2 h2=>?_) fun ν ν x=>x) fun ν ν x=>x) hs
 refine aB h2 fun Fi Z src π43=>?_;try clear h2;revert π43;intro h2
 refine aB (h2.wk h0) fun W H hA S=>?_
 rw[List.append_assoc] at S
 refine yh src hh (fun done V G=>∃y H,P done y∧aE (I y) V H∧G=F++H) S ⟨_,⟨x0,H,p0,hA,rfl⟩,.all⟩ ?_ ?_
 ·intro done x rest V _ X v s e υ9 S;obtain⟨y,H,hy,hA,rfl⟩:=υ9
  refine av (step done x rest y e hy) fun E1 z h1 h2 hz=>?_
  have hd:Hd c L (I y) (.kn (ar T x v)::(X++F)) s:=⟨V,H,hA,S.perm (.cons _ (by have h:=List.perm_append_comm (l₁:=F++H) (l₂:=X);rw[←List.append_assoc] at h;exact h))⟩
  refine wpAny_mono (h1 _ _ v hd) (fun ν s' h3=>wpAny_mono (h2 _ s' h3) (fun f s'' h4=>?_) fun ν ν x=>x) fun ν ν x=>x
  obtain⟨rfl,W,H,hA,S⟩:=h4
  exact⟨W,_,⟨z,H,hz,hA,rfl⟩,S.perm ((by rw[List.append_assoc]:(X++F)++H=X++(F++H))▸List.perm_append_comm)⟩
 ·intro V _ s' υ3 S;obtain⟨y,H,hy,hA,rfl⟩:=υ3
  exact⟨rfl,Hd.wk ⟨V,H,hA,S.drops⟩ (hend y hy)⟩
theorem St.for{target iter:Expr}{body:List Stmt}{pos:Pos}{α:Type}{T:Ty α}{xs:List α}{E0:List Res}(hh:A.handled=none)(it:It c A L E (eval iter env) target T xs E0)(I:List α→List Res)(h0:Wk E0 (I []))
 (step:∀done x rest,xs=done++x::rest→∃E1,Tg c A L (I done) env target (ar T x) E1∧St c A L E1 (execs body env) (I (done++[x])))
 (hs:autoParam (∀x,foldedSetIterable iter env x=pure x) ua):St c A L E (exec (.For target iter body [] pos) env) (I xs):=
 .forR hh it I (fun done y=>y=done) h0 rfl (fun done x rest y e hy=>by subst hy;refine aj (step _ x rest e) fun E1 h1 h2=>?_;exact⟨E1,_,h1,h2,rfl⟩) (fun y hy=>hy▸ .all) hs
theorem Ev.bR{e:Expr}{rest:List Expr}{id:Str}{pp pos:Pos}{b:String}{K:List Fa}{ps:List Arg}(g:cg c)(ha:oF c A L E (spliced (backTo pos (starEach (e::rest) env))) ps E')(ho:Op c A (fun vs=>call (.builtin b) vs) K ps r)
 (hn:nsIn (aO c) mainGlobals id=some none) (hv:bootBuiltins id=some (.builtin b)) (hne:id≠"__name__") (hK:autoParam (∀k∈K,fa k∈E') wN)
 (he:autoParam (starEach (e::rest) env=(false,eval e env)::starEach rest env) af) (hp:autoParam ((backTo pos (starEach rest env)).any (·.1)=false) af)
 (hg:autoParam (env.globals=mainGlobals) af) (hb:autoParam (env.builtins=builtinsNs) af) (hk:autoParam (env.scope.kind= .function) af) (hx:autoParam (env.kindOf id=some .globalImplicit) b7) (hd:autoParam ((id==("__debug__":Str))=false) b7):
 Ev c A L E (eval (.Call (.Name id pp) (e::rest) [] pos) env) r E':=fun F s hs=>by
 have hs':=hs
 refine aB hs fun W H hA S=>?_;try clear hs
 exact Mine.bR (S.bi g hn hv hne ⟨rfl,ha.run ho hK hs'⟩ hg hb hk hx hd) he hp
theorem Ev.dU{e:Expr}{rest:List Expr}{id:Str}{pp pos:Pos}{f:Addr}{oc:Value}{od:Option Addr}{osl:Array (Option Value)}{fd:FuncData}{ps:List Arg}(g:cg c)(ha:oF c A L E (spliced (backTo pos (starEach (e::rest) env))) ps E')(ho:Op c A (fun vs=>call (.ref f) vs) [] ps r)
 (hid:nsIn (aO c) mainGlobals id=some (some (.ref f))) (hf:(aO c).lookup f=some ⟨oc,od,.func fd,osl⟩)
 (he:autoParam (starEach (e::rest) env=(false,eval e env)::starEach rest env) af) (hg:autoParam (env.globals=mainGlobals) af) (hk:autoParam (env.scope.kind= .function) af)
 (hx:autoParam (env.kindOf id=some .globalImplicit) b7) (hd:autoParam ((id==("__debug__":Str))=false) b7):Ev c A L E (eval (.Call (.Name id pp) (e::rest) [] pos) env) r E':=fun F s hs=>by
 have hs':=hs
 refine aB hs fun W H hA S=>?_;try clear hs
 refine Mine.dU g S hid hf (wpAny_mono (ha F s hs') (fun vs s' h=>?_) fun ν ν x=>x) he hg hk hx hd
 refine bL h fun X h1 ν2 h2=>?_;try clear h
 have h2':=h2
 refine aB h2 fun W H hA S=>?_;try clear h2
 exact⟨⟨_,_,_,S⟩,ho.run (fun ν h=>nomatch h) h2' h1⟩
noncomputable def yX(p:Arg)(K:List Fa)(t:String)(c:Cx):Prop:=∀L W G s v,aa c L W G s→.kn (p v)∈G→(∀k∈K,k∈G)→Of s v t
theorem Ev.fH{o e:Expr}{rest:List Expr}{name:Str}{apos pos:Pos}{t id:String}{K:List Fa}{ps:List Arg}(h:Ev c A L E (eval o env) p E1)(hm:oM t name id)(hof:yX p K t c)(ha:oF c A L E1 (spliced (backTo pos (starEach (e::rest) env))) ps E')
 (ho:Op c A (fun vs=>call (.builtin id) vs) K (p::ps) r) (hK1:autoParam (∀k∈K,fa k∈E1) wN) (hK:autoParam (∀k∈K,fa k∈E') wN)
 (he:autoParam (starEach (e::rest) env=(false,eval e env)::starEach rest env) af) (hp:autoParam ((backTo pos (starEach rest env)).any (·.1)=false) af)
 (hbase:autoParam (attributeBase o name env (eval o env)=eval o env) af) (hfew:autoParam (((backTo pos (starEach (e::rest) env)).all (fun x=>!x.1)&&(backToKw pos (keywordEach [] env)).all (fun x=>x.1.isSome)
   &&decide ((e::rest).length +([]:List Keyword).length +(if([]:List Keyword).isEmpty then 0 else 1)<30))=true) af)
 (hline:autoParam ((apos.endLine==pos.line)=true) af):Ev c A L E (eval (.Call (.Attribute o name apos) (e::rest) [] pos) env) r E':=fun F s hs=>by
 refine f9 (wpAny_mono (h F s hs) (fun v s1 h1=>⟨t,id,hm,?_,wpAny_mono (ha _ s1 h1) (fun vs s2 h2=>?_) fun ν ν x=>x⟩) fun ν ν x=>x) he hp hbase hfew hline
 ·refine aB h1 fun W H hA S=>?_;try clear h1
  exact hof _ _ _ _ _ S (.head _) fun k hk=>hA.fact (hK1 k hk)
 ·refine bL h2 fun X ha ν2 π43=>?_;try clear h2;revert π43;intro h2
  exact ho.run (X:=X++[.kn (p v)]) (vs:=v::vs) hK (by rw[List.append_assoc];exact h2) ⟨List.mem_append_right _ (.head _),ha.mono fun ν h=>List.mem_append_left _ h⟩
theorem bT{x:Tx}:yX (ar ah x) [] "str" c:=fun ν ν ν ν ν S h ν=>by obtain⟨t,rfl⟩:=S.isStr h;exact ofStr
theorem vL{α:Type}{T:Ty α}{xs:List α}:yX (ar (Ty.list T) xs) [] "list" c:=fun ν ν ν ν ν S h ν=>S.ofList h
theorem vK{α:Type}{T:Ty α}{xs:List (Tx×α)}:yX (ar (Ty.dct c T) xs) [] "dict" c:=fun ν ν ν ν ν S h ν=>S.g7 h
theorem It.list{X:Sem Value}{target:Expr}{α:Type}{T:Ty α}{xs:List α}(h:Ev c A L E X (ar (Ty.list T) xs) E'):It c A L E X target T xs E':=fun F s hs=>
 wpAny_mono (h F s hs) (fun v s1 ⟨W,H,hA,S⟩=>S.u5 (.head _) fun it Fi s' src S=>⟨Fi,[],src _,Hd.iZ (X:=[.kn (ar (Ty.list T) xs v)]) ⟨W,H,hA,by
  refine S.perm ?_
  show(Fi 0++([_]++(F++H))).Perm (([_]++(Fi 0++F))++H)
  rw[List.append_assoc,List.append_assoc]
  exact List.perm_append_comm_assoc ..⟩⟩) fun ν ν x=>x
theorem It.values{β:Type}{T:Ty β}{xs:List (Tx×β)}{o target:Expr}{apos pos:Pos}(h:Ev c A L E (eval o env) (ar (Ty.dct c T) xs) E')
 (hbase:autoParam (attributeBase o "values" env (eval o env)=eval o env) af) (hline:autoParam ((apos.endLine==pos.line)=true) af):It c A L E (eval (.Call (.Attribute o "values" apos) [] [] pos) env) target T (xs.map (·.2)) E':=fun F s hs=>by
 refine k6 (wpAny_mono (h F s hs) (fun v s1 h1=>?_) fun ν ν x=>x) hbase hline
 refine aB h1 fun W H hA S=>?_;try clear h1
 refine⟨_,_,lT,S.g7 (.head _),S.xF (.head _) fun d a s' e S=>?_⟩
 subst e
 exact S.qA (.head _) (.tail _ (.head _)) fun it Fi s' src S=>⟨Fi,[],src _,Hd.iZ (X:=[.ow (own a (bE "dict_values" #[.ref d]) ()),.kn (ar (Ty.dct c T) xs (.ref d))]) ⟨W,H,hA,by
  refine S.perm ?_
  show(Fi 0++([_,_]++(F++H))).Perm (([_,_]++(Fi 0++F))++H)
  rw[List.append_assoc,List.append_assoc]
  exact List.perm_append_comm_assoc ..⟩⟩
theorem It.items{β:Type}{T:Ty β}{xs:List (Tx×β)}{o:Expr}{elts:List Expr}{x1:Nat}{tp apos pos:Pos}(h:Ev c A L E (eval o env) (ar (Ty.dct c T) xs) E')
 (hbase:autoParam (attributeBase o "items" env (eval o env)=eval o env) af) (hline:autoParam ((apos.endLine==pos.line)=true) af):It c A L E (eval (.Call (.Attribute o "items" apos) [] [] pos) env) (.Tuple elts x1 tp) (bY ah T) xs E':=fun F s hs=>by
 refine k6 (wpAny_mono (h F s hs) (fun v s1 h1=>?_) fun ν ν x=>x) hbase hline
 refine aB h1 fun W H hA S=>?_;try clear h1
 refine⟨_,_,fG,S.g7 (.head _),S.qW (.head _) fun d a s' e S=>?_⟩
 subst e
 exact S.tZ (.head _) (.tail _ (.head _)) fun it Fi s' src S=>⟨Fi,[],src _ _ _,Hd.iZ (X:=[.ow (own a (bE "dict_items" #[.ref d]) ()),.kn (ar (Ty.dct c T) xs (.ref d))]) ⟨W,H,hA,by
  refine S.perm ?_
  show(Fi 0++([_,_]++(F++H))).Perm (([_,_]++(Fi 0++F))++H)
  rw[List.append_assoc,List.append_assoc]
  exact List.perm_append_comm_assoc ..⟩⟩
end
end Mine
local macro_rules | `(tactic| walk_at "k") => `(tactic| repeat with_reducible first | exact Mine.Wk.nil | apply Mine.Wk.same | apply Mine.Wk.un | apply Mine.Wk.cu | apply Mine.Wk.drop)
namespace Mine
section
variable{c:Cx}{A:Around}{L:Addr}{E E' E1 E2:List Res}{F:List Fa}{s:Shared}{env:PySem.Env}{p q r:Arg}
theorem bH{p:Arg}{vs:List Value}{G:List Fa}(h:dj [p] vs G):∃v,vs=[v]∧.kn (p v)∈G:=by
 cases vs with
 |nil=>exact h.elim
 |cons v vs=>cases vs with
  |nil=>exact⟨v,rfl,h.1⟩
  |cons=>exact h.2.elim
theorem aS{p q:Arg}{vs:List Value}{G:List Fa}(h:dj [p,q] vs G):∃v w,vs=[v,w]∧.kn (p v)∈G∧.kn (q w)∈G:=by
 cases vs with
 |nil=>exact h.elim
 |cons v vs=>refine aj (bH h.2) fun w π31 h2=>?_;rcases π31 with rfl;exact⟨v,w,rfl,h.1,h2⟩
theorem Rt.back{env:PySem.Env}{ss:List Stmt}{V:ay}{G:List Fa}{L0:Addr}(h:Rt c A L E (execs ss env) (An c L p))(hs:Hd c L E (.ow (own L0 bC V)::G) s)(hL:sysModules<L0):
 Wp c A (execs ss env) (fun fl s''=>aa c L0 V (.kn (p (match fl with | .ret v=>v|_=>.none))::G) s'') s:=
 wpAny_mono (h _ s hs) (fun ν ν ⟨v,W,e,S⟩=>by subst e;exact S.back (.there .here) hL) fun ν ν x=>x
theorem aE.l{x:Str}{v:Value}{W:ay}{H:List Fa}(h:aE E W H):aE (loc x p::E) ((x,some v)::W) (.kn (p v)::H):=aE.cons (W:=[_]) (H:=[_]) ⟨v,rfl,rfl⟩ h
theorem aE.u{x:Str}{o:Option Value}{W:ay}{H:List Fa}(h:aE E W H):aE (un x::E) ((x,o)::W) H:=aE.cons (W:=[_]) (H:=[]) ⟨o,rfl,rfl⟩ h
inductive A9(F:List Fa):List Fa→Prop
 |nil:A9 F []
 |cons {k H}: .kn k∈F→A9 F H→A9 F (.kn k::H)
theorem Hd.start{W:ay}{H:List Fa}(S:aa c L W F s)(hA:aE E W H)(h:A9 F H):Hd c L E F s:=by
 refine⟨W,_,hA,?_⟩
 clear hA
 induction h with
 |nil=>rw[List.append_nil];exact S
 |cons h _ ih=>exact(ih.add _ fun B kh=>kh.at (List.mem_append_left _ h)).perm List.perm_middle.symm
theorem Rt.pre{R:Rp}{X:Sem Flow}(h:∀F s,Hd c L E F s→Hd c L E1 F s)(k:Rt c A L E1 X R):Rt c A L E X R:=fun F s hs=>k F s (h F s hs)
theorem xo{a b:Int}:Op c A (fun vs=>inplaceOp .Add (vs.getD 0 .none) (vs.getD 1 .none)) [] [ar ao a,ar ao b] (ar ao (a+b)):=fun ν ν ν ν ν S h ν=>by
 refine av (aS h) fun v w π52 h1 h2=>?_;rcases π52 with rfl
 obtain⟨t,rfl⟩:=S.isInt h1
 obtain⟨u,rfl⟩:=S.isInt h2
 exact S.AP fun t s' S=>S.add _ fun ν ν=>⟨_,rfl⟩
theorem fT{n:Nat}{xs:List (Tx×Int)}(g:cg c)(ok:Ok A (n+1)):Op c A (fun vs=>call (.ref 189) vs) [] [ar (Ty.dct c ao) xs] (ar ao (xs.map (·.2)).sum):=fun L V G s vs S h ν=>by
 refine aj (bH h) fun v π31 hm=>?_;rcases π31 with rfl
 have hL:=S.above
 refine b9 (args:=⟨[v],[]⟩) (binds:=[("callers",v)]) (V':=[("callers",some v),("nc",none),("calls",none)]) (C:=fun ν=>[]) g S ok rfl (.of_eq (by kernel_rfl)) (by kernel_rfl) (by decide+kernel) (by kernel_rfl) (by kernel_rfl) (fun ν=>by kernel_rfl) fun L' s' S ok'=>?_
 have hd:Hd c L' [loc "callers" (ar (Ty.dct c ao) xs),un "nc",un "calls"] (.ow (own L bC V)::G) s':=.start S (.l (.u (.u .nil))) (.cons (.tail _ hm) .nil)
 refine Rt.back ?_ hd hL
 refine .cons (.set .int (by walk_at "c")) ?_
 refine .cons (.for ok'.hd (.values (.nm (by walk_at "m"))) (fun done=>[loc "callers" (ar (Ty.dct c ao) xs),loc "nc" (ar ao done.sum),un "calls"]) .all fun done x rest e=>⟨_,.nm (by walk_at "c"),.cons (.aug (by walk_at "m") (.nm (by walk_at "m")) xo (by walk_at "c")) (.end ?_)⟩) (.ret (.nm (by walk_at "m")))
 rw[List.sum_append,List.sum_singleton]
 walk_at "k"
end
end Mine
namespace Mine
section
variable{c:Cx}{A:Around}{L:Addr}{E E' E1 E2 E3 E4:List Res}{F:List Fa}{s:Shared}{env:PySem.Env}{p q r:Arg}{K:List Fa}
theorem aa.bK{W:ay}{G:List Fa}{v w:Value}(S:aa c L W G s)(h: .kn (aD w v)∈G):v=w:=S.fact fun ν k ν=>k.at h
noncomputable def ql(p:Arg)(K:List Fa){α:Type}(T:Tb α)(x:α):Prop:=∀c L W G s v,aa c L W G s→.kn (p v)∈G→(∀k∈K,k∈G)→At G v T x
theorem atK{α:Type}{T:Tb α}{x:α}:ql (ar (Ty.ref T) x) [] T x:=fun ν ν ν ν ν ν ν h ν=>.inl h
theorem oG{α:Type}{T:Tb α}{x:α}{a:Addr}:ql (aD (.ref a)) [.ow (own a T x)] T x:=fun ν ν ν ν ν ν S h hk=>.inr ⟨a,S.bK h,hk _ (.head _)⟩
theorem sM{α:Type}{T:Ty α}{xs:List (Tx×α)}{a:Addr}:yX (aD (.ref a)) [.ow (own a (aK c T) xs)] "dict" c:=fun ν ν ν ν ν S h hk=>by rw[S.bK h];exact S.rj (hk _ (.head _))
theorem lK{f:Fa}(h:fa f∈E):∀k∈[f],fa k∈E:=fun k hk=>by cases hk with |head=>exact h|tail _ h=>cases h
theorem dG{vs:List Value}{G:List Fa}(h:dj [p,q,r] vs G):∃v w x,vs=[v,w,x]∧.kn (p v)∈G∧.kn (q w)∈G∧.kn (r x)∈G:=by
 cases vs with
 |nil=>exact h.elim
 |cons v vs=>refine av (aS h.2) fun w x π52 h2 h3=>?_;rcases π52 with rfl;exact⟨v,w,x,rfl,h.1,h2,h3⟩
theorem Op.qs{f:List Value→Sem Value}{a b:Int}(h:∀{L W G s t u},aa c L W G s→Wp c A (f [.int a t,.int b u]) (fun r' s'=>aa c L W (.kn (r r')::G) s') s):Op c A f [] [ar ao a,ar ao b] r:=fun ν ν ν ν ν S ha ν=>by
 refine av (aS ha) fun v w π52 h1 h2=>?_;rcases π52 with rfl
 obtain⟨t,rfl⟩:=S.isInt h1
 obtain⟨u,rfl⟩:=S.isInt h2
 exact h S
theorem Op.str2{f:List Value→Sem Value}{a b:Tx}(h:∀{L W G s t u},aa c L W G s→Wp c A (f [.str (tx a) t,.str (tx b) u]) (fun r' s'=>aa c L W (.kn (r r')::G) s') s):Op c A f [] [ar ah a,ar ah b] r:=fun ν ν ν ν ν S ha ν=>by
 refine av (aS ha) fun v w π52 h1 h2=>?_;rcases π52 with rfl
 obtain⟨t,rfl⟩:=S.isStr h1
 obtain⟨u,rfl⟩:=S.isStr h2
 exact h S
noncomputable abbrev zA(op:Operator):List Value→Sem Value:=fun vs=>binaryOp op (vs.getD 0 .none) (vs.getD 1 .none)
noncomputable abbrev cop(op:CmpOp):List Value→Sem Value:=fun vs=>compareOp op (vs.getD 0 .none) (vs.getD 1 .none)
theorem fJ{a b:Int}:Op c A (zA .Add) [] [ar ao a,ar ao b] (ar ao (a+b)):=Op.qs fun S=>S.By fun ν ν S=>S.sY
theorem zR{a b:Int}:Op c A (zA .Sub) [] [ar ao a,ar ao b] (ar ao (a-b)):=Op.qs fun S=>S.BX fun ν ν S=>S.sY
theorem jd{a b:Int}(hb:b≠0):Op c A (zA .Mod) [] [ar ao a,ar ao b] (ar ao (a.fmod b)):=Op.qs fun S=>S.oMod hb fun ν ν S=>S.sY
theorem qP{a b:Int}(hb:b≠0)(hp:b.natAbs<1073741824):Op c A (zA .FloorDiv) [] [ar ao a,ar ao b] (ar ao (a.fdiv b)):=Op.qs fun S=>S.oDiv hb hp fun ν ν S=>S.sY
theorem fc{a b:Tx}(h:a.length+b.length≤sizeLine):Op c A (zA .Add) [] [ar ah a,ar ah b] (ar ah (a++b)):=Op.str2 fun S=>S.BU h fun ν ν S=>S.wO
theorem zV{a:Tx}{n:Int}(h0:0≤n)(h1:n≤16)(hx:a.length≤16):Op c A (zA .Mult) [] [ar ah a,ar ao n] (ar ah (List.replicate n.toNat a).flatten):=fun ν ν ν ν ν S ha ν=>by
 refine av (aS ha) fun v w π52 h1' h2=>?_;rcases π52 with rfl
 obtain⟨t,rfl⟩:=S.isStr h1'
 obtain⟨u,rfl⟩:=S.isInt h2
 exact S.Bf h0 h1 hx fun ν ν S=>S.wO
theorem ee{a b:Tx}:Op c A (cop .Eq) [] [ar ah a,ar ah b] (aD (.bool (a==b))):=Op.str2 fun S=>sEq (S.add _ fun ν ν=>rfl)
theorem ni{a b:Tx}:Op c A (cop .NotEq) [] [ar ah a,ar ah b] (aD (.bool (a !=b))):=Op.str2 fun S=>Cq (S.add _ fun ν ν=>rfl)
theorem nE{a b:Int}:Op c A (cop .Eq) [] [ar ao a,ar ao b] (aD (.bool (a==b))):=Op.qs fun S=>eq_int (S.add _ fun ν ν=>rfl)
theorem zN{a b:Int}:Op c A (cop .LtE) [] [ar ao a,ar ao b] (aD (.bool (decide (a≤b)))):=Op.qs fun S=>P.le_int (S.add _ fun ν ν=>rfl)
theorem uT{α:Type}{T:Ty α}{xs:List (Tx×α)}{k:Tx}(h:ql q K (aK c T) xs):Op c A (cop .In) K [ar ah k,q] (aD (.bool (at' xs k).isSome)):=fun ν ν ν ν ν S ha hk=>by
 refine av (aS ha) fun v w π52 h1 h2=>?_;rcases π52 with rfl
 obtain⟨t,rfl⟩:=S.isStr h1
 exact S.Cb (h _ _ _ _ _ _ S h2 hk) fun s' S=>S.add _ fun ν ν=>rfl
theorem mF{α:Type}[DecidableEq α]{T:Ty α}{n:Nat}(hT:g9 T n){xs:List α}{y:α}(h:ql q K (ai T) xs)(hu:A.units+(n+1)<cLine):Op c A (cop .NotIn) K [ar T y,q] (aD (.bool (!decide (y∈xs)))):=fun ν ν ν ν ν S ha hk=>by
 refine av (aS ha) fun v w π52 h1 h2=>?_;rcases π52 with rfl
 exact S.yW hT (h _ _ _ _ _ _ S h2 hk) h1 hu (S.add _ fun ν ν=>rfl)
theorem c8.cmp{e1 e2:Expr}{op:CmpOp}{pos:Pos}{b:Bool}(h1:Ev c A L E (eval e1 env) p E1)(h2:Ev c A L E1 (eval e2 env) q E2)(h:Op c A (cop op) K [p,q] (aD (.bool b)))(hK:autoParam (∀k∈K,fa k∈E2) wN)
 (hm:autoParam (behindInMarks op e2=false) zW):c8 c A L E (isTrue (.Compare e1 [op] [e2] pos) env (eval (.Compare e1 [op] [e2] pos) env)) b E2:=fun F s hs=>by
 refine wpAny_isTrue_Compare1 (wpAny_mono (h1 F s hs) (fun v s1 g1=>wpAny_mono (h2 _ s1 g1) (fun w s2 g2=>?_) fun ν ν x=>x) fun ν ν x=>x) hm
 refine wpAny_mono (h.run (vs:=[v,w]) (X:=[.kn (q w),.kn (p v)]) hK g2 ⟨.tail _ (.head _),.head _,trivial⟩) (fun x s3 g3=>?_) fun ν ν x=>x
 have g4:=g3.drop
 refine aB g3 fun W H hA S=>?_;try clear g3
 rw[S.bK (.head _)]
 exact wpAny_truthy_bool ⟨rfl,g4⟩
theorem c8.val{e:Expr}{b:Bool}(h:Ev c A L E (eval e env) (aD (.bool b)) E')(he:autoParam (isTrue e env (eval e env)=(do let v ←eval e env;standAt e.pos;holding [v] (truthy v))) af):c8 c A L E (isTrue e env (eval e env)) b E':=fun F s hs=>
 isTrue_plain (wpAny_mono (h F s hs) (fun v s1 h1=>by
  have h2:=h1.drop
  refine aB h1 fun W H hA S=>?_;try clear h1
  rw[S.bK (.head _)]
  exact wpAny_truthy_bool ⟨rfl,h2⟩) fun ν ν x=>x) he
theorem St.if{t:Expr}{b:Bool}{body orelse:List Stmt}{pos:Pos}(h:c8 c A L E (isTrue t env (eval t env)) b E1)(ht:b=true→St c A L E1 (execs body env) E2)(hf:b=false→St c A L E1 (execs orelse env) E2):St c A L E (exec (.If t body orelse pos) env) E2:=fun F s hs=>
 wpAny_If (wpAny_mono (h F s hs) (fun r s1 ⟨e,h1⟩=>by
  subst e
  cases r with
  |true=>exact ht rfl F s1 h1
  |false=>exact hf rfl F s1 h1) fun ν ν x=>x)
theorem Ev.if{t e1 e2:Expr}{b:Bool}{pos:Pos}(h:c8 c A L E (isTrue t env (eval t env)) b E1)(ht:b=true→Ev c A L E1 (eval e1 env) p E2)(hf:b=false→Ev c A L E1 (eval e2 env) p E2):Ev c A L E (eval (.IfExp t e1 e2 pos) env) p E2:=fun F s hs=>
 wpAny_IfExp (wpAny_mono (h F s hs) (fun r s1 ⟨e,h1⟩=>by
  subst e
  cases r with
  |true=>exact ht rfl F s1 h1
  |false=>exact hf rfl F s1 h1) fun ν ν x=>x)
theorem Ev.bi{id:Str}{v:Value}{pos:Pos}(g:cg c)(hn:nsIn (aO c) mainGlobals id=some none)(hv:bootBuiltins id=some v)(hne:id≠"__name__")(hg:autoParam (env.globals=mainGlobals) af)(hb:autoParam (env.builtins=builtinsNs) af)(hk:autoParam (env.scope.kind= .function) af)
 (hx:autoParam (env.kindOf id=some .globalImplicit) b7) (hd:autoParam ((id==("__debug__":Str))=false) b7):Ev c A L E (eval (.Name id pos) env) (aD v) E:=by
 intro F s υ2;obtain⟨W,H,hA,S⟩:=υ2
 exact S.bi g hn hv hne ⟨W,H,hA,S.add _ fun ν ν=>rfl⟩ hg hb hk hx hd
inductive RA:{α:Type}→Row α→α→List Arg→Prop
 |one {α:Type} {T:Ty α} {x:α}:RA (.one T) x [ar T x]
 |cons {α β:Type} {T:Ty α} {R:Row β} {x:α} {y:β} {ps:List Arg}:RA R y ps→RA (.cons T R) (x,y) (ar T x::ps)
theorem RA.facts{α:Type}{R:Row α}{x:α}{ps:List Arg}(h:RA R x ps){vs:List Value}{G:List Fa}(ha:dj ps vs G):vs.length=R.n∧∀B,Kh G B→AllP (R.facts vs x) B:=by
 induction h generalizing vs with
 |one=>
  refine aj (bH ha) fun v π31 hv=>?_;rcases π31 with rfl
  exact⟨rfl,fun B k=>⟨k.at hv,trivial⟩⟩
 |cons _ ih=>
  cases vs with
  |nil=>exact ha.elim
  |cons v vs=>
   obtain⟨h1,h2⟩:=ih ha.2
   exact⟨congrArg Nat.succ h1,fun B k=>⟨k.at ha.1,h2 B k⟩⟩
theorem Ev.tup{elts:List Expr}{k:Nat}{pos:Pos}{ps:List Arg}{α:Type}{R:Row α}{x:α}(h:oF c A L E (spliced (backTo pos (starEach elts env))) ps E')(hr:RA R x ps)(hn:autoParam (R.n≤100) Cc):Ev c A L E (eval (.Tuple elts k pos) env) (ar (Ty.tup R) x) E':=fun F s hs=>by
 refine Tuple_ (wpAny_mono (h F s hs) (fun vs s1 ⟨X,ha,_,W,H,hA,S⟩=>?_) fun ν ν x=>x)
 obtain⟨hl,hf⟩:=hr.facts (ha.mono (G':=(X++F)++H) fun ν h=>List.mem_append_left _ (List.mem_append_left _ h))
 exact S.AJ R x hf hl (by rw[hl];unfold sizeLine;exact ω1 hn rfl) fun v s' S=>Hd.out (X:=X) ⟨W,H,hA,S⟩
noncomputable def xg(c:Cx)(A:Around)(L:Addr)(E:List Res)(env:PySem.Env)(es:List Expr)(ps:List Arg)(E':List Res):Prop:=
 ∀F s vs X,Hd c L E (X++F) s→dj ps vs X→Wp c A (assignInOrder (es.map fun e=>assign e env) vs) (fun ν s'=>Hd c L E' F s') s
theorem xg.nil:xg c A L E env [] [] E:=fun F s vs X hs ha=>by
 cases vs with
 |nil=>exact uX hs.iZ
 |cons=>exact ha.elim
theorem xg.cons{t:Expr}{ts:List Expr}{ps:List Arg}(h:Tg c A L E env t p E1)(hr:xg c A L E1 env ts ps E2):xg c A L E env (t::ts) (p::ps) E2:=fun F s vs X hs ha=>by
 cases vs with
 |nil=>exact ha.elim
 |cons v vs=>
  have hs':Hd c L E (.kn (p v)::(X++F)) s:=by
   refine aB hs fun W H hA S=>?_;try clear hs
   exact⟨W,H,hA,S.add _ fun ν k=>k.at (List.mem_append_left _ (List.mem_append_left _ ha.1))⟩
  exact lF (wpAny_mono (h _ s v hs') (fun ν s1 h1=>hr F s1 vs X h1 ha.2) fun ν ν x=>x)
theorem Tg.tup{elts:List Expr}{k:Nat}{pos:Pos}{ps:List Arg}{α:Type}{R:Row α}{x:α}(hh:A.handled=none)(hr:RA R x ps)(h:xg c A L E env elts ps E')
 (ht:autoParam ((assignEach elts env).map (·.2)=elts.map (fun e=>assign e env)) af) (hn:autoParam ((assignEach elts env).length =R.n) af) (hst:autoParam ((assignEach elts env).findIdx? (·.1)=none) af):Tg c A L E env (.Tuple elts k pos) (ar (Ty.tup R) x) E':=fun F s v hs=>by
 refine aB hs fun W H hA S=>?_;try clear hs
 refine S.mu hh (.head _) (fun vs s' hl S=>?_) hn hst
 rw[ht]
 refine h F s' vs ((R.facts vs x).map .kn ++[.kn (is (Ty.tup R) v x)]) ⟨W,H,hA,?_⟩ ?_
 ·rw[List.append_assoc,List.append_assoc];exact S
 ·clear S hst hn ht
  have key:∀{β:Type} {R:Row β} {x:β} {ps:List Arg},RA R x ps→∀{vs:List Value},vs.length=R.n→dj ps vs ((R.facts vs x).map .kn):=by
   intro β R x ps h
   induction h with
   |one=>intro vs hl;obtain⟨a,rfl⟩:=fj hl;exact⟨.head _,trivial⟩
   |cons _ ih=>intro vs hl;cases vs with
    |nil=>cases hl
    |cons v vs=>exact⟨.head _,(ih (Nat.succ.inj hl)).mono fun ν h=>.tail _ h⟩
  exact(key hr hl).mono fun ν h=>List.mem_append_left _ h
theorem St.unpack{elts:List Expr}{e:Expr}{k:Nat}{tpos pos:Pos}(h:Ev c A L E (eval e env) p E1)(ht:Tg c A L E1 env (.Tuple elts k tpos) p E2)(hs:autoParam (swapsWithSole [.Tuple elts k tpos] e pos.line env=pure false) af)
 (hw:autoParam (swappedStores [.Tuple elts k tpos] e env=pure none) af):St c A L E (exec (.Assign [.Tuple elts k tpos] e pos) env) E2:=fun F s hs'=>
 Assign_Tuple (wpAny_mono (h F s hs') (fun v s1 h1=>wpAny_mono (ht F s1 v h1) (fun ν ν h2=>⟨rfl,h2⟩) fun ν ν x=>x) fun ν ν x=>x) hs hw
theorem dN.dict{β:Type}{T:Ty β}{pos:Pos}:dN c A L E (eval (.Dict [] [] pos) env) (aK c T) [] E:=by
 intro F s υ2;obtain⟨W,H,hA,S⟩:=υ2
 exact S.AR T fun a s' S=>⟨a,rfl,W,H,hA,S⟩
theorem Hd.turn{f f':Fa}(hs:Hd c L E F s)(h:Upd E (fa f) (fa f') E'):∃W R,(∃G,bA G f R∧aa c L W G s)∧(∀g∈F,g∈R)∧∀s',aa c L W (f'::R) s'→Hd c L E' F s':=by
 refine aB hs fun W H hA S=>?_;try clear hs
 obtain⟨W0,W1,W2,H0,H1,H2,⟨rfl,rfl⟩,rfl,rfl,k⟩:=hA.upd h
 refine⟨_,F++(H0++H2),⟨_,.here,S.perm ((List.perm_append_comm_assoc F H0 _).trans ?_)⟩,fun g hg=>List.mem_append_left _ hg,fun s' S'=>⟨_,_,k _ _ ⟨rfl,rfl⟩,S'.perm (((List.perm_append_comm_assoc F H0 _).trans ?_).symm)⟩⟩
 ·exact((List.perm_append_comm_assoc F [f] H2).append_left H0).trans ((List.perm_append_comm_assoc H0 [f] _).trans (List.Perm.append_left [f] (List.perm_append_comm_assoc H0 F H2)))
 ·exact((List.perm_append_comm_assoc F [f'] H2).append_left H0).trans ((List.perm_append_comm_assoc H0 [f'] _).trans (List.Perm.append_left [f'] (List.perm_append_comm_assoc H0 F H2)))
theorem Hd.qg{β:Type}{T:Ty β}{d:Addr}{xs:List (Tx×β)}{k:Tx}{y:β}{t:Tok}{v:Value}{X:List Fa}{Q:Unit→Shared→Prop}(hs:Hd c L E (X++F) s)(hv: .kn (is T v y)∈X)(hu:Upd E (fa (.ow (own d (aK c T) xs))) (fa (.ow (own d (aK c T) (put xs k y)))) E')(hsz:xs.length≤1000000)
 (h:∀s',Hd c L E' F s'→Q () s'):Wp c A (setItem (.ref d) (.str (tx k) t) v) Q s:=by
 obtain⟨W,R,⟨G,hp,S⟩,hF,back⟩:=hs.turn hu
 exact S.BL hp (fun B kh=>kh.at (hF _ (List.mem_append_left _ hv))) hsz fun s' S=>h s' (back s' S).iZ
theorem St.qg{β:Type}{T:Ty β}{d:Addr}{xs:List (Tx×β)}{k:Tx}{y:β}{e o i:Expr}{pos' pos:Pos}(h1:Ev c A L E (eval e env) (ar T y) E1)(h2:Ev c A L E1 (eval o env) (aD (.ref d)) E2)(h3:Ev c A L E2 (eval i env) (ar ah k) E3)
 (hu:Upd E3 (fa (.ow (own d (aK c T) xs))) (fa (.ow (own d (aK c T) (put xs k y)))) E4) (hsz:xs.length≤1000000) (hs:autoParam (swapsWith e (some (.Subscript o i pos')) pos.line env=pure false) af):St c A L E (exec (.Assign [.Subscript o i pos'] e pos) env) E4:=fun F s hs'=>by
 refine wpAny_Assign_Subscript (wpAny_mono (h1 F s hs') (fun v s1 g1=>wpAny_mono (h2 _ s1 g1) (fun ov s2 g2=>wpAny_mono (h3 _ s2 g2) (fun iv s3 g3=>?_) fun ν ν x=>x) fun ν ν x=>x) fun ν ν x=>x) hs
 have g4:=g3
 refine aB g4 fun W H hA S=>?_;try clear g4
 obtain⟨t,rfl⟩:=S.isStr (.head _)
 rw[S.bK (.tail _ (.head _))]
 exact g3.qg (X:=[_,_,_]) (.tail _ (.tail _ (.head _))) hu hsz fun s' h=>⟨rfl,h⟩
theorem St.Bo{d:Addr}{xs:List (Tx×Int)}{k:Tx}{y z:Int}{o e:Expr}{x:Str}{px pos' pos:Pos}(h2:Ev c A L E (eval o env) (aD (.ref d)) E1)(h3:Ev c A L E1 (eval (.Name x px) env) (ar ah k) E2)(hm:fa (.ow (own d (aK c ao) xs))∈E2)(hx:at' xs k=some y)
 (h1:Ev c A L E2 (eval e env) (ar ao z) E3) (hu:Upd E3 (fa (.ow (own d (aK c ao) xs))) (fa (.ow (own d (aK c ao) (put xs k (y+z))))) E4) (hsz:xs.length≤1000000):St c A L E (exec (.AugAssign (.Subscript o (.Name x px) pos') .Add e pos) env) E4:=fun F s hs'=>by
 refine wpAny_AugAssign_Subscript (wpAny_mono (h2 F s hs') (fun ov s1 g1=>wpAny_mono (h3 _ s1 g1) (fun iv s2 g2=>?_) fun ν ν x=>x) fun ν ν x=>x)
 refine aB g2 fun W H hA S=>?_;try clear g2
 obtain⟨t,rfl⟩:=S.isStr (.head _)
 rw[S.bK (.tail _ (.head _))]
 refine S.zT (T:=ao) (.ow (hA.fact hm)) hx fun v s3 S3=>?_
 obtain⟨t3,rfl⟩:=S3.isInt (x:=y) (.head _)
 refine wpAny_mono (h1 (F:=_::_::_::F) s3 ⟨W,H,hA,S3⟩) (fun w s4 g4=>?_) fun ν ν x=>x
 refine aB g4 fun W H hA S4=>?_;try clear g4
 obtain⟨t4,rfl⟩:=S4.isInt (x:=z) (.head _)
 refine S4.AP fun t5 s5 S5=>?_
 exact Hd.qg (X:=[.kn (is ao (.int (y+z) t5) (y+z)),_,_,_,_]) ⟨W,H,hA,S5.add _ fun ν ν=>⟨_,rfl⟩⟩ (.head _) hu hsz fun s' h=>⟨rfl,h⟩
theorem nM{i:Int}:Op c A (fun vs=>call (.builtin "isinstance") vs) [] [ar ao i,aD (.type "tuple")] (aD (.bool false)):=fun ν ν ν ν ν S ha ν=>by
 refine av (aS ha) fun v w π52 h1 h2=>?_;rcases π52 with rfl
 obtain⟨t,rfl⟩:=S.isInt h1
 rw[S.bK h2]
 exact sE S fun s' S=>S.add _ fun ν ν=>rfl
end
end Mine
namespace Mine
section
variable{c:Cx}{A:Around}{n:Nat}
theorem lG{xs ys:List (Tx×Int)}(g:cg c)(ok:Ok A (n+1))(hx:xs.length≤1000)(hy:ys.length≤1000):Op c A (fun vs=>call (.ref 182) vs) [] [ar (Ty.dct c ao) xs,ar (Ty.dct c ao) ys] (ar (Ty.dct c ao) (gm xs ys)):=fun L V G s vs S h ν=>by
 refine av (aS h) fun v w π52 hm hm'=>?_;rcases π52 with rfl
 have hL:=S.above
 refine b9 (args:=⟨[v,w],[]⟩) (binds:=[("target",v),("source",w)]) (V':=[("target",some v),("source",some w),("new_callers",none),("func",none),("caller",none)]) (C:=fun ν=>[]) g S ok rfl (.of_eq (by kernel_rfl)) (by kernel_rfl) (by decide+kernel) (by kernel_rfl) (by kernel_rfl) (fun ν=>by kernel_rfl) fun L' s' S ok'=>?_
 refine Rt.back ?_ (E:=[loc "target" (ar (Ty.dct c ao) xs),loc "source" (ar (Ty.dct c ao) ys),un "new_callers",un "func",un "caller"]) (.start S (.l (.l (.u (.u (.u .nil))))) (.cons (.tail _ hm) (.cons (.tail _ hm') .nil))) hL
 refine .new (.dict (T:=ao)) (fun a=>by walk_at "c") fun a=>?_
 refine .cons (.for ok'.hd (.items (.nm (by walk_at "m"))) (fun done=>[fa (.ow (own a (aK c ao) (done.foldl (fun acc p=>put acc p.1 p.2) []))),loc "target" (ar (Ty.dct c ao) xs),loc "source" (ar (Ty.dct c ao) ys),loc "new_callers" (aD (.ref a)),un "func",un "caller"]) .all fun done x rest e=>⟨_,.tup ok'.hd (.cons .one) (.cons (.nm (by walk_at "c")) (.cons (.nm (by walk_at "c")) .nil)),?_⟩) ?_
 ·have hl:(done.foldl (fun acc p=>put acc p.1 p.2) []).length≤1000000:=by
   have h1:=iV done [] (fun ν p=>p.2)
   have h2:done.length≤xs.length:=by rw[e];simp
   simp at h1;lia
  refine .cons (.qg (.nm (by walk_at "m")) (.nm (by walk_at "m")) (.nm (by walk_at "m")) (by walk_at "c") hl) (.end ?_)
  rw[List.foldl_append,List.foldl_cons,List.foldl_nil]
  walk_at "k"
 refine .cons (.for ok'.hd (.items (.nm (by walk_at "m"))) (fun done=>[fa (.ow (own a (aK c ao) (gm xs done))),loc "target" (ar (Ty.dct c ao) xs),loc "source" (ar (Ty.dct c ao) ys),loc "new_callers" (aD (.ref a)),un "func",un "caller"]) .all fun done x rest e=>⟨_,.tup ok'.hd (.cons .one) (.cons (.nm (by walk_at "c")) (.cons (.nm (by walk_at "c")) .nil)),?_⟩) ?_
 ·have hl:(gm xs done).length≤1000000:=by
   have h1:=qi xs done
   have h2:done.length≤ys.length:=by rw[e];simp
   lia
  have hstep:gm xs (done++[x])=put (gm xs done) x.1 (match at' (gm xs done) x.1 with |some v=>v+x.2|none=>x.2):=by
   unfold gm;rw[List.foldl_append];rfl
  refine .cons (.if (.cmp (.nm (by walk_at "m")) (.nm (by walk_at "m")) (uT oG) (lK (by walk_at "m"))) (fun hb=>?_) (fun hb=>?_)) (.end .all)
  ·obtain⟨y,hy⟩:=Option.isSome_iff_exists.mp hb
   rw[hy] at hstep
   refine .cons (.if (.val (.bR g (.cons (.nm (by walk_at "m")) (.cons (.bi g (by kernel_rfl) (by kernel_rfl) (by decide)) .nil)) nM (by kernel_rfl) (by kernel_rfl) (by decide))) (fun h=>nomatch h) (fun ν=>?_)) (.end .all)
   refine .cons (.Bo (.nm (by walk_at "m")) (.nm (by walk_at "m")) (by walk_at "m") hy (.nm (by walk_at "m")) (by walk_at "c") hl) (.end ?_)
   rw[hstep]
   walk_at "k"
  ·rw[show at' (gm xs done) x.1=none from by cases q:at' (gm xs done) x.1 with |none=>rfl|some y=>rw[q] at hb;cases hb] at hstep
   refine .cons (.qg (.nm (by walk_at "m")) (.nm (by walk_at "m")) (.nm (by walk_at "m")) (by walk_at "c") hl) (.end ?_)
   rw[hstep]
   walk_at "k"
 refine .pre (fun F s hs=>hs.e8 (y:="new_callers") (by walk_at "c") (by walk_at "c") (by walk_at "m")) (.ret (.nm (by walk_at "m")))
theorem dP{x y:bk}(g:cg c)(ok:Ok A (n+2))(hx:x.2.2.2.2.length≤1000)(hy:y.2.2.2.2.length≤1000):Op c A (fun vs=>call (.ref 175) vs) [] [ar (Ty.tup (bF c)) x,ar (Ty.tup (bF c)) y] (ar (Ty.tup (bF c)) (fP x y)):=fun L V G s vs S h ν=>by
 refine av (aS h) fun v w π52 hm hm'=>?_;rcases π52 with rfl
 have hL:=S.above
 refine b9 (args:=⟨[v,w],[]⟩) (binds:=[("target",v),("source",w)]) (V':=[("target",some v),("source",some w),("cc",none),("nc",none),("tt",none),("ct",none),("callers",none),("t_cc",none),("t_nc",none),("t_tt",none),("t_ct",none),("t_callers",none)]) (C:=fun ν=>[]) g S ok rfl (.of_eq (by kernel_rfl)) (by kernel_rfl) (by decide+kernel) (by kernel_rfl) (by kernel_rfl) (fun ν=>by kernel_rfl) fun L' s' S ok'=>?_
 refine Rt.back ?_ (E:=[loc "target" (ar (Ty.tup (bF c)) x),loc "source" (ar (Ty.tup (bF c)) y),un "cc",un "nc",un "tt",un "ct",un "callers",un "t_cc",un "t_nc",un "t_tt",un "t_ct",un "t_callers"]) (.start S (.l (.l (.u (.u (.u (.u (.u (.u (.u (.u (.u (.u .nil)))))))))))) (.cons (.tail _ hm) (.cons (.tail _ hm') .nil))) hL
 refine .cons (.unpack (.nm (by walk_at "m")) (.tup ok'.hd (.cons (.cons (.cons (.cons .one)))) (.cons (.nm (by walk_at "c")) (.cons (.nm (by walk_at "c")) (.cons (.nm (by walk_at "c")) (.cons (.nm (by walk_at "c")) (.cons (.nm (by walk_at "c")) .nil))))))) ?_
 refine .cons (.unpack (.nm (by walk_at "m")) (.tup ok'.hd (.cons (.cons (.cons (.cons .one)))) (.cons (.nm (by walk_at "c")) (.cons (.nm (by walk_at "c")) (.cons (.nm (by walk_at "c")) (.cons (.nm (by walk_at "c")) (.cons (.nm (by walk_at "c")) .nil))))))) ?_
 refine .ret (.tup (.cons (.bin (.nm (by walk_at "m")) (.nm (by walk_at "m")) fJ) (.cons (.bin (.nm (by walk_at "m")) (.nm (by walk_at "m")) fJ) (.cons (.bin (.nm (by walk_at "m")) (.nm (by walk_at "m")) fJ) (.cons (.bin (.nm (by walk_at "m")) (.nm (by walk_at "m")) fJ) (.cons (.dU g (.cons (.nm (by walk_at "m")) (.cons (.nm (by walk_at "m")) .nil)) (lG g ok' hx hy) (by kernel_rfl) rfl) .nil))))) (.cons (.cons (.cons (.cons .one)))))
end
end Mine
namespace Mine
section
variable{c:Cx}{A:Around}{L:Addr}{E E' E1 E2 E3 E4:List Res}{F:List Fa}{s:Shared}{env:PySem.Env}{p q r:Arg}{K:List Fa}
noncomputable def GO(c:Cx)(A:Around)(p q:Arg)(K:List Fa)(r:Arg):Prop:=∀L W G s v w (Q:Value→Shared→Prop),aa c L W G s→dj [p,q] [v,w] G→(∀k∈K,k∈G)→(∀x s',aa c L W (.kn (r x)::G) s'→Q x s')→gk c A v w Q s
theorem qQ{x:Tx}{i:Int}{k d:Nat}(hr: -16≤i∧i<2^60)(hk:seqIndex? i x.length=some k)(hd:x[k]?=some d):GO c A (ar ah x) (ar ao i) [] (ar ah [d]):=fun ν ν ν ν ν ν ν S ha ν hq=>by
 obtain⟨t,rfl⟩:=S.isStr ha.1
 obtain⟨u,rfl⟩:=S.isInt ha.2.1
 exact mG (S.BK hr hk hd fun t s' S=>hq _ _ S.wO)
theorem dz{α:Type}{T:Ty α}{xs:List α}{i:Int}{x:α}(h:ql p K (ai T) xs)(h0:0≤i)(h1:i<2^63)(hx:xs[i.toNat]?=some x):GO c A p (ar ao i) K (ar T x):=fun ν ν ν ν ν ν ν S ha hK hq=>by
 obtain⟨u,rfl⟩:=S.isInt ha.2.1
 rcases h _ _ _ _ _ _ S ha.1 hK with hm|⟨a,rfl,hm⟩
 ·exact fm S hm (S.z9 hm h0 h1 hx fun v' S=>hq _ _ S)
 ·exact gi S hm (S.yO hm h0 h1 hx fun v' S=>hq _ _ S)
theorem kr{α:Type}{T:Ty α}{xs:List α}{i:Int}{x:α}(h:ql p K (ai T) xs)(h0:i<0)(h1: -(xs.length:Int)≤i)(h2: -1000≤i)(hx:xs[(i+xs.length).toNat]?=some x):GO c A p (ar ao i) K (ar T x):=fun ν ν ν ν ν ν ν S ha hK hq=>by
 obtain⟨u,rfl⟩:=S.isInt ha.2.1
 rcases h _ _ _ _ _ _ S ha.1 hK with hm|⟨a,rfl,hm⟩
 ·exact fm S hm (S.wI hm h0 h1 h2 hx fun v' S=>hq _ _ S)
 ·exact gi S hm (S.m8 hm h0 h1 h2 hx fun v' S=>hq _ _ S)
inductive ze:{α:Type}→Row α→α→Nat→Arg→Prop
 |one {α:Type} {T:Ty α} {x:α}:ze (.one T) x 0 (ar T x)
 |head {α β:Type} {T:Ty α} {R:Row β} {x:α×β}:ze (.cons T R) x 0 (ar T x.1)
 |tail {α β:Type} {T:Ty α} {R:Row β} {x:α×β} {j:Nat} {p:Arg}:ze R x.2 j p→ze (.cons T R) x (j+1) p
theorem ze.fact{α:Type}{R:Row α}{x:α}{j:Nat}(h:ze R x j p){vs:List Value}{v:Value}(hl:vs.length=R.n)(hv:vs[j]?=some v):p v∈R.facts vs x∧j<R.n:=by
 induction h generalizing vs with
 |one=>obtain⟨a,rfl⟩:=fj hl;cases hv;exact⟨.head _,Nat.zero_lt_one⟩
 |head=>cases vs with
  |nil=>cases hv
  |cons a vs=>cases hv;exact⟨.head _,Nat.succ_pos _⟩
 |tail _ ih=>cases vs with
  |nil=>cases hv
  |cons a vs=>obtain⟨h1,h2⟩:=ih (Nat.succ.inj hl) hv;exact⟨.tail _ h1,Nat.succ_lt_succ h2⟩
theorem kq{α:Type}{R:Row α}{x:α}{i:Int}{j:Nat}(h:ze R x j r)(hj:j<R.n)(hi:autoParam (seqIndex? i R.n=some j) af)(h1:autoParam (-2^63≤i) A6)(h2:autoParam (i<2^63) A6):GO c A (ar (Ty.tup R) x) (ar ao i) [] r:=fun ν ν ν ν ν ν ν S ha ν hq=>by
 obtain⟨u,rfl⟩:=S.isInt ha.2.1
 refine iY S ha.1 (S.Aw ha.1 h1 h2 hi hj fun vs v' s' hl hv S=>hq _ _ ((S.add (r v') fun B k=>k.at (List.mem_append_left _ (List.mem_map.mpr ⟨_,(h.fact hl hv).1,rfl⟩))).sub (.kn (.head _) (.drop (Sub.right .all)))))
theorem jO{β:Type}{T:Ty β}{xs:List (Tx×β)}{k:Tx}{y:β}(h:ql p K (aK c T) xs)(hx:at' xs k=some y):GO c A p (ar ah k) K (ar T y):=fun ν ν ν ν ν ν ν S ha hK hq=>by
 obtain⟨u,rfl⟩:=S.isStr ha.2.1
 rcases h _ _ _ _ _ _ S ha.1 hK with hm|⟨a,rfl,hm⟩
 ·exact qB S hm (S.zT (.inl hm) hx fun v' s' S=>hq _ _ S)
 ·exact pJ S hm (S.zT (.inr ⟨a,rfl,hm⟩) hx fun v' s' S=>hq _ _ S)
noncomputable def Pt(c:Cx)(A:Around)(L:Addr)(E:List Res)(env:PySem.Env)(e:Option Expr)(i:Option Int)(E':List Res):Prop:=
 ∀F s,Hd c L E F s→Wp c A (evalPart e env) (fun v s'=>(∃j:Option (Int×Tok),v=partValue j∧j.map (·.1)=i)∧Hd c L E' F s') s
theorem Pt.no:Pt c A L E env none none E:=fun ν ν hs=>yo ⟨⟨none,rfl,rfl⟩,hs⟩
theorem Pt.yes{e:Expr}{i:Int}(h:Ev c A L E (eval e env) (ar ao i) E'):Pt c A L E env (some e) (some i) E':=fun F s hs=>
 yE (wpAny_mono (h F s hs) (fun v s' h'=>by
  obtain⟨t,rfl⟩:∃t,v= .int i t:=by refine aB h' fun W H ν2 S=>?_;try clear h';exact S.isInt (.head _)
  exact⟨⟨some (i,t),rfl,rfl⟩,h'.drop⟩) fun ν ν x=>x)
theorem Ev.neg{i:Int}{k:Nat}{pp pos:Pos}:Ev c A L E (eval (.UnaryOp .USub (.Constant (.int i) k pp) pos) env) (ar ao (-i)) E:=by
 intro F s υ2;obtain⟨W,H,hA,S⟩:=υ2
 exact As S fun t s' S=>⟨W,H,hA,S.sY⟩
theorem Hd.slice{e:Expr}{lower upper:Option Expr}{lo hi:Option Int}{pp pos:Pos}{Q:Value→Shared→Prop}(he:Ev c A L E (eval e env) p E1)(hl:Pt c A L E1 env lower lo E2)(hu:Pt c A L E2 env upper hi E3)(hs:Hd c L E F s)
 (k:∀v a jl jh W H s',jl.map (·.1)=lo→jh.map (·.1)=hi→aE E3 W H→aa c L W (.ow (own a (bE "slice" #[partValue jl,partValue jh,.none]) ()):: .kn (p v)::(F++H)) s'→gk c A v (.ref a) Q s'):Wp c A (eval (.Subscript e (.Slice lower upper none pp) pos) env) Q s:=
 t7 (wpAny_mono (he F s hs) (fun v s1 h1=>aa.slice (wpAny_mono (hl _ s1 h1) (fun vl s2 ⟨⟨jl,e1,e2⟩,h2⟩=>wpAny_mono (hu _ s2 h2) (fun vu s3 ⟨⟨jh,e3,e4⟩,W,H,hA,S⟩=>⟨L,W,_,S,fun a s' S=>by
  subst e1 e3
  exact k v a jl jh W H s' e2 e4 hA S⟩) fun ν ν x=>x) fun ν ν x=>x)) fun ν ν x=>x)
theorem Ev.cut{e:Expr}{lower upper:Option Expr}{lo hi:Option Int}{x:Tx}{pp pos:Pos}(he:Ev c A L E (eval e env) (ar ah x) E1)(hl:Pt c A L E1 env lower lo E2)(hu:Pt c A L E2 env upper hi E3)(hsz:x.length≤1000000):
 Ev c A L E (eval (.Subscript e (.Slice lower upper none pp) pos) env) (ar ah (cut x lo hi)) E3:=fun F s hs=>Hd.slice he hl hu hs fun v a jl jh W H s' e1 e2 hA S=>by
 obtain⟨t,rfl⟩:=S.isStr (.tail _ (.head _))
 subst e1 e2
 refine mG (S.BY (.head _) (by unfold sizeLine;exact ω1 hsz rfl) fun t' s' S=>?_)
 exact⟨W,H,hA,S.wO.sub (.kn (.head _) (.drop (.drop (.drop .all))))⟩
theorem dN.cut{α:Type}{T:Ty α}{e:Expr}{lower upper:Option Expr}{lo hi:Option Int}{x:List α}{pp pos:Pos}(he:Ev c A L E (eval e env) (ar (Ty.list T) x) E1)(hl:Pt c A L E1 env lower lo E2)(hu:Pt c A L E2 env upper hi E3)(hsz:x.length≤1000000)
 (pl:∀j:Option (Int×Tok),j.map (·.1)=lo→IsPart (partValue j) lo) (ph:∀j:Option (Int×Tok),j.map (·.1)=hi→IsPart (partValue j) hi):
 dN c A L E (eval (.Subscript e (.Slice lower upper none pp) pos) env) (ai T) (cut x lo hi) E3:=fun F s hs=>Hd.slice he hl hu hs fun v a jl jh W H s' e1 e2 hA S=>by
 refine fm S (.tail _ (.head _)) (S.oY (.tail _ (.head _)) (.head _) (pl _ e1) (ph _ e2) hsz fun b s' S=>⟨b,rfl,W,H,hA,S.sub (.own .here (.drop (.drop .all)))⟩)
theorem Ev.gf{e:Expr}{rest:List Expr}{id:Str}{pp pos:Pos}{b:String}{ps:List Arg}(g:cg c)(ha:oF c A L E (spliced (backTo pos (starEach (e::rest) env))) ps E')(ho:Op c A (fun vs=>call (.type b) vs) K ps r)
 (hn:nsIn (aO c) mainGlobals id=some none) (hv:bootBuiltins id=some (.type b)) (hne:id≠"__name__") (hK:autoParam (∀k∈K,fa k∈E') wN)
 (he:autoParam (starEach (e::rest) env=(false,eval e env)::starEach rest env) af) (hp:autoParam ((backTo pos (starEach rest env)).any (·.1)=false) af)
 (hg:autoParam (env.globals=mainGlobals) af) (hb:autoParam (env.builtins=builtinsNs) af) (hk:autoParam (env.scope.kind= .function) af) (hx:autoParam (env.kindOf id=some .globalImplicit) b7) (hd:autoParam ((id==("__debug__":Str))=false) b7):
 Ev c A L E (eval (.Call (.Name id pp) (e::rest) [] pos) env) r E':=fun F s hs=>by
 have hs':=hs
 refine aB hs fun W H hA S=>?_;try clear hs
 exact Mine.gf (S.bi g hn hv hne ⟨rfl,ha.run ho hK hs'⟩ hg hb hk hx hd) he hp
theorem dN.fH{o e:Expr}{rest:List Expr}{name:Str}{apos pos:Pos}{t id:String}{ps:List Arg}{α:Type}{T:Tb α}{y:α}(h:Ev c A L E (eval o env) p E1)(hm:oM t name id)(hof:yX p K t c)(ha:oF c A L E1 (spliced (backTo pos (starEach (e::rest) env))) ps E')
 (ho:zF c A (fun vs=>call (.builtin id) vs) K (p::ps) T y) (hK1:autoParam (∀k∈K,fa k∈E1) wN) (hK:autoParam (∀k∈K,fa k∈E') wN)
 (he:autoParam (starEach (e::rest) env=(false,eval e env)::starEach rest env) af) (hp:autoParam ((backTo pos (starEach rest env)).any (·.1)=false) af)
 (hbase:autoParam (attributeBase o name env (eval o env)=eval o env) af) (hfew:autoParam (((backTo pos (starEach (e::rest) env)).all (fun x=>!x.1)&&(backToKw pos (keywordEach [] env)).all (fun x=>x.1.isSome)
   &&decide ((e::rest).length +([]:List Keyword).length +(if([]:List Keyword).isEmpty then 0 else 1)<30))=true) af)
 (hline:autoParam ((apos.endLine==pos.line)=true) af):dN c A L E (eval (.Call (.Attribute o name apos) (e::rest) [] pos) env) T y E':=fun F s hs=>by
 refine f9 (wpAny_mono (h F s hs) (fun v s1 h1=>⟨t,id,hm,?_,wpAny_mono (ha _ s1 h1) (fun vs s2 h2=>?_) fun ν ν x=>x⟩) fun ν ν x=>x) he hp hbase hfew hline
 ·refine aB h1 fun W H hA S=>?_;try clear h1
  exact hof _ _ _ _ _ S (.head _) fun k hk=>hA.fact (hK1 k hk)
 ·refine bL h2 fun X ha ν2 π43=>?_;try clear h2;revert π43;intro h2
  exact ho.run (X:=X++[.kn (p v)]) (vs:=v::vs) hK (by rw[List.append_assoc];exact h2) ⟨List.mem_append_right _ (.head _),ha.mono fun ν h=>List.mem_append_left _ h⟩
theorem gw{x y:Tx}(hy:y≠[])(hsz:x.length≤1000000)(h2:(aJ x y).length≤1000000):zF c A (fun vs=>call (.builtin "str.split") vs) [] [ar ah x,ar ah y] (ai ah) (aJ x y):=fun ν ν ν ν ν S ha ν=>by
 refine av (aS ha) fun v w π52 h1 h2'=>?_;rcases π52 with rfl
 obtain⟨t,rfl⟩:=S.isStr h1
 obtain⟨u,rfl⟩:=S.isStr h2'
 exact S.yM hy hsz h2 fun a s' S=>⟨a,rfl,S⟩
theorem eG{x y:Tx}:Op c A (fun vs=>call (.builtin "str.count") vs) [] [ar ah x,ar ah y] (ar ao (cnt x y)):=Op.str2 (f:=fun vs=>call (.builtin "str.count") vs) fun S=>S.zv fun t s' S=>S.sY
theorem xw{x:Tx}{xs:List Tx}(h:ql q K (ai ah) xs)(hx:x.length≤100)(hb:∀y∈xs,y.length≤1000)(hn:xs.length≤1000):Op c A (fun vs=>call (.builtin "str.join") vs) K [ar ah x,q] (ar ah (cE x xs)):=fun ν ν ν ν ν S ha hK=>by
 refine av (aS ha) fun v w π52 h1 h2=>?_;rcases π52 with rfl
 obtain⟨t,rfl⟩:=S.isStr h1
 exact S.Ab (h _ _ _ _ _ _ S h2 hK) hx hb hn fun t s' S=>S.wO
theorem xm{β:Type}{T:Ty β}{xs:List (Tx×β)}{k:Tx}{y:β}(h:ql p K (aK c T) xs):Op c A (fun vs=>call (.builtin "dict.get") vs) K [p,ar ah k,ar T y] (ar T ((at' xs k).getD y)):=fun ν ν ν ν ν S ha hK=>by
 refine tV (dG ha) fun v w x π73 h1 h2 h3=>?_;rcases π73 with rfl
 obtain⟨t,rfl⟩:=S.isStr h2
 exact S.AE (h _ _ _ _ _ _ S h1 hK) h3 fun v s' S=>S
theorem eg{α:Type}{T:Ty α}{xs:List α}(h:ql p K (ai T) xs)(hsz:xs.length≤1000000):Op c A (fun vs=>call (.builtin "len") vs) K [p] (ar ao xs.length):=fun ν ν ν ν ν S ha hK=>by
 refine aj (bH ha) fun v π31 h1=>?_;rcases π31 with rfl
 rcases h _ _ _ _ _ _ S h1 hK with hm|⟨a,rfl,hm⟩
 ·exact S.AN hm hsz fun t s' S=>S.sY
 ·exact S.Af hm hsz fun t s' S=>S.sY
theorem n9{x:Tx}(hsz:x.length≤1000000):Op c A (fun vs=>call (.builtin "len") vs) [] [ar ah x] (ar ao x.length):=fun ν ν ν ν ν S ha ν=>by
 refine aj (bH ha) fun v π31 h1=>?_;rcases π31 with rfl
 obtain⟨t,rfl⟩:=S.isStr h1
 exact S.BB (by unfold sizeLine;exact ω1 hsz rfl) fun t s' S=>S.sY
theorem wj{xs:List Int}(hh:A.handled=none)(h:ql p K (ai ao) xs):Op c A (fun vs=>call (.builtin "sum") vs) K [p] (ar ao xs.sum):=fun ν ν ν ν ν S ha hK=>by
 refine aj (bH ha) fun v π31 h1=>?_;rcases π31 with rfl
 exact S.BG hh (h _ _ _ _ _ _ S h1 hK) fun t s' S=>S.sY
theorem uJ{i:Int}(h0:0≤i)(hi:i<10^10):Op c A (fun vs=>call (.type "int") vs) [] [ar ah (bZ i)] (ar ao i):=fun ν ν ν ν ν S ha ν=>by
 refine aj (bH ha) fun v π31 h1=>?_;rcases π31 with rfl
 obtain⟨t,rfl⟩:=S.isStr h1
 exact S.xY h0 hi fun t s' S=>S.sY
theorem wJ{i:Int}(hi:i.natAbs<10^10):Op c A (fun vs=>call (.type "str") vs) [] [ar ao i] (ar ah (bZ i)):=fun ν ν ν ν ν S ha ν=>by
 refine aj (bH ha) fun v π31 h1=>?_;rcases π31 with rfl
 obtain⟨t,rfl⟩:=S.isInt h1
 exact S.xE hi fun t s' S=>S.wO
theorem Ev.repl{o:Expr}{y' z':Str}{y z w:Tx}{k1 k2:Nat}{p1 p2 apos pos:Pos}(g:cg c)(h:Ev c A L E (eval o env) (ar ah w) E1)(hyz:y≠z)(hsz:w.length+(w.length+1)*z.length≤16777216)(e1:autoParam (y'.cps.toList=y) af)(e2:autoParam (z'.cps.toList=z) af)
 (hbase:autoParam (attributeBase o "replace" env (eval o env)=eval o env) af) (hline:autoParam ((apos.endLine==pos.line)=true) af):
 Ev c A L E (eval (.Call (.Attribute o "replace" apos) [.Constant (.str y') k1 p1,.Constant (.str z') k2 p2] [] pos) env) (ar ah (dR w y z)) E1:=fun F s hs=>by
 have htk:=g.tk
 subst e1 e2
 refine f9 (wpAny_mono (h F s hs) (fun v s0 h1=>?_) fun ν ν x=>x) (hbase:=hbase) (hline:=hline)
 refine aB h1 fun W H hA S=>?_;try clear h1
 obtain⟨t,rfl⟩:=S.isStr (.head _)
 refine⟨_,_,dZ,ofStr,spliced_more (S.g5 fun s1 S1 g1=>spliced_more (S1.g5 fun s2 S2 g2=>spliced_none ?_))⟩
 have k1:=S.tk
 refine S2.kQ (by show s0.toks≠0;exact id (ω216 htk k1)) (by show s1.toks≠0;exact id (ω217 g1)) (by show s0.toks≠s1.toks;exact id (ω218 g1)) hyz hsz fun t1 s3 S=>⟨W,H,hA,S.wO.sub (.kn (.head _) (.drop (.drop .all)))⟩
theorem dN.list{elts:List Expr}{pos:Pos}{ps:List Arg}{α:Type}(T:Ty α)(xs:List α)(h:oF c A L E (spliced (backTo pos (starEach elts env))) ps E')(hr:ps=xs.map (ar T))(hn:autoParam (xs.length≤100) A6):dN c A L E (eval (.List elts pos) env) (ai T) xs E':=fun F s hs=>by
 refine List_ (wpAny_mono (h F s hs) (fun vs s1 ⟨X,ha,_,W,H,hA,S⟩=>?_) fun ν ν x=>x)
 subst hr
 have key:∀{xs:List α} {vs:List Value},dj (xs.map (ar T)) vs X→vs.length=xs.length∧∀B,Kh X B→az (T.rel B) vs xs:=by
  intro xs
  induction xs with
  |nil=>intro vs ha;cases vs with
   |nil=>exact⟨rfl,fun ν ν=>.nil⟩
   |cons=>exact ha.elim
  |cons x xs ih=>intro vs ha;cases vs with
   |nil=>exact ha.elim
   |cons v vs=>exact⟨congrArg Nat.succ (ih ha.2).1,fun B k=>.cons (k.at ha.1) ((ih ha.2).2 B k)⟩
 obtain⟨hl,hf⟩:=key ha
 refine S.nList T xs (fun B k=>hf B fun kk hk=>k kk (bx.mpr (List.mem_append_left _ (List.mem_append_left _ (bx.mp hk))))) (by rw[hl];unfold sizeLine;exact ω1 hn rfl) fun b s' S=>⟨b,rfl,Hd.out (X:=X) ⟨W,H,hA,S⟩⟩
theorem dN.BQ{α:Type}{T:Ty α}{e1 e2:Expr}{pos:Pos}{a:Addr}{xs ys:List α}(h1:Ev c A L E (eval e1 env) (aD (.ref a)) E1)(h2:dN c A L E1 (eval e2 env) (ai T) ys E2)(hm:fa (.ow (own a (ai T) xs))∈E2)(hsz:xs.length+ys.length≤1000000):
 dN c A L E (eval (.BinOp e1 .Add e2 pos) env) (ai T) (xs++ys) E2:=fun F s hs=>by
 refine wpAny_BinOp (wpAny_mono (h1 F s hs) (fun v s1 g1=>wpAny_mono (h2 _ s1 g1) (fun w s2 g2=>?_) fun ν ν x=>x) fun ν ν x=>x)
 obtain⟨b,rfl,W,H,hA,S⟩:=g2
 rw[S.bK (.tail _ (.head _))]
 exact S.Ar (hA.fact hm) (.head _) hsz fun d s' S=>⟨d,rfl,W,H,hA,S.sub (.own .here (.drop (.drop .all)))⟩
theorem St.append{α:Type}{T:Ty α}{o e:Expr}{apos pos epos:Pos}{a:Addr}{xs:List α}{y:α}(h1:Ev c A L E (eval o env) (aD (.ref a)) E1)(hm:fa (.ow (own a (ai T) xs))∈E1)(h2:Ev c A L E1 (eval e env) (ar T y) E2)(hu:Upd E2 (fa (.ow (own a (ai T) xs))) (fa (.ow (own a (ai T) (xs++[y])))) E3)(hsz:xs.length≤1000000)
 (he:autoParam (starEach [e] env=(false,eval e env)::starEach [] env) af) (hbase:autoParam (attributeBase o "append" env (eval o env)=eval o env) af) (hfew:autoParam (((backTo pos (starEach [e] env)).all (fun x=>!x.1)&&(backToKw pos (keywordEach [] env)).all (fun x=>x.1.isSome)
   &&decide ([e].length +([]:List Keyword).length +(if([]:List Keyword).isEmpty then 0 else 1)<30))=true) af) (hline:autoParam ((apos.endLine==pos.line)=true) af)
 (hi:autoParam (interactive env=false) af) (hs:autoParam (swapsWith (.Call (.Attribute o "append" apos) [e] [] pos) none epos.line env=pure false) af):St c A L E (exec (.Expr (.Call (.Attribute o "append" apos) [e] [] pos) epos) env) E3:=fun F s hs'=>by
 refine jt (f9 (wpAny_mono (h1 F s hs') (fun v s1 g1=>?_) fun ν ν x=>x) he (hbase:=hbase) (hfew:=hfew) (hline:=hline)) hi hs
 have g2:=g1
 refine aB g2 fun W H hA S=>?_;try clear g2
 rw[S.bK (.head _)]
 refine⟨_,_,cS,S.fD (hA.fact hm),spliced_more (wpAny_mono (h2 _ s1 g1) (fun w s2 g3=>spliced_none ?_) fun ν ν x=>x) he⟩
 obtain⟨W,R,⟨G,hp,S⟩,hF,back⟩:=g3.turn hu
 exact S.gB hp (fun B kh=>kh.at (hF _ (.head _))) hsz fun s' S=>⟨rfl,rfl,(back s' S).drop.drop⟩
end
end Mine
namespace Mine
theorem Upd.symm{E E':List Res}{r r':Res}(h:Upd E r r' E'):Upd E' r' r E:=by
 induction h with
 |here=>exact .here
 |there _ ih=>exact .there ih
inductive jK:List Res→List Res→Prop
 |nil:jK [] []
 |take {r:Res} {E B:List Res} (h:∀W H,r W H→W=[]):jK E B→jK (r::E) (r::B)
 |skip {r:Res} {E B:List Res}:jK E B→jK (r::E) B
theorem jK.eW{ca:Addr}{p:Arg}{E B:List Res}(h:jK E B):jK (eW ca p::E) (eW ca p::B):=.take (fun ν ν ⟨_,e,_⟩=>e) h
section
variable{c:Cx}{A:Around}{L:Addr}{E E' E1 E2 E3 E4 B:List Res}{F:List Fa}{s:Shared}{env:PySem.Env}{p q r:Arg}{K:List Fa}
noncomputable def oH(c:Cx)(A:Around)(L:Addr)(E:List Res)(X:Sem Value)(target:Expr){α:Type}(T:Ty α)(xs:List α)(E1 E2:List Res):Prop:=
 ∀F s,Hd c L E F s→Wp c A X (fun v s1=>Wp c A (pyIter v) (fun it s2=>∃(Fi:Nat→List Fa) (Z:List Fa),ig c it target T xs Fi Z∧Hd c L E1 (Fi 0++F) s2∧∀F s,Hd c L E1 (Z++F) s→Hd c L E2 F s) s1) s
theorem oH.list{X:Sem Value}{target:Expr}{α:Type}{T:Ty α}{xs:List α}(h:Ev c A L E X (ar (Ty.list T) xs) E'):oH c A L E X target T xs E' E':=fun F s hs=>
 wpAny_mono (h F s hs) (fun v s1 ⟨W,H,hA,S⟩=>S.mV (.head _) fun it Fi s' src S=>⟨Fi,[],src _,Hd.iZ (X:=[.kn (ar (Ty.list T) xs v)]) ⟨W,H,hA,by
  refine S.perm ?_
  show(Fi 0++([_]++(F++H))).Perm (([_]++(Fi 0++F))++H)
  rw[List.append_assoc,List.append_assoc]
  exact List.perm_append_comm_assoc ..⟩,fun ν ν h=>h⟩) fun ν ν x=>x
noncomputable def emp:Res:=fun W H=>W=[]∧H=[]
theorem oH.aC{X:Sem Value}{target:Expr}{α:Type}{T:Ty α}{xs:List α}{a:Addr}(h:Ev c A L E X (aD (.ref a)) E1)(hu:Upd E1 (fa (.ow (own a (ai T) xs))) emp E2):oH c A L E X target T xs E2 E1:=fun F s hs=>
 wpAny_mono (h F s hs) (fun v s1 h1=>by
  refine aB h1 fun W H hA S=>?_;try clear h1
  rw[S.bK (.head _)]
  obtain⟨W0,W1,W2,H0,H1,H2,⟨rfl,rfl⟩,rfl,rfl,k⟩:=hA.upd hu
  have e1:((.kn (aD (.ref a) v)::F)++(H0++([Fa.ow (own a (ai T) xs)]++H2))).Perm ([.ow (own a (ai T) xs)]++((.kn (aD (.ref a) v)::F)++(H0++H2))):=
   ((List.perm_append_comm_assoc H0 [_] H2).append_left _).trans (List.perm_append_comm_assoc _ [_] _)
  refine(S.perm e1).iO .here fun it Fi s' src S=>⟨Fi,_,src _,Hd.iZ (X:=[.kn (aD (.ref a) v)]) ⟨_,_,k [] [] ⟨rfl,rfl⟩,?_⟩,fun F s h2=>?_⟩
  ·refine S.perm ?_
   show(Fi 0++([_]++(F++(H0++H2)))).Perm (([_]++(Fi 0++F))++(H0++([]++H2)))
   rw[List.nil_append,List.append_assoc,List.append_assoc]
   exact List.perm_append_comm_assoc ..
  ·refine aB h2 fun W H hA S=>?_;try clear h2
   obtain⟨W0,W1,W2,H0,H1,H2,⟨rfl,rfl⟩,rfl,rfl,k⟩:=hA.upd hu.symm
   refine⟨_,_,k [] [.ow (own a (ai T) xs)] ⟨rfl,rfl⟩,S.perm ?_⟩
   rw[List.nil_append]
   have e2:([Fa.ow (own a (ai T) xs)]++(F++(H0++H2))).Perm (F++(H0++([.ow (own a (ai T) xs)]++H2))):=
    (List.perm_append_comm_assoc _ F _).trans ((List.perm_append_comm_assoc _ H0 _).append_left F)
   rw[List.append_assoc]
   exact e2) fun ν ν x=>x
theorem c8.t0:c8 c A L E (cy [] env) true E:=fun ν ν hs=>qG ⟨rfl,hs⟩
theorem c8.t1{e:Expr}{b:Bool}(h:c8 c A L E (isTrue e env (eval e env)) b E'):c8 c A L E (cy [e] env) b E':=fun F s hs=>uF (h F s hs)
theorem aE.inv{r:Res}{W:ay}{H:List Fa}(h:aE (r::B) W H):∃W1 W2 H1 H2,r W1 H1∧aE B W2 H2∧W=W1++W2∧H=H1++H2:=by
 cases h with
 |cons a b=>exact⟨_,_,_,_,a,b,rfl,rfl⟩
theorem jK.none(h:jK E B){W:ay}{H:List Fa}(hA:aE B W H):W=[]:=by
 induction h generalizing W H with
 |nil=>cases hA;rfl
 |take hr _ ih=>cases hA with |cons a b=>rw[hr _ _ a,ih b];rfl
 |skip _ ih=>exact ih hA
theorem jK.run(h:jK E B){W:ay}{H:List Fa}(hA:aE E W H):∃HB HR,aE B [] HB∧H.Perm (HB++HR)∧∀HB',aE B [] HB'→∃H',aE E W H'∧H'.Perm (HB'++HR):=by
 induction h generalizing W H with
 |nil=>cases hA;exact⟨[],[],.nil,.refl _,fun HB' h=>by cases h;exact⟨_,.nil,.refl _⟩⟩
 |take hr h ih=>
  refine fK hA.inv fun W1 W2 H1 H2 a b π86 π87=>?_;rcases π86 with rfl;rcases π87 with rfl
  obtain rfl:=hr _ _ a
  refine av (ih b) fun HB HR h1 h2 h3=>?_
  refine⟨_,HR,aE.cons (W:=[]) a h1,by rw[List.append_assoc];exact h2.append_left _,fun HB' h4=>?_⟩
  refine fK h4.inv fun W3 W4 H3 H4 a' b' e π87=>?_;rcases π87 with rfl
  rw[h.none b'] at b'
  rw[hr _ _ a'] at a'
  refine aj (h3 _ b') fun H' h5 h6=>?_
  exact⟨_,aE.cons (W:=[]) a' h5,by rw[List.append_assoc];exact h6.append_left _⟩
 |skip h ih=>
  refine fK hA.inv fun W1 W2 H1 H2 a b π86 π87=>?_;rcases π86 with rfl;rcases π87 with rfl
  refine av (ih b) fun HB HR h1 h2 h3=>?_
  refine⟨HB,H1++HR,h1,(h2.append_left H1).trans (List.perm_append_comm_assoc ..),fun HB' h4=>?_⟩
  refine aj (h3 _ h4) fun H' h5 h6=>?_
  exact⟨_,.cons a h5,(h6.append_left H1).trans (List.perm_append_comm_assoc ..)⟩
theorem aE.split{P:List Res}{W:ay}{H:List Fa}(h:aE (P++B) W H):∃W1 W2 H1 H2,aE P W1 H1∧aE B W2 H2∧W=W1++W2∧H=H1++H2:=by
 induction P generalizing W H with
 |nil=>exact⟨[],W,[],H,.nil,h,rfl,rfl⟩
 |cons r P ih=>
  cases h with
  |cons a b=>
   refine fK (ih b) fun W1 W2 H1 H2 h1 h2 π86 π87=>?_;rcases π86 with rfl;rcases π87 with rfl
   exact⟨_,W2,_,H2,.cons a h1,h2,(List.append_assoc ..).symm,(List.append_assoc ..).symm⟩
noncomputable def xd(c:Cx)(A:Around)(L:Addr)(E:List Res)(env:PySem.Env)(elt target iter:Expr)(ifs:List Expr)(scope:Scope)(pos:Pos)(cl:List (Str×Addr)){β:Type}(U:Ty β)(z:List β)(E2:List Res):Prop:=
 ∀(use:Option (Value→Sem Unit)) (Q:Value→Shared→Prop) (F:List Fa) (s:Shared),Hd c L E F s→(∀C a VC s',Hd c L E2 (.ow (own C bC VC):: .ow (own a (ai U) z)::F) s'→bh c A L use Q (.ref a) C s')→
  Wp c A (eval iter env) (fun x s₁=>Wp c A (pyIter x) (fun it s₂=>Wp c A (newList []) (fun acc s₃=>∃L V G,aa c L V G s₃∧∀C s₄,aa c C (bN scope.names) (aI (aG (cellsFrom (C+1) scope.names []) (fun ν=>none) scope.names)++ .ow (own L bC V)::G) s₄→
   codeAny (model c.prog c.w) A (.compStart (.ListComp elt [⟨target,iter,ifs,0⟩] scope pos) 0 it acc (aN scope cl C env)) (fun r s₅=>r= .ok .next∧bh c A L use Q acc C s₅) s₄) s₂) s₁) s
theorem xd.mk{elt target iter:Expr}{ifs:List Expr}{scope:Scope}{pos:Pos}{α β:Type}{T:Ty α}{U:Ty β}{xs:List α}(cl:List (Str×Addr))(hh:A.handled=none)(P:Addr→List Res)(f:α→β)(b:α→Bool)
 (it:oH c A L E (eval iter env) target T xs E1 E2) (hB:jK E1 B) (hP:∀C,∃P0,P C=P0++B) (h0:∀C HB,aE B [] HB→aE (P C) (bN scope.names) (aI (aG (cellsFrom (C+1) scope.names []) (fun ν=>none) scope.names)++HB))
 (step:∀C x,x∈xs→∃E3 E4,Tg c A C (P C) (aN scope cl C env) target (ar T x) E3∧c8 c A C E3 (cy ifs (aN scope cl C env)) (b x) E4∧(b x=true→Ev c A C E4 (eval elt (aN scope cl C env)) (ar U (f x)) E4)∧Wk E4 (P C)) (hlen:xs.length≤1000000):
 xd c A L E env elt target iter ifs scope pos cl U ((xs.filter b).map f) E2:=fun use Q F s hs' fin=>by
 refine wpAny_mono (it F s hs') (fun v s1 h1=>wpAny_mono h1 (fun it s2 h2=>?_) fun ν ν x=>x) fun ν ν x=>x
 obtain⟨Fi,Z,src,⟨W,H,hA,S⟩,back⟩:=h2
 refine av (hB.run hA) fun HB HR hB1 hp reb=>?_
 have S:=S.perm (G':=Fi 0++(HB++(HR++F))) (by
  rw[List.append_assoc,←List.append_assoc HB]
  exact((hp.append_left F).trans List.perm_append_comm).append_left _)
 have pE:∀{X Y Z:List Fa},((X++Y)++Z).Perm ((Y++Z)++X):=fun{X Y Z}=>by rw[List.append_assoc];exact List.perm_append_comm
 refine vm src hh U (fun l=>(l.filter b).map f) (fun C done VC G'=>∃HE,aE (P C) VC HE∧G'=HE++(HR++F)) S rfl (fun l=>by rw[List.length_map];exact List.length_filter_le ..) hlen (fun C=>⟨_,⟨_,h0 C HB hB1,rfl⟩,by rw[List.append_assoc];exact .all⟩) ?_ ?_
 ·intro C a done x rest VC _ X v s e υ11 S;obtain⟨HE,hE,rfl⟩:=υ11
  refine fO (step C x (by rw[e];simp)) fun E3 E4 h1 h2 h3 h4=>?_
  refine wpAny_mono (h1 (.ow (own a (ai U) ((done.filter b).map f)):: .ow (own L bC W)::((HR++F)++X)) s v ⟨VC,HE,hE,S.perm (((pE.cons _).cons _).cons _)⟩) (fun ν s1 g1=>wpAny_mono (h2 _ s1 g1) (fun ok s2 g2=>?_) fun ν ν x=>x) fun ν ν x=>x
  obtain⟨rfl,g2⟩:=g2
  cases hb:b x with
  |true=>
   rw[if_pos rfl]
   refine wpAny_mono (h3 hb _ s2 g2) (fun y s3 g3=>?_) fun ν ν x=>x
   refine aB (g3.wk h4) fun VC' HE' hE' S'=>?_
   exact⟨VC',_,f x,by rw[List.filter_append];simp[hb],⟨HE',hE',rfl⟩,S'.perm (((pE.symm.cons _).cons _).cons _)⟩
  |false=>
   rw[if_neg Bool.false_ne_true]
   refine aB (g2.wk h4) fun VC' HE' hE' S'=>?_
   exact⟨VC',_,by rw[List.filter_append];simp[hb],⟨HE',hE',rfl⟩,S'.perm ((pE.symm.cons _).cons _)⟩
 ·intro C a VC _ s' υ5 S;obtain⟨HE,hE,rfl⟩:=υ5
  obtain⟨P0,eP⟩:=hP C
  rw[eP] at hE
  refine fK hE.split fun W1 W2 HP HB' ν4 h2 π86 π87=>?_;rcases π86 with rfl;rcases π87 with rfl
  rw[hB.none h2] at h2
  refine aj (reb _ h2) fun H' h5 h6=>?_
  have e1:(Z++((HP++HB')++(HR++F))).Perm (HP++(Z++((HB'++HR)++F))):=by
   rw[List.append_assoc HP,List.append_assoc HB'];exact List.perm_append_comm_assoc ..
  have e2:∀X:List Fa,(X++(Z++((HB'++HR)++F))).Perm ((Z++(X++F))++H'):=fun X=>by
   rw[List.append_assoc Z,List.append_assoc X]
   exact(List.perm_append_comm_assoc ..).trans (((List.perm_append_comm.trans (h6.symm.append_left F)).append_left X).append_left Z)
  have S:=S.perm (((e1.append_left [_,_]).trans (List.perm_append_comm_assoc ..)).trans (List.Perm.append_left HP (e2 _)))
  exact fin C a _ s' (back _ _ ⟨W,H',h5,S.drops⟩)
theorem xd.Cd{elt target iter:Expr}{ifs:List Expr}{scope:Scope}{pos:Pos}{β:Type}{U:Ty β}{z:List β}{cl:List (Str×Addr)}(h:xd c A L E env elt target iter ifs scope pos cl U z E2)
 (hclos:autoParam (closureFor scope env=pure cl) af) (hs:autoParam (∀x,foldedSetIterable iter env x=pure x) ua) (hkind:autoParam (scope.kind= .function) af) (hn:autoParam ((scope.names.map (·.1)).Nodup) ym):
 dN c A L E (eval (.ListComp elt [⟨target,iter,ifs,0⟩] scope pos) env) (ai U) z E2:=fun F s hs'=>
 Mine.c9 cl (h none _ F s hs' fun ν a ν ν ⟨W,H,hA,S⟩=>S.Bc fun ν S=>⟨a,rfl,W,H,hA,S⟩) hclos hs hkind hn
theorem dN.c9{elt target iter:Expr}{ifs:List Expr}{scope:Scope}{pos:Pos}{α β:Type}{T:Ty α}{U:Ty β}{xs:List α}(cl:List (Str×Addr))(hh:A.handled=none)(P:Addr→List Res)(f:α→β)(b:α→Bool)
 (it:oH c A L E (eval iter env) target T xs E1 E2) (hB:jK E1 B) (hP:∀C,∃P0,P C=P0++B) (h0:∀C HB,aE B [] HB→aE (P C) (bN scope.names) (aI (aG (cellsFrom (C+1) scope.names []) (fun ν=>none) scope.names)++HB))
 (step:∀C x,x∈xs→∃E3 E4,Tg c A C (P C) (aN scope cl C env) target (ar T x) E3∧c8 c A C E3 (cy ifs (aN scope cl C env)) (b x) E4∧(b x=true→Ev c A C E4 (eval elt (aN scope cl C env)) (ar U (f x)) E4)∧Wk E4 (P C)) (hlen:xs.length≤1000000)
 (hclos:autoParam (closureFor scope env=pure cl) af) (hs:autoParam (∀x,foldedSetIterable iter env x=pure x) ua) (hkind:autoParam (scope.kind= .function) af) (hn:autoParam ((scope.names.map (·.1)).Nodup) ym):
 dN c A L E (eval (.ListComp elt [⟨target,iter,ifs,0⟩] scope pos) env) (ai U) ((xs.filter b).map f) E2:=(xd.mk cl hh P f b it hB hP h0 step hlen).Cd hclos hs hkind hn
theorem Rt.Bq{R:Rp}{elt target iter:Expr}{ifs:List Expr}{scope:Scope}{pos ypos spos:Pos}{rest:List Stmt}{y:Str}{β:Type}{U:Ty β}{z:List β}{cl:List (Str×Addr)}{E3:Addr→List Res}(h:xd c A L E env elt target iter ifs scope pos cl U z E2)(hp:∀a,cP y (loc y (aD (.ref a))) E2 (E3 a))
 (k:∀a,Rt c A L (Mine.fa (.ow (own a (ai U) z))::E3 a) (execs rest env) R) (hclos:autoParam (closureFor scope env=pure cl) af) (hs:autoParam (∀x,foldedSetIterable iter env x=pure x) ua) (hkind:autoParam (scope.kind= .function) af) (hn:autoParam ((scope.names.map (·.1)).Nodup) ym)
 (hsw:autoParam (swapsWith (.ListComp elt [⟨target,iter,ifs,0⟩] scope pos) (some (.Name y ypos)) spos.line env=pure true) af) (hL:autoParam (env.locals=L) af) (hk:autoParam (env.scope.kind= .function) af) (hl:autoParam (env.kindOf y=some .local) b7):
 Rt c A L E (execs (.Assign [.Name y ypos] (.ListComp elt [⟨target,iter,ifs,0⟩] scope pos) spos::rest) env) R:=fun F s hs'=>
 wpAny_execs_cons (wpAny_mono (zm (Q:=fun f s'=>f= .next∧Wp c A (execs rest env) (R F) s') cl (h _ _ F s hs' fun C a VC s' ⟨W,H,hA,S⟩=>by
  have hd:Hd c L E2 (.kn (aD (.ref a) (.ref a)):: .ow (own C bC VC):: .ow (own a (ai U) z)::F) s':=⟨W,H,hA,S.add _ fun ν ν=>rfl⟩
  exact⟨W,_,_,S,wpAny_assign_Name (hd.wQ (hp a) (fun s'' ⟨W3,H3,hA3,S3⟩=>⟨W3,_,_,S3,fun s S=>⟨rfl,k a F s ⟨W3,_,aE.cons (W:=[]) ⟨rfl,rfl⟩ hA3,S.perm List.perm_middle.symm⟩⟩⟩) hL hk hl)⟩) hclos hs hkind hn hsw) (fun f s' ⟨e,h⟩=>by subst e;exact h) fun ν ν x=>x)
end
end Mine
local macro_rules | `(tactic| walk_at "f") => `(tactic| repeat with_reducible first | exact Mine.jK.nil | apply Mine.jK.eW | apply Mine.jK.stk | apply Mine.jK.skip)
namespace Mine
section
variable{c:Cx}{A:Around}{L:Addr}{E E' E1 E2 E3 E4 B:List Res}{F:List Fa}{s:Shared}{env:PySem.Env}{p q r:Arg}{K:List Fa}
theorem c8.to{X:Sem Bool}{b b':Bool}(h:c8 c A L E X b E')(e:b=b'):c8 c A L E X b' E':=e▸h
theorem Ev.to{X:Sem Value}{α:Type}{T:Ty α}{a b:α}(h:Ev c A L E X (ar T a) E')(e:a=b):Ev c A L E X (ar T b) E':=e▸h
theorem St.nH{x:Str}{e:Expr}{pos' pos:Pos}(p:Arg)(h:Ev c A L E (eval e env) p E)(hp:cP x (loc x p) E E2)(hs:autoParam (swapsWith e (some (.Name x pos')) pos.line env=pure false) af)
 (hL:autoParam (env.locals=L) af) (hk:autoParam (env.scope.kind= .function) af) (hl:autoParam (env.kindOf x=some .local) b7):St c A L E (exec (.Assign [.Name x pos'] e pos) env) E2:=St.set h hp hs hL hk hl
theorem iw{α:Type}(l:List α):l.filter (fun ν=>true)=l:=List.filter_eq_self.mpr fun ν ν=>rfl
theorem Ok.cl{n k:Nat}(h:Ok A (n+1))(hk:autoParam (k≤16) A6):A.units+k<cLine:=by have:=h.un;show _<9900;exact ω83 hk this
theorem aE.ce{ca:Addr}{v:Value}{W:ay}{H:List Fa}(h:aE E W H):aE (eW ca p::E) W (.ow (own ca bB (some v)):: .kn (p v)::H):=aE.cons (W:=[]) (H:=[_,_]) ⟨v,rfl,rfl⟩ h
theorem aE.cu{ca:Addr}{o:Option Value}{W:ay}{H:List Fa}(h:aE E W H):aE (jE ca::E) W (.ow (own ca bB o)::H):=aE.cons (W:=[]) (H:=[_]) ⟨o,rfl,rfl⟩ h
inductive qu(F:List Fa):List Fa→List Fa→Prop
 |nil:qu F [] []
 |kn {k:MP} {X H:List Fa}: .kn k∈F→qu F X H→qu F X (.kn k::H)
 |ow {w:Ow} {X H:List Fa}:qu F X H→qu F (.ow w::X) (.ow w::H)
theorem Hd.jf{W:ay}{X H:List Fa}(S:aa c L W (X++F) s)(hA:aE E W H)(h:qu F X H):Hd c L E F s:=by
 refine⟨W,_,hA,?_⟩
 clear hA
 have key:∃ks:List MP,H.Perm (ks.map .kn ++X)∧∀k∈ks,.kn k∈F:=by
  clear S
  induction h with
  |nil=>exact⟨[],.refl _,fun ν h=>nomatch h⟩
  |kn hk _ ih=>refine aj ih fun ks h1 h2=>?_;try clear ih;exact⟨_::ks,h1.cons _,fun k h=>by cases h with |head=>exact hk|tail _ h=>exact h2 k h⟩
  |ow _ ih=>refine aj ih fun ks h1 h2=>?_;try clear ih;exact⟨ks,(h1.cons _).trans List.perm_middle.symm,h2⟩
 refine aj key fun ks h1 h2=>?_;try clear key
 have S:=S.adds ks fun B kh k hk=>kh.at (List.mem_append_right _ (h2 k hk))
 rw[←List.append_assoc] at S
 exact S.perm (List.perm_append_comm.trans (h1.symm.append_left F))
theorem Hd.z7{x:Str}{ca:Addr}{v:Value}{u:Res}(hu:∀W H,u W H→∃o,W=[]∧(H=[.ow (own ca bB o)]∨∃k,H=[.ow (own ca bB o),.kn k]))(h:Upd E u (eW ca p) E')(hs:Hd c L E (.kn (p v)::F) s){Q:Unit→Shared→Prop}(hQ:∀s',Hd c L E' F s'→Q () s')
 (hc:env.cells.lookup x=some ca) (hk:autoParam (env.scope.kind= .function) af) (hl:autoParam (env.kindOf x=some .cell) b7):Wp c A (storeName env x v) Q s:=by
 refine aB hs fun W H hA S=>?_;try clear hs
 obtain⟨W0,W1,W2,H0,H1,H2,h1,rfl,rfl,k⟩:=hA.upd h
 refine aj (hu _ _ h1) fun o π31 hH=>?_;rcases π31 with rfl
 have e1:∃Y,((.kn (p v)::F)++(H0++(H1++H2))).Perm (.ow (own ca bB o)::(Y++((.kn (p v)::F)++(H0++H2)))):=by
  have e2:((Fa.kn (p v)::F)++(H0++(H1++H2))).Perm (H1++((.kn (p v)::F)++(H0++H2))):=((List.perm_append_comm_assoc H0 H1 H2).append_left _).trans (List.perm_append_comm_assoc _ H1 _)
  rcases hH with rfl|⟨k,rfl⟩
  ·exact⟨[],e2⟩
  ·exact⟨[_],e2⟩
 obtain⟨Y,e1⟩:=e1
 refine(S.perm e1).Cg hc .here (fun s' S=>hQ s' ⟨_,_,k [] [.ow (own ca bB (some v)),.kn (p v)] ⟨v,rfl,rfl⟩,?_⟩) hk hl
 have S:=aa.drops (X:=Y) (S.perm (List.perm_middle (a:=Fa.ow (own ca bB (some v))) (l₁:=Y)).symm)
 refine S.perm ?_
 have e3:(Fa.ow (own ca bB (some v))::((Fa.kn (p v)::F)++(H0++H2))).Perm ([.ow (own ca bB (some v)),.kn (p v)]++(F++(H0++H2))):=.refl _
 exact e3.trans ((List.perm_append_comm_assoc _ F _).trans ((List.perm_append_comm_assoc _ H0 _).append_left F))
theorem jc{ca:Addr}:∀W H,jE ca W H→∃o,W=[]∧(H=[.ow (own ca bB o)]∨∃k,H=[.ow (own ca bB o),.kn k]):=fun ν ν ⟨o,e1,e2⟩=>⟨o,e1,.inl e2⟩
theorem St.yT{x:Str}{e:Expr}{ca:Addr}{u:Res}{pos' pos:Pos}(h:Ev c A L E (eval e env) p E1)(hc:env.cells.lookup x=some ca)(hp:Upd E1 u (eW ca p) E2)(hu:∀W H,u W H→∃o,W=[]∧(H=[.ow (own ca bB o)]∨∃k,H=[.ow (own ca bB o),.kn k]))
 (hs:autoParam (swapsWith e (some (.Name x pos')) pos.line env=pure false) af) (hk:autoParam (env.scope.kind= .function) af) (hl:autoParam (env.kindOf x=some .cell) b7):St c A L E (exec (.Assign [.Name x pos'] e pos) env) E2:=fun F s hs'=>
 wpAny_Assign_Name (wpAny_mono (h F s hs') (fun ν ν h'=>h'.z7 hu hp (fun ν h''=>⟨rfl,h''⟩) hc hk hl) fun ν ν x=>x) hs
theorem Tg.ce{x:Str}{pos:Pos}{ca:Addr}{u:Res}(hc:env.cells.lookup x=some ca)(hp:Upd E u (eW ca p) E')(hu:∀W H,u W H→∃o,W=[]∧(H=[.ow (own ca bB o)]∨∃k,H=[.ow (own ca bB o),.kn k]))(hk:autoParam (env.scope.kind= .function) af)(hl:autoParam (env.kindOf x=some .cell) b7):Tg c A L E env (.Name x pos) p E':=fun ν ν ν hs=>
 wpAny_assign_Name (hs.z7 hu hp (fun ν h=>h) hc hk hl)
theorem nJ{n:Nat}{x:Tx}(g:cg c)(ok:Ok A (n+2))(h1:x.length≤10000)(h2:(dR x iI [60]).length≤10000):Op c A (fun vs=>call (.ref 208) vs) [] [ar ah x] (ar ah (plainT x)):=fun L V G s vs S h ν=>by
 refine aj (bH h) fun v π31 hm=>?_;rcases π31 with rfl
 refine b9 (args:=⟨[v],[]⟩) (binds:=[("text",v)]) (V':=[("text",some v)]) (C:=fun ν=>[]) g S ok rfl (.of_eq (by kernel_rfl)) (by kernel_rfl) (by decide+kernel) (by kernel_rfl) (by kernel_rfl) (fun ν=>by kernel_rfl) fun L' s' S' ok'=>?_
 refine Rt.back ?_ (E:=[loc "text" (ar ah x)]) (.start S' (.l .nil) (.cons (.tail _ hm) .nil)) S.above
 exact .ret (.repl g (.repl g (.nm (by walk_at "m")) (y:=iI) (z:=[60]) (by decide) (by simp;exact ω148 h1 rfl)) (y:=bP) (z:=[38]) (by decide) (by simp;exact ω148 h2 rfl))
theorem oH.enum{e:Expr}{elts:List Expr}{x1:Nat}{tp pp pos:Pos}{α:Type}{T:Ty α}{xs:List α}(g:cg c)(h:Ev c A L E (eval e env) (ar (Ty.list T) xs) E')
 (hn:nsIn (aO c) mainGlobals "enumerate"=some none) (he:autoParam (starEach [e] env=(false,eval e env)::starEach [] env) af) (hp:autoParam ((backTo pos (starEach [] env)).any (·.1)=false) af)
 (hg:autoParam (env.globals=mainGlobals) af) (hb:autoParam (env.builtins=builtinsNs) af) (hk:autoParam (env.scope.kind= .function) af) (hx:autoParam (env.kindOf "enumerate"=some .globalImplicit) b7):
 oH c A L E (eval (.Call (.Name "enumerate" pp) [e] [] pos) env) (.Tuple elts x1 tp) (bY ao T) (numbered xs) E' E':=fun F s hs=>by
 have hs':=hs
 refine aB hs fun W H hA S=>?_;try clear hs
 refine Mine.gf (b:="enumerate") (S.bi g hn (by kernel_rfl) (by decide) ⟨rfl,spliced_more (wpAny_mono (h F s hs') (fun v s1 ⟨W,H,hA,S⟩=>spliced_none ?_) fun ν ν x=>x) he⟩ hg hb hk hx (by kernel_rfl)) he hp
 refine S.Ae (T:=T) (xs:=xs) (.head _) fun e Fi s' src S=>(src [] 0 ⟨0,0,0,0⟩).self S ⟨Fi,[],src _ _ _,Hd.iZ (X:=[.kn (ar (Ty.list T) xs v)]) ⟨W,H,hA,?_⟩,fun ν ν h=>h⟩
 refine S.perm ?_
 show(Fi 0++([_]++(F++H))).Perm (([_]++(Fi 0++F))++H)
 rw[List.append_assoc,List.append_assoc]
 exact List.perm_append_comm_assoc ..
theorem tW:∀j:Option (Int×Tok),j.map (·.1)=none→IsPart (partValue j) none:=fun j h=>by
 cases j with
 |none=>exact .none
 |some=>cases h
theorem tF{i:Int}:∀j:Option (Int×Tok),j.map (·.1)=some i→IsPart (partValue j) (some i):=fun j h=>by
 cases j with
 |none=>cases h
 |some p=>cases h;exact .int _ _
end
end Mine
namespace Mine
section
variable{c:Cx}{A:Around}{n:Nat}
theorem lY{xs:List Tx}(g:cg c)(ok:Ok A (n+2))(hx:xs.length≤1000):Op c A (fun vs=>call (.ref 223) vs) [] [ar (Ty.list ah) xs] (ar (Ty.list ah) (bX xs)):=fun L V G s vs S h ν=>by
 refine aj (bH h) fun v π31 hm=>?_;rcases π31 with rfl
 refine b9 (args:=⟨[v],[]⟩) (binds:=[("row",v)]) (V':=[]) (C:=fun L'=>[(L'+1,some v)]) g S ok rfl (.of_eq (by kernel_rfl)) (by kernel_rfl) (by decide+kernel) (by kernel_rfl) (by kernel_rfl) (fun ν=>by kernel_rfl) fun L' s' S' ok'=>?_
 refine Rt.back ?_ (E:=[eW (L'+1) (ar (Ty.list ah) xs)]) (.jf S' (.ce .nil) (.ow (.kn (.tail _ hm) .nil))) S.above
 refine .ret (.e8 (.c9 [("row",L'+1)] ok'.hd (fun C=>[un ".0",un "k",un "thing",eW (L'+1) (ar (Ty.list ah) xs)]) (·.2) (dS xs) (.enum g (.ce rfl (by walk_at "m")) (by kernel_rfl)) (.eW .nil) (fun C=>⟨[_,_,_],rfl⟩) (by exact fun C HB h=>.u (.u (.u h))) (fun C x hxm=>?_) (by simp[numbered];exact ω1 hx rfl)))
 exact⟨_,_,.tup ok'.hd (.cons .one) (.cons (.nm (by walk_at "c")) (.cons (.nm (by walk_at "c")) .nil)),.t1 (.to (.cmp (.nm (by walk_at "m")) (.e8 (.cut (.ce (ca:=L'+1) rfl (by walk_at "m")) .no (.yes (.nm (by walk_at "m"))) (by exact ω1 hx rfl) tW tF)) (mF (eqStr (n:=0)) atK (Ok.cl ok'))) (by simp[dS])),fun ν=>.nm (by walk_at "m"),by walk_at "k"⟩
theorem lS{path:Tx}{order:List Tx}{samples:List cO}(g:cg c)(ok:Ok A (n+4))(h1:path.length≤100)(h2:order.length≤1000)(h3:samples.length≤1000)(h4:∀p∈order,p.length≤100)(h5:∀p∈samples,p.1.length≤100∧p.1≠[]):
 Op c A (fun vs=>call (.ref 228) vs) [] [ar ah path,ar (Ty.list ah) order,ar (Ty.list (Ty.tup dK)) samples] (ar (Ty.tup rJ) (dF path order samples)):=fun L V G s vs S h ν=>by
 refine tV (dG h) fun v w z π73 hm hm' hm''=>?_;rcases π73 with rfl
 refine b9 (args:=⟨[v,w,z],[]⟩) (binds:=[("path",v),("order",w),("samples",z)]) (V':=[("order",some w),("samples",some z),("once",none),("four",none),("names",none)]) (C:=fun L'=>[(L'+1,some v),(L'+2,none)]) g S ok rfl (.of_eq (by kernel_rfl)) (by kernel_rfl) (by decide+kernel) (by kernel_rfl) (by kernel_rfl) (fun ν=>by kernel_rfl) fun L' s' S' ok'=>?_
 refine Rt.back ?_ (E:=[loc "order" (ar (Ty.list ah) order),loc "samples" (ar (Ty.list (Ty.tup dK)) samples),un "once",un "four",un "names",eW (L'+1) (ar ah path),jE (L'+2)])
  (.jf S' (.l (.l (.u (.u (.u (.ce (.cu .nil))))))) (.kn (.tail _ hm') (.kn (.tail _ hm'') (.ow (.kn (.tail _ hm) (.ow .nil)))))) S.above
 have he:∀x:Tx,(cut x none (some (path.length:Int))==path)=below path x:=fun x=>by unfold below;by_cases e:cut x none (some (path.length:Int))=path <;> simp[e]
 refine .cons (.yT (.to (.e8 (.c9 (U:=Ty.tup dK) [("path",L'+1)] ok'.hd (fun C=>[un ".0",un "sample",eW (L'+1) (ar ah path)]) (fun p=>p) (fun p:cO=>below path p.1) (.list (.nm (by walk_at "m"))) (by walk_at "f") (fun C=>⟨[_,_],rfl⟩) (by exact fun C HB h=>.u (.u h)) (fun C x hx=>?_) (by exact ω1 h3 rfl))) (b:=aX path samples) (List.map_id _)) (ca:=L'+2) rfl (by walk_at "c") jc) ?_
 ·exact⟨_,_,.nm (by walk_at "c"),.t1 (.to (.cmp (.cut (.sub (.nm (by walk_at "m")) .int (kq .head (by decide))) .no (.yes (.bR g (.cons (.ce (ca:=L'+1) rfl (by walk_at "m")) .nil) (n9 (by exact ω1 h1 rfl)) (by kernel_rfl) (by kernel_rfl) (by decide))) (by have:=(h5 x hx).1;exact id (ω1 this rfl))) (.ce (ca:=L'+1) rfl (by walk_at "m")) ee) (he _)),fun ν=>.nm (by walk_at "m"),by walk_at "k"⟩
 have hW5:∀p∈aX path samples,p.1.length≤100∧p.1≠[]:=fun p hp=>h5 p ((List.mem_filter.mp hp).1)
 have hWl:(aX path samples).length≤1000:=Nat.le_trans (List.length_filter_le ..) h3
 generalize hW:aX path samples=W at hW5 hWl
 refine .cons (.nH (ar ao ((W.filter fun p=>ic p.1).length :Nat)) ?_ (by walk_at "c")) ?_
 ·refine .to (.bR g (.cons (.e8 (.c9 (U:=ah) [] ok'.hd (fun C=>[un ".0",un "head",un "ticks",un "cost"]) (·.1) (fun p:cO=>ic p.1) (.list (.ce (ca:=L'+2) rfl (by walk_at "m"))) (by walk_at "f") (fun C=>⟨[_,_,_,_],rfl⟩) (by exact fun C HB h=>.u (.u (.u (.u h)))) (fun C x hx=>?_) (by exact ω1 hWl rfl))) .nil) (eg atK (by rw[List.length_map];exact Nat.le_trans (List.length_filter_le ..) (by exact ω1 hWl rfl))) (by kernel_rfl) (by kernel_rfl) (by decide)) (by rw[List.length_map])
  have hx5:=hW5 x hx
  obtain⟨q1,q2⟩:=pN hx5.2
  exact⟨_,_,.tup ok'.hd (.cons (.cons .one)) (.cons (.nm (by walk_at "c")) (.cons (.nm (by walk_at "c")) (.cons (.nm (by walk_at "c")) .nil))),.t1 (.cmp (.fH (.nm (by walk_at "m")) cC bT (.cons (.sub (.nm (by walk_at "m")) .neg (qQ (by decide) q1 q2)) .nil) eG) .int nE),fun ν=>.nm (by walk_at "m"),by walk_at "k"⟩
 refine .cons (.nH (ar (Ty.tup yi) ((((W.filter fun p=>ic p.1).length :Nat):Int),((W.length:Nat):Int),(W.map (·.2.1)).sum,(W.map (·.2.2)).sum)) (.tup (.cons (.nm (by walk_at "m")) (.cons (.bR g (.cons (.ce (ca:=L'+2) rfl (by walk_at "m")) .nil) (eg (T:=Ty.tup dK) (xs:=W) atK (by exact ω1 hWl rfl)) (by kernel_rfl) (by kernel_rfl) (by decide))
  (.cons (.to (.bR g (.cons (.e8 (.c9 (U:=ao) [] ok'.hd (fun C=>[un ".0",un "head",un "ticks",un "cost"]) (·.2.1) (fun ν=>true) (.list (T:=Ty.tup dK) (xs:=W) (.ce (ca:=L'+2) rfl (by walk_at "m"))) (by walk_at "f") (fun C=>⟨[_,_,_,_],rfl⟩) (by exact fun C HB h=>.u (.u (.u (.u h)))) (fun C x hx=>?_) (by exact ω1 hWl rfl))) .nil) (wj ok'.hd atK) (by kernel_rfl) (by kernel_rfl) (by decide)) (by rw[iw]))
  (.cons (.to (.bR g (.cons (.e8 (.c9 (U:=ao) [] ok'.hd (fun C=>[un ".0",un "head",un "ticks",un "cost"]) (·.2.2) (fun ν=>true) (.list (T:=Ty.tup dK) (xs:=W) (.ce (ca:=L'+2) rfl (by walk_at "m"))) (by walk_at "f") (fun C=>⟨[_,_,_,_],rfl⟩) (by exact fun C HB h=>.u (.u (.u (.u h)))) (fun C x hx=>?_) (by exact ω1 hWl rfl))) .nil) (wj ok'.hd atK) (by kernel_rfl) (by kernel_rfl) (by decide)) (by rw[iw])) .nil)))) (.cons (.cons (.cons .one)))) (by walk_at "c")) ?_
 ·exact⟨_,_,.tup ok'.hd (.cons (.cons .one)) (.cons (.nm (by walk_at "c")) (.cons (.nm (by walk_at "c")) (.cons (.nm (by walk_at "c")) .nil))),.t0,fun ν=>.nm (by walk_at "m"),by walk_at "k"⟩
 ·exact⟨_,_,.tup ok'.hd (.cons (.cons .one)) (.cons (.nm (by walk_at "c")) (.cons (.nm (by walk_at "c")) (.cons (.nm (by walk_at "c")) .nil))),.t0,fun ν=>.nm (by walk_at "m"),by walk_at "k"⟩
 have hN0:((order.filter (below path)).map aV).length≤1000:=by rw[List.length_map];exact Nat.le_trans (List.length_filter_le ..) h2
 refine .cons (.nH (ar (Ty.list ah) (bX ((order.filter (below path)).map aV))) (.dU g (.cons (.e8 (.c9 (U:=ah) [("path",L'+1)] ok'.hd (fun C=>[un ".0",un "head",eW (L'+1) (ar ah path)]) aV (below path) (.list (.nm (by walk_at "m"))) (by walk_at "f") (fun C=>⟨[_,_],rfl⟩) (by exact fun C HB h=>.u (.u h)) (fun C x hx=>?_) (by exact ω1 h2 rfl))) .nil) (lY g (n:=n+1) (ok'.le (by exact ω115 rfl)) hN0) (by kernel_rfl) rfl) (by walk_at "c")) ?_
 ·have hx4:=h4 x hx
  exact⟨_,_,.nm (by walk_at "c"),.t1 (.to (.cmp (.cut (.nm (by walk_at "m")) .no (.yes (.bR g (.cons (.ce (ca:=L'+1) rfl (by walk_at "m")) .nil) (n9 (by exact ω1 h1 rfl)) (by kernel_rfl) (by kernel_rfl) (by decide))) (by exact ω1 (h4 x hx) rfl)) (.ce (ca:=L'+1) rfl (by walk_at "m")) ee) (he _)),fun ν=>.cut (.nm (by walk_at "m")) (.yes .neg) (.yes .neg) (by exact ω1 (h4 x hx) rfl),by walk_at "k"⟩
 have hNl:(bX ((order.filter (below path)).map aV)).length≤1000:=by
  unfold bX
  rw[List.length_map]
  refine Nat.le_trans (List.length_filter_le ..) ?_
  unfold numbered
  rw[List.length_zip,List.length_map,List.length_range,Nat.min_self]
  exact hN0
 have hlaw:dF path order samples=(((((W.filter fun p=>ic p.1).length :Nat):Int),((W.length:Nat):Int),(W.map (·.2.1)).sum,(W.map (·.2.2)).sum),(bX ((order.filter (below path)).map aV)).map (fun name=>(name,calledBy W name)),((W.length:Nat):Int)):=by
  unfold dF;rw[←hW]
 rw[hlaw]
 generalize bX ((order.filter (below path)).map aV)=N at hNl
 refine .ret (.tup (.cons (.nm (by walk_at "m")) (.cons (.to (.e8 (.c9 (U:=Ty.tup yv) [("within",L'+2)] ok'.hd (fun C=>[un ".0",jE (C+1),eW (L'+2) (ar (Ty.list (Ty.tup dK)) W)]) (fun name=>(name,calledBy W name)) (fun ν=>true) (.list (T:=ah) (xs:=N) (.nm (by walk_at "m"))) (by walk_at "f") (fun C=>⟨[_,_],rfl⟩) (by exact fun C HB h=>.u (.cu h)) (fun C x hx=>?_) (by exact ω1 hNl rfl))) (by rw[iw]))
  (.cons (.bR g (.cons (.ce (ca:=L'+2) rfl (by walk_at "m")) .nil) (eg (T:=Ty.tup dK) (xs:=W) atK (by exact ω1 hWl rfl)) (by kernel_rfl) (by kernel_rfl) (by decide)) .nil))) (.cons (.cons .one)))
 refine⟨_,_,.ce (ca:=C+1) rfl (by walk_at "c") jc,.t0,fun ν=>.tup (.cons (.ce (ca:=C+1) rfl (by walk_at "m")) (.cons (.to (.bR g (.cons (.e8 (.c9 (U:=ah) [("name",C+1)] ok'.hd (fun C2=>[un ".0",un "head",un "ticks",un "cost",eW (C+1) (ar ah x)]) (·.1) (fun p:cO=>decide (aV p.1=x)) (.list (T:=Ty.tup dK) (xs:=W) (.ce (ca:=L'+2) rfl (by walk_at "m"))) (by walk_at "f") (fun C2=>⟨[_,_,_,_],rfl⟩) (by exact fun C2 HB h=>.u (.u (.u (.u h)))) (fun C2 y hy=>?_) (by exact ω1 hWl ν))) .nil) (eg atK (by rw[List.length_map];exact Nat.le_trans (List.length_filter_le ..) (by exact ω1 hWl ν))) (by kernel_rfl) (by kernel_rfl) (by decide)) (b:=calledBy W x) (by rw[List.length_map];rfl)) .nil)) (.cons .one),by walk_at "k"⟩
 have hy5:=hW5 y hy
 exact⟨_,_,.tup ok'.hd (.cons (.cons .one)) (.cons (.nm (by walk_at "c")) (.cons (.nm (by walk_at "c")) (.cons (.nm (by walk_at "c")) .nil))),.t1 (.to (.cmp (.cut (.nm (by walk_at "m")) (.yes .neg) (.yes .neg) (by exact ω150 (hW5 y hy) ν)) (.ce (ca:=C+1) rfl (by walk_at "m")) ee) (by by_cases e:cut y.1 (some (-2)) (some (-1))=x <;> simp[e])),fun ν=>.nm (by walk_at "m"),by walk_at "k"⟩
end
end Mine
namespace Mine
section
variable{c:Cx}{A:Around}{L:Addr}{E E' E1 E2 E3 E4 B:List Res}{F:List Fa}{s:Shared}{env:PySem.Env}{p q r:Arg}{K:List Fa}{n:Nat}
theorem Hd.qJ{x:Str}{v:Value}(h:cP x (loc x (aD v)) E E')(hs:Hd c L E F s){Q:Unit→Shared→Prop}(hQ:∀s',Hd c L E' F s'→Q () s')
 (hL:env.locals=L) (hk:env.scope.kind= .function) (hl:env.kindOf x=some .local):Wp c A (bindName env x v) Q s:=
 bindName_ (Hd.wQ h (by refine aB hs fun W H hA S=>?_;try clear hs;exact⟨W,H,hA,S.add _ fun ν ν=>rfl⟩) hQ hL hk hl)
theorem Hd.own{f:Fa}(h:Hd c L E (f::F) s):Hd c L (fa f::E) F s:=by
 refine aB h fun W H hA S=>?_;try clear h
 exact⟨W,_,aE.cons (W:=[]) ⟨rfl,rfl⟩ hA,S.perm List.perm_middle.symm⟩
theorem Rt.yw{R:Rp}{x y:Str}{α β:Type}{T:Tb α}{U:Tb β}{w:α}{z:β}{v1 v2:Expr}{p1 p2 tp vp pos:Pos}{k1 k2:Nat}{rest:List Stmt}{E2:Addr→Addr→List Res}(hh:A.handled=none)(g1:dN c A L E (eval v1 env) T w E)(g2:dN c A L E (eval v2 env) U z E)(hp:∀a b,∃E1,cP y (loc y (aD (.ref b))) E E1∧cP x (loc x (aD (.ref a))) E1 (E2 a b))
 (k:∀a b,Rt c A L (fa (.ow (own a T w))::fa (.ow (own b U z))::E2 a b) (execs rest env) R)
 (hs:autoParam (swapsWithSole [.Tuple [.Name x p1,.Name y p2] k1 tp] (.Tuple [v1,v2] k2 vp) pos.line env=pure false) af) (hw:autoParam (swappedStores [.Tuple [.Name x p1,.Name y p2] k1 tp] (.Tuple [v1,v2] k2 vp) env=pure (some [x,y])) af)
 (hL:autoParam (env.locals=L) af) (hk:autoParam (env.scope.kind= .function) af) (hl:autoParam (env.kindOf x=some .local) b7) (hl2:autoParam (env.kindOf y=some .local) b7)
 (e1:autoParam (starEach [v1,v2] env=(false,eval v1 env)::starEach [v2] env) af) (e2:autoParam (starEach [v2] env=(false,eval v2 env)::starEach [] env) af):
 Rt c A L E (execs (.Assign [.Tuple [.Name x p1,.Name y p2] k1 tp] (.Tuple [v1,v2] k2 vp) pos::rest) env) R:=fun F s hs'=>by
 refine wpAny_execs_cons (Assign_Tuple_swapped (names:=[x,y]) (Tuple_ (spliced_more (wpAny_mono (g1 F s hs') (fun v1 s1 h=>?_) fun ν ν x=>x) e1)) hs hw)
 refine aj h fun a π31 π32=>?_;try clear h;rcases π31 with rfl;revert π32;intro h
 refine spliced_more (wpAny_mono (g2 _ s1 h) (fun v2 s2 h=>?_) fun ν ν x=>x) e2
 obtain⟨b,rfl,W,H,hA,S⟩:=h
 refine spliced_none (S.qC (Nat.le_of_ble_eq_true rfl) fun v' s' S=>S.ja hh (.head _) rfl fun s' S=>?_)
 have hd:Hd c L E (.ow (own b U z):: .ow (own a T w)::F) s':=⟨W,H,hA,S.sub (.drop .all)⟩
 refine aj (hp a b) fun E1 h1 h2=>?_
 exact lF (hd.qJ h1 (fun s' hd=>lF (hd.qJ h2 (fun s' hd=>uX (k a b F s' hd.own.own)) hL hk hl)) hL hk hl2)
theorem k8{xs:List Int}(g:cg c)(ok:Ok A (n+2))(hx:xs.length≤100):Op c A (fun vs=>call (.ref 196) vs) [] [ar (Ty.list ao) xs] (ar (Ty.tup (.cons (Ty.list ah) (.one (Ty.list (Ty.tup dK))))) (au xs)):=fun L V G s vs S h ν=>by
 refine aj (bH h) fun v π31 hm=>?_;rcases π31 with rfl
 refine b9 (args:=⟨[v],[]⟩) (binds:=[("numbers",v)]) (V':=[("numbers",some v),("paths",none),("samples",none),("x",none),("base",none),("path",none)]) (C:=fun ν=>[]) g S ok rfl (.of_eq (by kernel_rfl)) (by kernel_rfl) (by decide+kernel) (by kernel_rfl) (by kernel_rfl) (fun ν=>by kernel_rfl) fun L' s' S' ok'=>?_
 refine Rt.back ?_ (E:=[loc "numbers" (ar (Ty.list ao) xs),un "paths",un "samples",un "x",un "base",un "path"]) (.start S' (.l (.u (.u (.u (.u (.u .nil)))))) (.cons (.tail _ hm) .nil)) S.above
 refine .yw ok'.hd (.list ah [] .nil rfl) (.list (Ty.tup dK) [] .nil rfl) (fun a b=>⟨_,by walk_at "c",by walk_at "c"⟩) fun a b=>?_
 refine .cons (.for ok'.hd (.list (.nm (by walk_at "m"))) (fun done=>[fa (.ow (own a (ai ah) (au done).1)),fa (.ow (own b (ai (Ty.tup dK)) (au done).2)),loc "numbers" (ar (Ty.list ao) xs),loc "paths" (aD (.ref a)),loc "samples" (aD (.ref b)),un "x",un "base",un "path"]) .all fun done x rest e=>⟨_,.nm (by walk_at "c"),?_⟩) ?_
 ·have hd:done.length≤100:=by rw[e] at hx;simp at hx;exact ω88 hx
  refine ny (jw done) fun i1 i2 i3=>?_
  have estep:au (done++[x])=bG (au done) x:=by unfold au;rw[List.foldl_append];rfl
  have hplen:=ki (au done).1 x
  unfold bG at estep
  generalize hps:(au done).1 =ps at*
  generalize hss:(au done).2 =ss at*
  generalize hp:bI ps x=p at*
  unfold bI at hp
  have hmod:=cT (a:=x) (b:=(ps.length:Int)+1) (by exact ω219)
  have hlt:(x.fmod (ps.length+1)).toNat <(ps++[[]]).length:=by rw[List.length_append];exact(Int.toNat_lt hmod.1).2 hmod.2
  have hb':(ps++[[]]).getD (x.fmod (ps.length+1)).toNat []=(ps++[[]])[(x.fmod (ps.length+1)).toNat]:=by simp[List.getD_eq_getElem?_getD,List.getElem?_eq_getElem hlt]
  have hbl:((ps++[[]])[(x.fmod (ps.length+1)).toNat]).length≤5:=by
   have:=List.getElem_mem hlt
   rcases List.mem_append.mp this with h|h
   ·exact i3 _ h
   ·rw[List.mem_singleton.mp h];simp
  rw[hb'] at hp
  refine .cons (.nH (ar ah ((ps++[[]])[(x.fmod (ps.length+1)).toNat])) (.sub (.e8 (.BQ (T:=ah) (xs:=ps) (.nm (by walk_at "m")) (.list ah [[]] (.cons .str .nil) rfl) (by walk_at "m") (by simp;exact ω4 i1 hd rfl))) (.bin (.nm (by walk_at "m")) (.bin (.bR g (.cons (.nm (by walk_at "m")) .nil) (eg (T:=ah) (xs:=ps) oG (by exact ω4 i1 hd rfl)) (by kernel_rfl) (by kernel_rfl) (by decide) (lK (by walk_at "m"))) .int fJ) (jd (Int.ne_of_gt (Int.lt_add_one_of_le (Int.natCast_nonneg _))))) (dz atK hmod.1 (by exact ω107 hd i1 hmod rfl) (List.getElem?_eq_getElem hlt))) (by walk_at "c")) ?_
  generalize(ps++[[]])[(x.fmod (ps.length+1)).toNat]=base at*
  have m4:=cT (a:=x.fdiv 16) (b:=4) (by exact ω219)
  have m64:=cT (a:=x.fdiv 64) (b:=4) (by exact ω219)
  have hsl:((x.fdiv 64).fmod 4).toNat <signs.length:=by show _<4;exact ω120 m64
  have m256:=cT (a:=x.fdiv 256) (b:=2) (by exact ω219)
  refine .cons (.nH (ar ah p) (.to (.bin (.cut (.nm (by walk_at "m")) .no (.yes (.bin (.bin (.nm (by walk_at "m")) .int (qP (by decide) (by decide))) .int (jd (by decide)))) (by exact ω1 hbl rfl))
   (.bin (.sub .str (.bin (.bin (.nm (by walk_at "m")) .int (qP (by decide) (by decide))) .int (jd (by decide))) (qQ (x:=signs) (k:=((x.fdiv 64).fmod 4).toNat) (d:=signs.getD ((x.fdiv 64).fmod 4).toNat 0) (by exact ω121 m64 rfl) (B7 m64.1 m64.2) (by rw[List.getElem?_eq_getElem hsl,List.getD_eq_getElem?_getD,List.getElem?_eq_getElem hsl];rfl)))
     (.bin (.bin (.bin (.nm (by walk_at "m")) .int (qP (by decide) (by decide))) .int (jd (by decide))) .int fJ) (zV (Int.le_add_one m256.1) (Int.le_trans (Int.add_le_add_right (Int.le_of_lt m256.2) 1) (by decide)) (by simp)))
   (fc (by have:=congrArg List.length hp;rw[List.length_append] at this;unfold sizeLine;exact id (ω6 this hplen rfl)))) hp) (by walk_at "c")) ?_
  refine .cons (E1:=[fa (.ow (own a (ai ah) (if p∈ps then ps else ps++[p]))),fa (.ow (own b (ai (Ty.tup dK)) ss)),loc "numbers" (ar (Ty.list ao) xs),loc "paths" (aD (.ref a)),loc "samples" (aD (.ref b)),loc "x" (ar ao x),loc "base" (ar ah base),loc "path" (ar ah p)])
   (.if (.cmp (.nm (by walk_at "m")) (.nm (by walk_at "m")) (mF (eqStr (n:=0)) (xs:=ps) oG (Ok.cl ok')) (lK (by walk_at "m"))) (fun hb=>?_) (fun hb=>?_)) ?_
  ·have hn:¬p∈ps:=by simpa using hb
   rw[if_neg hn]
   exact .cons (.append (T:=ah) (xs:=ps) (.nm (by walk_at "m")) (by walk_at "m") (.nm (by walk_at "m")) (by walk_at "c") (by exact ω4 i1 hd rfl)) .nil
  ·have hn:p∈ps:=by simpa using hb
   rw[if_pos hn]
   exact .nil
  refine .cons (.append (T:=Ty.tup dK) (xs:=ss) (.nm (by walk_at "m")) (by walk_at "m") (.tup (.cons (.nm (by walk_at "m")) (.cons (.bin (.nm (by walk_at "m")) .int (jd (by decide))) (.cons (.bin (.nm (by walk_at "m")) .int (jd (by decide))) .nil))) (.cons (.cons .one))) (by walk_at "c") (by exact ω6 i2 hd rfl)) (.end ?_)
  rw[estep]
  walk_at "k"
 generalize au xs=r
 refine .pre (fun F s hs=>(hs.e8 (y:="paths") (by walk_at "c") (by walk_at "c") (by walk_at "m")).e8 (y:="samples") (by walk_at "c") (by walk_at "c") (by walk_at "m")) ?_
 exact .ret (.tup (.cons (.nm (by walk_at "m")) (.cons (.nm (by walk_at "m")) .nil)) (.cons .one))
end
end Mine
namespace Mine
section
variable{c:Cx}{A:Around}{L:Addr}{E E' E0 E1 E2 E3 E4 B:List Res}{F:List Fa}{s:Shared}{env:PySem.Env}{p q r:Arg}{K:List Fa}{n:Nat}
theorem Hd.perm{G:List Fa}(h:Hd c L E F s)(e:F.Perm G):Hd c L E G s:=by
 refine aB h fun W H hA S=>?_;try clear h
 exact⟨W,H,hA,S.perm (e.append_right H)⟩
theorem Rt.AO{R:Rp}{x y z:Str}{α β:Type}(T:Ty α)(U:Ty β){e1:Expr}{p1 p2 p3 p4 p5 tp vp pos:Pos}{k1 k2:Nat}{rest:List Stmt}{E2:Addr→Addr→List Res}(hh:A.handled=none)(h1:Ev c A L E (eval e1 env) q E0)
 (hp:∀a b,∃E1 E3,cP z (loc z (aD (.ref b))) E0 E1∧cP y (loc y (aD (.ref a))) E1 E3∧cP x (loc x q) E3 (E2 a b))
 (k:∀a b,Rt c A L (fa (.ow (own a (ai T) []))::fa (.ow (own b (ai U) []))::E2 a b) (execs rest env) R)
 (hs:autoParam (swapsWithSole [.Tuple [.Name x p1,.Name y p2,.Name z p3] k1 tp] (.Tuple [e1,.List [] p4,.List [] p5] k2 vp) pos.line env=pure false) af) (hw:autoParam (swappedStores [.Tuple [.Name x p1,.Name y p2,.Name z p3] k1 tp] (.Tuple [e1,.List [] p4,.List [] p5] k2 vp) env=pure (some [x,y,z])) af)
 (hL:autoParam (env.locals=L) af) (hk:autoParam (env.scope.kind= .function) af) (hl:autoParam (env.kindOf x=some .local) b7) (hl2:autoParam (env.kindOf y=some .local) b7) (hl3:autoParam (env.kindOf z=some .local) b7)
 (g0:autoParam (starEach [e1,.List [] p4,.List [] p5] env=(false,eval e1 env)::starEach [.List [] p4,.List [] p5] env) af) (g1:autoParam (starEach [.List [] p4,.List [] p5] env=(false,eval (.List [] p4) env)::starEach [.List [] p5] env) af) (g2:autoParam (starEach [.List [] p5] env=(false,eval (.List [] p5) env)::starEach [] env) af):
 Rt c A L E (execs (.Assign [.Tuple [.Name x p1,.Name y p2,.Name z p3] k1 tp] (.Tuple [e1,.List [] p4,.List [] p5] k2 vp) pos::rest) env) R:=by
 intro F s hs'
 refine wpAny_execs_cons (Assign_Tuple_swapped (names:=[x,y,z]) (Tuple_ (spliced_more (wpAny_mono (h1 F s hs') (fun v s1 ⟨W,H,hA,S⟩=>spliced_more (List_ (spliced_none (S.nList T [] (fun ν ν=>.nil) (by decide) fun a s' S=>?_))) g1) fun ν ν x=>x) g0)) hs hw)
 refine spliced_more (List_ (spliced_none (S.nList U [] (fun ν ν=>.nil) (by decide) fun b s' S=>spliced_none ?_))) g2
 refine S.qC (Nat.le_of_ble_eq_true rfl) fun v' s' S=>?_
 refine S.ja hh (.head _) rfl fun s' S=>?_
 have hd:Hd c L E0 (.ow (own b (ai U) []):: .ow (own a (ai T) []):: .kn (q v)::F) s':=⟨W,H,hA,S.sub (.drop .all)⟩
 refine av (hp a b) fun E1 E3 h1 h2 h3=>?_
 refine lF (hd.qJ h1 (fun s' hd=>lF (hd.qJ h2 (fun s' hd=>lF (bindName_ (Hd.wQ h3 (hd.perm ?_) (fun s' hd=>uX (k a b F s' hd.own.own)) hL hk hl))) hL hk hl2)) hL hk hl3)
 exact(List.Perm.cons _ (List.Perm.swap ..)).trans (List.Perm.swap ..)
theorem oH.zJ{e:Expr}{rest:List Expr}{target:Expr}{pp pos:Pos}{i j d:Int}(g:cg c)(ha:oF c A L E (spliced (backTo pos (starEach (e::rest) env))) [ar ao i,ar ao j,ar ao d] E')(hn:nsIn (aO c) mainGlobals "range"=some none)(hd:d≠0)(hdp:d.natAbs<1073741824)(h1:Builtin.Range.small i j d=true)(h2:Builtin.Range.rangeSize i j d=n)
 (he:autoParam (starEach (e::rest) env=(false,eval e env)::starEach rest env) af) (hp:autoParam ((backTo pos (starEach rest env)).any (·.1)=false) af)
 (hg:autoParam (env.globals=mainGlobals) af) (hb:autoParam (env.builtins=builtinsNs) af) (hk:autoParam (env.scope.kind= .function) af) (hx:autoParam (env.kindOf "range"=some .globalImplicit) b7):
 oH c A L E (eval (.Call (.Name "range" pp) (e::rest) [] pos) env) target ao (runs i d n) E' E':=fun F s hs=>by
 have hs':=hs
 refine aB hs fun W H hA S=>?_;try clear hs
 refine Mine.gf (b:="range") (S.bi g hn (by kernel_rfl) (by decide) ⟨rfl,wpAny_mono (ha F s hs') (fun vs s1 h3=>?_) fun ν ν x=>x⟩ hg hb hk hx (by kernel_rfl)) he hp
 obtain⟨X,ha,_,W,H,hA,S⟩:=h3
 refine tV (dG (ha.mono (G':=(X++F)++H) fun ν h=>List.mem_append_left _ (List.mem_append_left _ h))) fun u v w π73 m1 m2 m3=>?_;rcases π73 with rfl
 obtain⟨t1,rfl⟩:=S.isInt m1
 obtain⟨t2,rfl⟩:=S.isInt m2
 obtain⟨t3,rfl⟩:=S.isInt m3
 refine S.xW hd hdp fun ra s' S=>S.mq (.head _) h1 h2 fun it Fi s' src S=>⟨Fi,[],src _,Hd.iZ (X:=.ow (own ra (ck (iX i j d t1 t2 t3)) ())::X) ⟨W,H,hA,S.perm ?_⟩,fun ν ν h=>h⟩
 show(Fi 0++((_::X)++F++H)).Perm (((_::X)++(Fi 0++F))++H)
 rw[List.append_assoc,List.append_assoc,List.append_assoc]
 exact List.perm_append_comm_assoc ..
theorem It.Be{X:Sem Value}{target:Expr}{α:Type}{T:Ty α}{xs:List α}(h:oH c A L E X target T xs E1 E2):It c A L E X target T xs E1:=fun F s hs=>
 wpAny_mono (h F s hs) (fun ν ν h1=>wpAny_mono h1 (fun ν ν ⟨Fi,Z,src,h2,_⟩=>⟨Fi,Z,src.src,h2⟩) fun ν ν x=>x) fun ν ν x=>x
theorem Tg.lst{elts:List Expr}{k:Nat}{pos:Pos}{α:Type}{T:Ty α}{xs:List α}(hh:A.handled=none)(h:xg c A L E env elts (xs.map (ar T)) E')(ht:autoParam ((assignEach elts env).map (·.2)=elts.map (fun e=>assign e env)) af)(hn:autoParam ((assignEach elts env).length =xs.length) af)
 (hst:autoParam ((assignEach elts env).findIdx? (·.1)=none) af):Tg c A L E env (.Tuple elts k pos) (ar (Ty.list T) xs) E':=fun F s v hs=>by
 refine aB hs fun W H hA S=>?_;try clear hs
 refine S.t8 hh (.inl (.head _)) hn (fun vs s' hl S=>?_) hst
 rw[ht]
 have key:∀{xs:List α} {vs:List Value},vs.length=xs.length→dj (xs.map (ar T)) vs ((List.zipWith (is T) vs xs).map Fa.kn)∧∀B,az (T.rel B) vs xs→∀k∈List.zipWith (is T) vs xs,k.p B:=by
  intro xs
  induction xs with
  |nil=>intro vs hl;cases vs with
   |nil=>exact⟨trivial,fun ν ν ν h=>nomatch h⟩
   |cons=>cases hl
  |cons x xs ih=>intro vs hl;cases vs with
   |nil=>cases hl
   |cons v vs=>
    obtain⟨h1,h2⟩:=ih (Nat.succ.inj hl)
    refine⟨⟨.head _,h1.mono fun ν h=>.tail _ h⟩,fun B h k hk=>?_⟩
    cases h with
    |cons a b=>cases hk with
     |head=>exact a
     |tail _ hk=>exact h2 B b k hk
 obtain⟨h1,h2⟩:=key hl
 refine h F s' vs ((List.zipWith (is T) vs xs).map Fa.kn) (Hd.iZ (X:=[.kn (rows T vs xs),.kn (is (Ty.list T) v xs)]) ⟨W,H,hA,(S.adds _ fun B kh=>h2 B (kh.at (.head _))).perm ?_⟩) h1
 show((List.zipWith (is T) vs xs).map Fa.kn++([_,_]++(F++H))).Perm (([_,_]++((List.zipWith (is T) vs xs).map Fa.kn++F))++H)
 rw[List.append_assoc,List.append_assoc]
 exact List.perm_append_comm_assoc ..
theorem dN.rG{β:Type}{U:Ty β}{k w:Expr}{x:Tx}{y:β}{pos:Pos}(h1:Ev c A L E (eval k env) (ar ah x) E1)(h2:Ev c A L E1 (eval w env) (ar U y) E2):dN c A L E (eval (.Dict [some k] [w] pos) env) (aK c U) [(x,y)] E2:=by
 intro F s υ2;obtain⟨W,H,hA,S⟩:=υ2
 refine S.rG (U:=U) fun d s' S=>wpAny_mono (h1 (.ow (own d (aK c U) [])::F) s' ⟨W,H,hA,S⟩) (fun kv s1 g1=>wpAny_mono (h2 _ s1 g1) (fun vv s2 g2=>?_) fun ν ν x=>x) fun ν ν x=>x
 refine aB g2 fun W H hA S=>?_;try clear g2
 obtain⟨t,rfl⟩:=S.isStr (.tail _ (.head _))
 exact⟨x,t,y,_,_,_,_,rfl,S,.there (.there .here),fun B k=>k.at (.head _),fun s' S=>⟨d,rfl,W,H,hA,S.sub (.own .here (.drop (.drop .all)))⟩⟩
theorem c8.yN{x y:Expr}{pos:Pos}{b:Bool}{whole:Sem Value}(h1:c8 c A L E (isTrue x env (eval x env)) true E1)(h2:c8 c A L E1 (isTrue y env (eval y env)) b E2):c8 c A L E (isTrue (.BoolOp .And [x,y] pos) env whole) b E2:=fun F s hs=>
 isTrue_and (wpAny_mono (h1 F s hs) (fun r s1 ⟨e,g1⟩=>by
  subst e
  refine p7 (isTrue_and (wpAny_mono (h2 F s1 g1) (fun r s2 ⟨e,g2⟩=>?_) fun ν ν x=>x))
  subst e
  cases r with
  |true=>exact p7 (isTrue_and_nil ⟨rfl,g2⟩)
  |false=>exact tu ⟨rfl,g2⟩) fun ν ν x=>x)
theorem dN.bR{e:Expr}{rest:List Expr}{id:Str}{pp pos:Pos}{b:String}{ps:List Arg}{α:Type}{T:Tb α}{y:α}(g:cg c)(ha:oF c A L E (spliced (backTo pos (starEach (e::rest) env))) ps E')(ho:zF c A (fun vs=>call (.builtin b) vs) K ps T y)
 (hn:nsIn (aO c) mainGlobals id=some none) (hv:bootBuiltins id=some (.builtin b)) (hne:id≠"__name__") (hK:autoParam (∀k∈K,fa k∈E') wN)
 (he:autoParam (starEach (e::rest) env=(false,eval e env)::starEach rest env) af) (hp:autoParam ((backTo pos (starEach rest env)).any (·.1)=false) af)
 (hg:autoParam (env.globals=mainGlobals) af) (hb:autoParam (env.builtins=builtinsNs) af) (hk:autoParam (env.scope.kind= .function) af) (hx:autoParam (env.kindOf id=some .globalImplicit) b7) (hd:autoParam ((id==("__debug__":Str))=false) b7):
 dN c A L E (eval (.Call (.Name id pp) (e::rest) [] pos) env) T y E':=fun F s hs=>by
 have hs':=hs
 refine aB hs fun W H hA S=>?_;try clear hs
 exact Mine.bR (S.bi g hn hv hne ⟨rfl,wpAny_mono (ha F s hs') (fun vs s1 ⟨X,ha,_,h'⟩=>ho.run hK h' ha) fun ν ν x=>x⟩ hg hb hk hx hd) he hp
theorem m9{α:Type}{T:Ty α}{f:α→α→Bool}{m:Nat}(hS:cQ c T f m)(hO:Ord f){xs ys:List α}(h:ql p K (ai T) xs)(hnd:xs.Nodup)(h2:2≤xs.length)(h64:xs.length<64)(hu:A.units+(m+2)<cLine)(hy:ys.Perm xs)(hp:ys.Pairwise fun x y=>f x y=true):
 zF c A (fun vs=>call (.builtin "sorted") vs) K [p] (ai T) ys:=fun ν ν ν ν ν S ha hK=>by
 refine aj (bH ha) fun v π31 h1=>?_;rcases π31 with rfl
 exact S.xD hS hO (h _ _ _ _ _ _ S h1 hK) hnd h2 h64 hu fun a zs s' p1 p2 S=>⟨a,rfl,by rw[eV hO (hy.trans p1.symm) hp p2];exact S⟩
theorem za{α:Type}[DecidableEq α]{T:Ty α}{m:Nat}(hT:g9 T m){xs ys:List α}{K2:List Fa}(h:ql p K (ai T) xs)(h':ql q K2 (ai T) ys)(hu:A.units+(m+1)<cLine):Op c A (cop .Eq) (K++K2) [p,q] (aD (.bool (decide (xs=ys)))):=fun ν ν ν ν ν S ha hK=>by
 refine av (aS ha) fun v w π52 h1 h2=>?_;rcases π52 with rfl
 exact(S.Aa hT (h _ _ _ _ _ _ S h1 fun k hk=>hK k (List.mem_append_left _ hk)) (h' _ _ _ _ _ _ S h2 fun k hk=>hK k (List.mem_append_right _ hk)) hu).1 c.prog c.w _ _ (S.add _ fun ν ν=>rfl)
end
end Mine
namespace Mine
section
variable{c:Cx}{A:Around}{n:Nat}
noncomputable def A5(y:Tx):Int:=open Classical in if h:∃m:Nat,bZ (m:Int)=y then((Classical.choose h:Nat):Int) else 0
theorem rQ{z:Int}(h:0≤z):A5 (bZ z)=z:=by
 obtain⟨m,rfl⟩:=Int.eq_ofNat_of_zero_le h
 have h1:∃k:Nat,bZ (k:Int)=bZ ((m:Nat):Int):=⟨m,rfl⟩
 unfold A5
 rw[dif_pos h1,pU (Classical.choose_spec h1)]
theorem oV{text:Tx}{lines:List Line}{parts:List Tx}(g:cg c)(ok:Ok A (n+4))(h1:text.length≤100000)(hparts:aJ text [34]=parts)
 (h2:parts.length=2*lines.length+1) (h3:lines.length≤60) (h4:∀i line,lines[i]?=some line→∃a b,parts[2*i]?=some a∧parts[2*i+1]?=some b∧a.length≤1000∧b.length≤1000∧(aJ a [32]).length≤1000∧kJ ((lines.take i).filterMap Line.known) a b line)
 (h5:(lines.filterMap Line.known).length =(lines.filterMap Line.told).length) (h6:(lines.filterMap Line.known).Pairwise fun x y=>bJ x y=true) (h7:2≤(lines.filterMap Line.known).length):
 Op c A (fun vs=>call (.ref 213) vs) [] [ar ah text] (ar (Ty.list (Ty.tup (bu c))) (lines.filterMap Line.told)):=fun L V G s vs S h ν=>by
 refine aj (bH h) fun v π31 hm=>?_;rcases π31 with rfl
 refine b9 (args:=⟨[v],[]⟩) (binds:=[("text",v)]) (V':=[("text",some v),("parts",none),("known",none),("told",none),("k",none),("local",none),("path",none),("primitive",none),("calls",none),("ticks",none),("cost",none),("called",none)]) (C:=fun L'=>[(L'+1,none)]) g S ok rfl (.of_eq (by kernel_rfl)) (by kernel_rfl) (by decide+kernel) (by kernel_rfl) (by kernel_rfl) (fun ν=>by kernel_rfl) fun L' s' S' ok'=>?_
 refine Rt.back ?_ (E:=[loc "text" (ar ah text),un "parts",un "known",un "told",un "k",un "local",un "path",un "primitive",un "calls",un "ticks",un "cost",un "called",jE (L'+1)])
  (.jf S' (.l (.u (.u (.u (.u (.u (.u (.u (.u (.u (.u (.u (.cu .nil))))))))))))) (.kn (.tail _ hm) (.ow .nil))) S.above
 refine .AO cL (Ty.tup (bu c)) ok'.hd (.to (.e8 (.fH (.nm (by walk_at "m")) cB bT (.cons .str .nil) (gw (y:=[34]) (by simp) (by exact ω1 h1 rfl) (by rw[hparts,h2];lia)))) hparts) (fun a b=>⟨_,_,by walk_at "c",by walk_at "c",by walk_at "c"⟩) fun ka ta=>?_
 have hlen:((parts.length:Int)-1)=2*(lines.length:Int):=by rw[h2];lia
 obtain⟨hr1,hr2⟩:=sC (n:=lines.length) (by exact ω1 h3 rfl)
 refine .cons (.for ok'.hd (.Be (.zJ g (.cons .int (.cons (.to (.bin (.bR g (.cons (.nm (by walk_at "m")) .nil) (eg (T:=ah) (xs:=parts) atK (by lia)) (by kernel_rfl) (by kernel_rfl) (by decide)) .int zR) hlen) (.cons .int .nil))) (by kernel_rfl) (by decide) (by decide) hr1 hr2))
  (fun done=>[fa (.ow (own ka (ai cL) ((lines.take done.length).filterMap Line.known))),fa (.ow (own ta (ai (Ty.tup (bu c))) ((lines.take done.length).filterMap Line.told))),loc "text" (ar ah text),loc "parts" (ar (Ty.list ah) parts),loc "known" (aD (.ref ka)),loc "told" (aD (.ref ta)),un "k",un "local",un "path",un "primitive",un "calls",un "ticks",un "cost",un "called",jE (L'+1)])
  .all fun done x rest ex=>?_) ?_
 ·have hxi:(runs 0 2 lines.length)[done.length]?=some x:=by rw[ex];simp
  have hilt:done.length<lines.length:=by
   have:=(List.getElem?_eq_some_iff.mp hxi).1
   simpa[runs] using this
  obtain rfl:x=2*(done.length:Int):=by
   rw[runs,List.getElem?_map,List.getElem?_range hilt] at hxi
   have:=hxi.symm
   simp at this
   lia
  have hdone1:(done++[2*(done.length:Int)]).length =done.length+1:=by simp
  rw[hdone1]
  clear hdone1 hxi ex
  generalize done.length=i at hilt
  obtain⟨line,hline⟩:∃line,lines[i]?=some line:=⟨_,List.getElem?_eq_getElem hilt⟩
  have htake:lines.take (i+1)=lines.take i++[line]:=by rw[List.take_add_one,hline];rfl
  refine vj (h4 i line hline) fun a b ha hb la lb ls hok=>?_
  have hKl:((lines.take i).filterMap Line.known).length≤60:=Nat.le_trans (List.length_filterMap_le ..) (Nat.le_trans (List.length_take_le ..) (by exact ω5 hilt h3 rfl))
  have hTl:((lines.take i).filterMap Line.told).length≤60:=Nat.le_trans (List.length_filterMap_le ..) (Nat.le_trans (List.length_take_le ..) (by exact ω5 hilt h3 rfl))
  rw[htake,List.filterMap_append,List.filterMap_append]
  generalize(lines.take i).filterMap Line.known=K at hok hKl
  generalize(lines.take i).filterMap Line.told=T at hTl
  have hnm:∃pf lo,Named a pf lo:=by
   cases line with
   |ns nm uri=>exact⟨_,_,hok.1⟩
   |ln num path f=>refine aB hok fun pf lo h ν3=>?_;try clear hok;exact⟨pf,lo,h⟩
  refine jH hnm fun pf lo seg hseg hsp lseg lpf llo=>?_;try clear hnm
  refine⟨_,.nm (by walk_at "c"),.cons (.unpack (p:=ar (Ty.list ah) [pf,lo]) (.to (.e8 (.fH (.cut (.sub (.e8 (.fH (.sub (.nm (by walk_at "m")) (.nm (by walk_at "m")) (dz atK (by exact ω19 (2*i)) (by lia) (by rw[show(2*(i:Int)).toNat =2*i from rfl];exact ha))) cB bT (.cons .str .nil) (gw (y:=[32]) (by simp) (by exact ω1 la rfl) (by exact ω1 ls rfl)))) .int (dz atK (by exact ω19 1) (by lia) hseg)) .no (.yes .neg) (by exact ω1 lseg rfl)) cB bT (.cons .str .nil) (gw (y:=[58]) (by simp) (by have:=cU seg none (some (-1));exact id (ω4 this lseg rfl)) (by rw[hsp];simp)))) hsp)
   (.lst ok'.hd (.cons (.ce (ca:=L'+1) rfl (by walk_at "c") jc) (.cons (.nm (by walk_at "c")) .nil)))) ?_⟩
  cases line with
  |ns nm uri=>
   obtain⟨⟨seg',hseg',hsp',_⟩,hpl,hrl⟩:=hok
   rw[hseg] at hseg';cases hseg'
   rw[hsp] at hsp'
   obtain⟨rfl,rfl⟩:pf=iP∧lo=nm:=by simpa using hsp'
   refine .cons (.if (.cmp (.ce (ca:=L'+1) rfl (by walk_at "m")) .str (ee (b:=iP))) (fun ν=>.cons (.append (T:=cL) (xs:=K) (y:=(lo,uri)) (.nm (by walk_at "m")) (by walk_at "m")
    (.tup (.cons (.nm (by walk_at "m")) (.cons (.to (.dU g (.cons (.sub (.nm (by walk_at "m")) (.bin (.nm (by walk_at "m")) .int fJ) (dz atK (by exact ω19 (2*i+1)) (by lia) (by rw[show(2*(i:Int)+1).toNat =2*i+1 from by exact ω117];exact hb))) .nil) (nJ g (n:=n) (ok'.le (ω250 rfl)) (x:=b) (by exact ω1 lb rfl) (by exact ω1 hrl rfl)) (by kernel_rfl) rfl) hpl) .nil)) (.cons .one)) (by walk_at "c") (by exact ω1 hKl rfl)) .nil) (fun hb1=>by simp at hb1)) (.end ?_)
   simp only[List.filterMap_cons,List.filterMap_nil,Line.known,Line.told,List.append_nil]
   walk_at "k"
  |ln num path f=>
   obtain⟨pf',lo',⟨seg',hseg',hsp',_⟩,hne,lpf',hlast,lpath,hfig,z1,z2,z3,z4,z5,hnum,zn⟩:=hok
   rw[hseg] at hseg';cases hseg'
   rw[hsp] at hsp'
   obtain⟨rfl,rfl⟩:pf=pf'∧lo=lo':=by simpa using hsp'
   have hwl:((K.filter fun p=>decide (p.1=pf)).map (·.2)).length≤60:=by rw[List.length_map];exact Nat.le_trans (List.length_filter_le ..) hKl
   obtain⟨ws,hws⟩:∃ws',(K.filter fun p=>decide (p.1=pf)).map (·.2)=ws'++[path]:=List.getLast?_eq_some_iff.mp hlast
   have hlw:(ws++[path]).length =ws.length+1:=by simp
   rw[hws,hlw] at hwl
   refine .cons (.if (E2:=[fa (.ow (own ka (ai cL) K)),fa (.ow (own ta (ai (Ty.tup (bu c))) (T++[(num,path,(f.1,f.2.1,f.2.2.1,f.2.2.2.1,[(aV path,f.2.2.2.2)]))]))),loc "text" (ar ah text),loc "parts" (ar (Ty.list ah) parts),loc "known" (aD (.ref ka)),loc "told" (aD (.ref ta)),un "k",un "local",un "path",un "primitive",un "calls",un "ticks",un "cost",un "called",jE (L'+1)])
    (.cmp (.ce (ca:=L'+1) rfl (by walk_at "m")) .str (ee (b:=iP))) (fun hb1=>absurd (by simpa using hb1) hne) (fun ν=>?_)) (.end ?_)
   ·refine .cons (.nH (ar ah path) (.sub (.to (.e8 (.c9 (U:=ah) [("prefix",L'+1)] ok'.hd (fun C=>[un ".0",un "name",un "value",eW (L'+1) (ar ah pf)]) (·.2) (fun p:Tx×Tx=>decide (p.1=pf)) (.aC (T:=cL) (xs:=K) (.nm (by walk_at "m")) (by walk_at "c")) (by walk_at "f") (fun C=>⟨[_,_,_],rfl⟩) (by exact fun C HB h=>.u (.u (.u h))) (fun C y hy=>?_) (by exact ω1 hKl rfl))) hws) .neg (kr atK (by decide) (by rw[hlw];exact ω156) (by decide) (by rw[hlw,show(-1+((ws.length+1:Nat):Int)).toNat =ws.length from ω106];simp))) (by walk_at "c")) ?_
    ·exact⟨_,_,.tup ok'.hd (.cons .one) (.cons (.nm (by walk_at "c")) (.cons (.nm (by walk_at "c")) .nil)),.t1 (.to (.cmp (.nm (by walk_at "m")) (.ce (ca:=L'+1) rfl (by walk_at "m")) ee) (by by_cases e:y.1=pf <;> simp[e])),fun ν=>.nm (by walk_at "m"),by walk_at "k"⟩
    obtain⟨fl,hfl⟩:∃fl:List Int,fl=[f.1,f.2.1,f.2.2.1,f.2.2.2.1,f.2.2.2.2]:=⟨_,rfl⟩
    have hfig':aJ b [32]=fl.map bZ:=by rw[hfig,hfl];rfl
    have hsm:∀z∈fl,Small z:=by
     intro z hz
     rw[hfl] at hz
     simp only[List.mem_cons,List.not_mem_nil,or_false] at hz
     rcases hz with rfl|rfl|rfl|rfl|rfl <;> assumption
    have hfl5:fl.length=5:=by rw[hfl];rfl
    have hun:((fl.map bZ).filter fun ν=>true).map A5=[f.1,f.2.1,f.2.2.1,f.2.2.2.1,f.2.2.2.2]:=by
     rw[iw,List.map_map,←hfl]
     exact(List.map_congr_left fun z hz=>rQ (hsm z hz).1).trans (List.map_id _)
    refine .cons (.unpack (p:=ar (Ty.list ao) [f.1,f.2.1,f.2.2.1,f.2.2.2.1,f.2.2.2.2]) (.to (.e8 (.c9 (U:=ao) [] ok'.hd (fun C=>[un ".0",un "figures"]) A5 (fun ν=>true) (.list (T:=ah) (xs:=fl.map bZ) (.to (.e8 (.fH (.sub (.nm (by walk_at "m")) (.bin (.nm (by walk_at "m")) .int fJ) (dz atK (by exact ω19 (2*i+1)) (by lia) (by rw[show(2*(i:Int)+1).toNat =2*i+1 from by exact ω117];exact hb))) cB bT (.cons .str .nil) (gw (y:=[32]) (by simp) (by exact ω1 lb rfl) (by rw[hfig',List.length_map,hfl5];exact ω0 rfl)))) hfig')) (by walk_at "f") (fun C=>⟨[_,_],rfl⟩) (by exact fun C HB h=>.u (.u h)) (fun C y hy=>?_) (by rw[List.length_map,hfl5];exact ω0 rfl))) hun)
     (.lst ok'.hd (.cons (.nm (by walk_at "c")) (.cons (.nm (by walk_at "c")) (.cons (.nm (by walk_at "c")) (.cons (.nm (by walk_at "c")) (.cons (.nm (by walk_at "c")) .nil))))))) ?_
    ·refine aj (List.mem_map.mp hy) fun z hz π32=>?_;rcases π32 with rfl
     exact⟨_,_,.nm (by walk_at "c"),.t0,fun ν=>.to (.gf g (.cons (.nm (by walk_at "m")) .nil) (uJ (hsm z hz).1 (hsm z hz).2) (by kernel_rfl) (by kernel_rfl) (by decide)) (rQ (hsm z hz).1).symm,by walk_at "k"⟩
    refine .cons (.append (T:=Ty.tup (bu c)) (xs:=T) (y:=(num,path,(f.1,f.2.1,f.2.2.1,f.2.2.2.1,[(aV path,f.2.2.2.2)]))) (.nm (by walk_at "m")) (by walk_at "m") (.tup (.cons (.gf g (.cons (.to (.cut (.ce (ca:=L'+1) rfl (by walk_at "m")) (.yes .int) .no (by exact ω1 lpf rfl)) hnum) .nil) (uJ zn.1 zn.2) (by kernel_rfl) (by kernel_rfl) (by decide)) (.cons (.nm (by walk_at "m")) (.cons (.tup (.cons (.nm (by walk_at "m")) (.cons (.nm (by walk_at "m")) (.cons (.nm (by walk_at "m")) (.cons (.nm (by walk_at "m"))
     (.cons (.e8 (.rG (.cut (.nm (by walk_at "m")) (.yes .neg) (.yes .neg) (by exact ω1 lpath rfl)) (.nm (by walk_at "m")))) .nil))))) (.cons (.cons (.cons (.cons .one))))) .nil))) (.cons (.cons .one))) (by walk_at "c") (by exact ω1 hTl rfl)) (.end (by walk_at "k"))
   ·simp only[List.filterMap_cons,List.filterMap_nil,Line.known,Line.told,List.append_nil]
    walk_at "k"
 have hfull:lines.take (runs 0 2 lines.length).length =lines:=by simp[runs]
 rw[hfull]
 have hKl:(lines.filterMap Line.known).length≤60:=Nat.le_trans (List.length_filterMap_le ..) h3
 generalize lines.filterMap Line.known=K at h5 h6 h7 hKl
 generalize lines.filterMap Line.told=T at h5
 refine .pre (fun F s hs=>hs.e8 (a:=ta) (y:="told") (by walk_at "c") (by walk_at "c") (by walk_at "m")) ?_
 refine .ret (.if (.yN (.to (.cmp (.bR g (.cons (.nm (by walk_at "m")) .nil) (eg (T:=cL) (xs:=K) oG (by exact ω1 hKl rfl)) (by kernel_rfl) (by kernel_rfl) (by decide) (lK (by walk_at "m"))) (.bR g (.cons (.nm (by walk_at "m")) .nil) (eg (T:=Ty.tup (bu c)) (xs:=T) atK (by exact ω7 h5 hKl rfl)) (by kernel_rfl) (by kernel_rfl) (by decide)) nE) (b':=true) (by rw[h5];simp))
  (.to (.cmp (.nm (by walk_at "m")) (.e8 (.bR g (.cons (.nm (by walk_at "m")) .nil) (m9 (T:=cL) (xs:=K) (ys:=K) ly gI oG (fE gI h6) h7 (by exact ω2 hKl rfl) (Ok.cl ok') (.refl _) h6) (by kernel_rfl) (by kernel_rfl) (by decide) (lK (by walk_at "m")))) (za (T:=cL) (xs:=K) (ys:=K) (rS (gu (eqStr (n:=0)) (pI eqStr))) oG atK (Ok.cl ok')) (lK (by walk_at "m"))) (b':=true) (decide_eq_true rfl))) (fun ν=>.nm (by walk_at "m")) (fun h=>nomatch h))
end
end Mine
namespace Mine
section
variable{c:Cx}{A:Around}{L:Addr}{E E' E0 E1 E2 E3 E4 B:List Res}{F:List Fa}{s:Shared}{env:PySem.Env}{p q r:Arg}{K:List Fa}{n:Nat}{sa:Addr}{l:List (Tx×bk)}
noncomputable def gK(c:Cx)(sa:Addr)(l:List (Tx×bk)):Res:=fun W H=>W=[]∧∃items:List Item,items.map (·.2)=l∧H= .ow (own sa (ai c7) items.reverse)::stk c items
theorem Wk.AY{E E':List Res}(h:Wk E E'):Wk (gK c sa l::E) E':=.dropN (fun ν ν ⟨e,_⟩=>e) h
theorem aE.out{W:ay}{H:List Fa}{r r':Res}(h:aE E W H)(u:Upd E r r' E'):∃W1 H1 H',r W1 H1∧H.Perm (H1++H')∧∀Y,W1=[]→r' [] Y→∃H2,aE E' W H2∧H2.Perm (Y++H'):=by
 obtain⟨W0,W1,W2,H0,H1,H2,h1,rfl,rfl,k⟩:=h.upd u
 refine⟨W1,H1,H0++H2,h1,List.perm_append_comm_assoc ..,fun Y e hy=>?_⟩
 subst e
 exact⟨_,k [] Y hy,List.perm_append_comm_assoc ..⟩
theorem Upd.mem{r r':Res}(h:Upd E r r' E'):r∈E:=by
 induction h with
 |here=>exact .head _
 |there _ ih=>exact .tail _ ih
theorem Upd.refl{r:Res}(h:r∈E):Upd E r r E:=by
 induction E with
 |nil=>cases h
 |cons q E ih=>
  by_cases e:r=q
  ·subst e;exact .here
  ·exact .there (ih ((List.mem_cons.mp h).resolve_left e))
theorem nX{l':List (Tx×bk)}(hs:Hd c L E F s)(u:Upd E (gK c sa l) (gK c sa l') E'):∃W H items H',aE E W H∧items.map (·.2)=l∧aa c L W (.ow (own sa (ai c7) items.reverse)::(stk c items++(F++H'))) s∧
 ∀F' s' items',items'.map (·.2)=l'→aa c L W (.ow (own sa (ai c7) items'.reverse)::(stk c items'++(F'++H'))) s'→Hd c L E' F' s':=by
 refine aB hs fun W H hA S=>?_;try clear hs
 refine gh (hA.out u) fun W1 H1 H' π63 hp k=>?_;obtain⟨rfl,items,e,rfl⟩:=π63
 have pm:∀{X F H':List Fa} {x:Fa},(F++((x::X)++H')).Perm (x::(X++(F++H'))):=fun{X F H' x}=>(List.perm_append_comm_assoc F (x::X) H')
 refine⟨W,H,items,H',hA,e,S.perm ((hp.append_left F).trans pm),fun F' s' items' e' S'=>?_⟩
 refine aj (k _ rfl ⟨rfl,items',e',rfl⟩) fun H2 h1 h2=>?_
 exact⟨W,H2,h1,S'.perm (pm.symm.trans (h2.symm.append_left F'))⟩
theorem St.push{x:Str}{e1 e2:Expr}{h:Tx}{f:bk}{xp ap lp pos epos:Pos}(h1:Ev c A L E (eval e1 env) (ar ah h) E)(h2:Ev c A L E (eval e2 env) (ar (Ty.tup (bF c)) f) E)(u:Upd E (gK c sa l) (gK c sa ((h,f)::l)) E')(hsz:l.length≤1000000)
 (hn:Ev c A L E (eval (.Name x xp) env) (aD (.ref sa)) E)
 (he:autoParam (starEach [.List [e1,e2] lp] env=(false,eval (.List [e1,e2] lp) env)::starEach [] env) af) (he1:autoParam (starEach [e1,e2] env=(false,eval e1 env)::starEach [e2] env) af) (he2:autoParam (starEach [e2] env=(false,eval e2 env)::starEach [] env) af)
 (hfew:autoParam (((backTo pos (starEach [.List [e1,e2] lp] env)).all (fun x=>!x.1)&&(backToKw pos (keywordEach [] env)).all (fun x=>x.1.isSome)
   &&decide ([Expr.List [e1,e2] lp].length +([]:List Keyword).length +(if([]:List Keyword).isEmpty then 0 else 1)<30))=true) af) (hbase:autoParam (attributeBase (.Name x xp) "append" env (eval (.Name x xp) env)=eval (.Name x xp) env) af) (hline:autoParam ((ap.endLine==pos.line)=true) af)
 (hi:autoParam (interactive env=false) af) (hs:autoParam (swapsWith (.Call (.Attribute (.Name x xp) "append" ap) [.List [e1,e2] lp] [] pos) none epos.line env=pure false) af):
 St c A L E (exec (.Expr (.Call (.Attribute (.Name x xp) "append" ap) [.List [e1,e2] lp] [] pos) epos) env) E':=fun F s hs'=>by
 refine jt (f9 (wpAny_mono (hn F s hs') (fun v s hv=>?_) fun ν ν x=>x) he (hbase:=hbase) (hfew:=hfew) (hline:=hline)) hi hs
 refine fK (nX hv (Upd.refl (r:=gK c sa l) u.mem)) fun W H items H' hA e S ν7=>?_
 obtain rfl:v= .ref sa:=S.bK (.tail _ (List.mem_append_right _ (.head _)))
 refine⟨_,_,cS,S.fD (.head _),spliced_more (List_ (spliced_more (wpAny_mono (h1 _ s hv) (fun w s1 g1=>spliced_more (wpAny_mono (h2 _ s1 g1) (fun w2 s2 g2=>spliced_none ?_) fun ν ν x=>x) he2) fun ν ν x=>x) he1)) he⟩
 refine fK (nX g2 u) fun W H items H' hA e S back=>?_
 refine S.Am (T:=ah) (U:=Ty.tup (bF c)) (x:=(h,f)) (fun B k=>⟨k.at (.tail _ (List.mem_append_right _ (.tail _ (.head _)))),k.at (.tail _ (List.mem_append_right _ (.head _)))⟩) fun d s' S=>spliced_none ?_
 refine S.gB (T:=c7) (xs:=items.reverse) (x:=(d,h,f)) (.there .here) (fun B k=>rfl) (by rw[List.length_reverse,←List.length_map (f:=(·.2)),e];exact hsz) fun s' S=>⟨rfl,rfl,?_⟩
 refine((back (.kn (is (Ty.tup (bF c)) w2 f):: .kn (is ah w h):: .kn (aD (.ref sa) (.ref sa))::F) s' ((d,h,f)::items) (by rw[List.map_cons,e]) ?_).drop.drop.drop)
 rw[List.reverse_cons]
 exact S
theorem St.Bu{x y z:Str}{h:Tx}{f:bk}{xp yp zp tp ap pos apos:Pos}{k:Nat}(hh:A.handled=none)(hn:Ev c A L E (eval (.Name x xp) env) (aD (.ref sa)) E)(u:Upd E (gK c sa ((h,f)::l)) (gK c sa l) E1)(ht:xg c A L E1 env [.Name y yp,.Name z zp] [ar ah h,ar (Ty.tup (bF c)) f] E2)(hsz:l.length≤1000000)
 (hbase:autoParam (attributeBase (.Name x xp) "pop" env (eval (.Name x xp) env)=eval (.Name x xp) env) af) (hline:autoParam ((ap.endLine==pos.line)=true) af)
 (hs:autoParam (swapsWithSole [.Tuple [.Name y yp,.Name z zp] k tp] (.Call (.Attribute (.Name x xp) "pop" ap) [] [] pos) apos.line env=pure false) af) (hw:autoParam (swappedStores [.Tuple [.Name y yp,.Name z zp] k tp] (.Call (.Attribute (.Name x xp) "pop" ap) [] [] pos) env=pure none) af):
 St c A L E (exec (.Assign [.Tuple [.Name y yp,.Name z zp] k tp] (.Call (.Attribute (.Name x xp) "pop" ap) [] [] pos) apos) env) E2:=fun F s hs'=>by
 refine Assign_Tuple (wW (wpAny_mono (hn F s hs') (fun v s hv=>?_) fun ν ν x=>x) hbase hline) hs hw
 refine fK (nX hv u) fun W H items H' hA e S back=>?_
 obtain rfl:v= .ref sa:=S.bK (.tail _ (List.mem_append_right _ (.head _)))
 cases items with
 |nil=>cases e
 |cons top items=>
  obtain⟨b,h',f'⟩:=top
  obtain⟨e1,e2⟩:=List.cons.inj e
  cases e1
  rw[List.reverse_cons] at S
  refine⟨_,_,qL,S.fD (.head _),S.BE (T:=c7) (xs:=items.reverse) (x:=(b,h,f)) .here (by rw[List.length_reverse,←List.length_map (f:=(·.2)),e2];exact hsz) fun v3 s' S=>?_⟩
  obtain rfl:v3= .ref b:=S.fact fun B k ν=>k.at (.head _)
  refine S.j3 (T:=ah) (U:=Ty.tup (bF c)) (x:=(h,f)) hh (.tail _ (.tail _ (.head _))) fun w7 w8 s' S=>?_
  have hd:=back (.kn (is ah w7 h):: .kn (is (Ty.tup (bF c)) w8 f):: .kn (aD (.ref sa) (.ref sa))::F) s' items e2 ((S.sub (.own (.there (.there (.there .here))) (.kn (.head _) (.kn (.tail _ (.head _)) (.drop (.drop (.drop (.drop .all)))))))).perm ((List.perm_append_comm_assoc [_,_] (stk c items) _).cons _))
  exact wpAny_mono (ht F s' [w7,w8] [_,_,_] hd ⟨.head _,.tail _ (.head _),trivial⟩) (fun ν ν h=>⟨rfl,h⟩) fun ν ν x=>x
theorem c8.yG{x:Str}{xp lp pos:Pos}(hn:Ev c A L E (eval (.Name x xp) env) (aD (.ref sa)) E)(hm:gK c sa l∈E)(hu:A.units+1<cLine)(hb:autoParam (behindInMarks .NotEq (.List [] lp)=false) zW):
 c8 c A L E (isTrue (.Compare (.Name x xp) [.NotEq] [.List [] lp] pos) env (eval (.Compare (.Name x xp) [.NotEq] [.List [] lp] pos) env)) (!l.isEmpty) E:=fun F s hs=>by
 refine wpAny_isTrue_Compare1 (wpAny_mono (hn F s hs) (fun v s hv=>List_ (spliced_none ?_)) fun ν ν x=>x) hb
 refine fK (nX hv (Upd.refl hm)) fun W H items H' hA e S back=>?_
 obtain rfl:v= .ref sa:=S.bK (.tail _ (List.mem_append_right _ (.head _)))
 refine S.nList c7 [] (fun ν ν=>.nil) (by decide) fun d s' S=>?_
 refine S.zo (T:=c7) (U:=c7) (xs:=items.reverse) (.tail _ (.head _)) (.head _) hu (wpAny_truthy_bool ⟨?_,?_⟩)
 ·rw[←e];cases items <;> simp
 ·exact(back (.kn (aD (.ref sa) (.ref sa))::F) s' items e (S.sub (.drop .all))).drop
noncomputable def lV(c:Cx)(sa:Addr)(items:List Item):Res:=fun W H=>W=[]∧H= .ow (own sa (ai c7) items.reverse)::stk c items
theorem qz{items items':List Item}(hs:Hd c L E F s)(u:Upd E (lV c sa items) (lV c sa items') E'):∃W H',aa c L W (.ow (own sa (ai c7) items.reverse)::(stk c items++(F++H'))) s∧
 ∀F' s',aa c L W (.ow (own sa (ai c7) items'.reverse)::(stk c items'++(F'++H'))) s'→Hd c L E' F' s':=by
 refine aB hs fun W H hA S=>?_;try clear hs
 refine gh (hA.out u) fun W1 H1 H' π63 hp k=>?_;obtain⟨rfl,rfl⟩:=π63
 have pm:∀{X F H':List Fa} {x:Fa},(F++((x::X)++H')).Perm (x::(X++(F++H'))):=fun{X F H' x}=>(List.perm_append_comm_assoc F (x::X) H')
 refine⟨W,H',S.perm ((hp.append_left F).trans pm),fun F' s' S'=>?_⟩
 refine aj (k _ rfl ⟨rfl,rfl⟩) fun H2 h1 h2=>?_
 exact⟨W,H2,h1,S'.perm (pm.symm.trans (h2.symm.append_left F'))⟩
theorem St.yx{X:Sem Flow}{Em:List Res}{Eo:List Item→List Res}(u0:Upd E (gK c sa l) emp Em)(u:∀items,Upd Em emp (lV c sa items) (Eo items))(k:∀items,items.map (·.2)=l→St c A L (Eo items) X E'):St c A L E X E':=fun F s hs=>by
 refine aB hs fun W H hA S=>?_;try clear hs
 refine gh (hA.out u0) fun W1 H1 H' π63 hp k1=>?_;obtain⟨rfl,items,e,rfl⟩:=π63
 refine aj (k1 [] rfl ⟨rfl,rfl⟩) fun H2 hA2 hp2=>?_
 refine gh (hA2.out (u items)) fun W1 H1 H3 π63 hp3 k2=>?_;obtain⟨rfl,rfl⟩:=π63
 refine aj (k2 _ rfl ⟨rfl,rfl⟩) fun H4 hA4 hp4=>?_
 exact k items e F s ⟨W,H4,hA4,S.perm ((hp.trans ((hp2.symm.trans hp3).append_left _ |>.trans hp4.symm)).append_left F)⟩
theorem St.vz{X:Sem Flow}{items:List Item}(h:St c A L E X E1)(u:Upd E1 (lV c sa items) (gK c sa l) E')(e:items.map (·.2)=l):St c A L E X E':=fun F s hs=>
 wpAny_mono (h F s hs) (fun ν s' ⟨e1,W,H,hA,S⟩=>⟨e1,by
  refine gh (hA.out u) fun W1 H1 H' π63 hp k=>?_;obtain⟨rfl,rfl⟩:=π63
  refine aj (k _ rfl ⟨rfl,items,e,rfl⟩) fun H2 h1 h2=>?_
  exact⟨W,H2,h1,S.perm ((hp.trans h2.symm).append_left F)⟩⟩) fun ν ν x=>x
theorem Ev.top{e:Expr}{i:Item}{items:List Item}{k1:Nat}{i1 ip pos:Pos}(hn:Ev c A L E (eval e env) (aD (.ref sa)) E1)(hm:lV c sa (i::items)∈E1)(hsz:items.length≤900):Ev c A L E (eval (.Subscript e (.UnaryOp .USub (.Constant (.int 1) k1 i1) ip) pos) env) (aD (.ref i.1)) E1:=fun F s hs=>by
 refine t7 (wpAny_mono (hn F s hs) (fun v s hv=>?_) fun ν ν x=>x)
 refine aB (qz hv (Upd.refl hm)) fun W H' S back=>?_
 obtain rfl:v= .ref sa:=S.bK (.tail _ (List.mem_append_right _ (.head _)))
 have hlr:((i::items).reverse).length =items.length+1:=by simp
 refine As S fun t s' S=>gi (T:=c7) (xs:=(i::items).reverse) S (.head _) (S.m8 (T:=c7) (xs:=(i::items).reverse) (x:=i) (.head _) (by decide) (by rw[hlr];exact ω156) (by decide) ?_ fun v9 S=>?_)
 ·rw[hlr,show(-1+((items.length+1:Nat):Int)).toNat =items.length from by exact ω106,List.reverse_cons];simp
 ·obtain rfl:v9= .ref i.1:=S.fact fun B k ν=>k.at (.head _)
  have hd:=(back (.kn (aD (.ref sa) (.ref sa))::F) s' (S.sub (.drop .all))).drop
  refine aB hd fun W H hA S=>?_;try clear hd
  exact⟨W,H,hA,S.add _ fun ν ν=>rfl⟩
theorem Ev.A2{e:Expr}{i:Item}{items:List Item}{k1:Nat}{i1 pos:Pos}(hn:Ev c A L E (eval e env) (aD (.ref i.1)) E1)(hm:lV c sa items∈E1)(hi:i∈items):Ev c A L E (eval (.Subscript e (.Constant (.int 1) k1 i1) pos) env) (ar (Ty.tup (bF c)) i.2.2) E1:=fun F s hs=>by
 refine t7 (wpAny_mono (hn F s hs) (fun v s hv=>?_) fun ν ν x=>x)
 refine aB (qz hv (Upd.refl hm)) fun W H' S back=>?_
 obtain rfl:v= .ref i.1:=S.bK (.tail _ (List.mem_append_right _ (.head _)))
 have hmem:Fa.ow (own i.1 (AB c) i.2)∈Fa.ow (own sa (ai c7) items.reverse)::(stk c items++((Fa.kn (aD (.ref i.1) (.ref i.1))::F)++H')):=.tail _ (List.mem_append_left _ (List.mem_map.mpr ⟨i,hi,rfl⟩))
 refine S.jj fun t s' S=>qU (T:=ah) (U:=Ty.tup (bF c)) (x:=i.2) S hmem (S.zL (T:=ah) (U:=Ty.tup (bF c)) (x:=i.2) hmem fun w S=>?_)
 have hd:=(back (.kn (is (Ty.tup (bF c)) w i.2.2):: .kn (aD (.ref i.1) (.ref i.1))::F) s' (S.perm (List.perm_middle (l₁:=.ow (own sa (ai c7) items.reverse)::stk c items)).symm))
 exact Hd.out (X:=[_]) hd
theorem St.BJ{e o:Expr}{b:Addr}{h:Tx}{f f':bk}{items:List Item}{k1:Nat}{i1 pos' pos:Pos}(h1:Ev c A L E (eval e env) (ar (Ty.tup (bF c)) f') E1)(h2:Ev c A L E1 (eval o env) (aD (.ref b)) E2)(u:Upd E2 (lV c sa ((b,h,f)::items)) (lV c sa ((b,h,f')::items)) E3)
 (hs:autoParam (swapsWith e (some (.Subscript o (.Constant (.int 1) k1 i1) pos')) pos.line env=pure false) af):St c A L E (exec (.Assign [.Subscript o (.Constant (.int 1) k1 i1) pos'] e pos) env) E3:=fun F s hs'=>by
 refine wpAny_Assign_Subscript (wpAny_mono (h1 F s hs') (fun v s1 g1=>wpAny_mono (h2 _ s1 g1) (fun ov s2 g2=>?_) fun ν ν x=>x) fun ν ν x=>x) hs
 refine aB (qz g2 u) fun W H' S back=>?_
 obtain rfl:ov= .ref b:=S.bK (.tail _ (List.mem_append_right _ (.head _)))
 refine S.jj fun t s' S=>S.yL (T:=ah) (U:=Ty.tup (bF c)) (x:=(h,f)) (y:=f') (.there .here) (fun B k=>k.at (k:=is (Ty.tup (bF c)) v f') (.tail _ (List.mem_append_right _ (.tail _ (.head _))))) fun s' S=>⟨rfl,?_⟩
 have S:=S.zl (T:=ai c7) (x:=((b,h,f)::items).reverse) (.there .here) (ai c7) ((b,h,f')::items).reverse fun B o ⟨vs,m,e1,e2⟩=>⟨vs,m,e1,ve e2 (by simp)⟩
 exact(back (.kn (aD (.ref b) (.ref b)):: .kn (is (Ty.tup (bF c)) v f')::F) s' S).drop.drop
end
end Mine
namespace Mine
section
variable{c:Cx}{A:Around}{L:Addr}{E E' E0 E1 E2 E3 E4 B:List Res}{F:List Fa}{s:Shared}{env:PySem.Env}{p q r:Arg}{K:List Fa}{n:Nat}{sa:Addr}{l:List (Tx×bk)}
theorem St.while{σ:Type}{test:Expr}{body:List Stmt}{pos:Pos}{x0:σ}{k:Nat}(I:σ→List Res)(P:Nat→σ→Prop)(p0:P k x0)(turn:∀n x,P n x→∃b E1,c8 c A L (I x) (isTrue test env (eval test env)) b E1∧
 (b=true→∃m y,m<n∧P m y∧St c A L E1 (execs body env) (I y))∧(b=false→Wk E1 E')):St c A L (I x0) (exec (.While test body [] pos) env) E':=fun F s hs=>by
 refine wpAny_While (codeAny_whileLoop (fun n s'=>∃x,P n x∧Hd c L (I x) F s') (fun n s' ⟨x,hx,h⟩=>?_) k ⟨x0,p0,hs⟩)
 refine av (turn n x hx) fun b E1 h1 ht hf=>?_
 refine jq (wpAny_mono (h1 F s' h) (fun r s1 ⟨e,h2⟩=>?_) fun ν ν x=>x)
 subst e
 cases r with
 |true=>
  refine av (ht rfl) fun m y hm hy h3=>?_
  exact p7 (jq (wpAny_mono (h3 F s1 h2) (fun f s2 ⟨e,h4⟩=>by subst e;exact⟨m,hm,y,hy,h4⟩) fun ν ν x=>x))
 |false=>exact tu (jq (wpAny_execs_nil ⟨rfl,h2.wk (hf rfl)⟩))
noncomputable def vc(c:Cx)(items:List Item):Res:=fun W H=>W=[]∧H=stk c items
theorem jK.stk{items:List Item}(h:jK E B):jK (vc c items::E) (vc c items::B):=.take (fun ν ν ⟨e,_⟩=>e) h
theorem oH.Co{X:Sem Value}{target:Expr}{items:List Item}(h:Ev c A L E X (aD (.ref sa)) E1)(u:Upd E1 (lV c sa items) (vc c items) E2):oH c A L E X target c7 items.reverse E2 E1:=fun F s hs=>
 wpAny_mono (h F s hs) (fun v s1 h1=>by
  refine aB h1 fun W H hA S=>?_;try clear h1
  rw[S.bK (.head _)]
  refine gh (hA.out u) fun W1 H1 H' π63 hp k=>?_;obtain⟨rfl,rfl⟩:=π63
  refine aj (k _ rfl ⟨rfl,rfl⟩) fun H2 h2 hp2=>?_
  have S:=S.perm (G':=.ow (own sa (ai c7) items.reverse)::(.kn (aD (.ref sa) v)::(F++H2))) ((hp.append_left _).trans (List.perm_middle.trans (.cons _ (.cons _ (hp2.symm.append_left F)))))
  refine S.iO .here fun it Fi s' src S=>⟨Fi,_,src _,Hd.iZ (X:=[.kn (aD (.ref sa) v)]) ⟨W,H2,h2,S.perm ?_⟩,fun F s ⟨W,H,hA,S⟩=>?_⟩
  ·show(Fi 0++([_]++(F++H2))).Perm (([_]++(Fi 0++F))++H2)
   rw[List.append_assoc,List.append_assoc]
   exact List.perm_append_comm_assoc ..
  ·refine gh (hA.out u.symm) fun W1 H1 H' π63 hp k=>?_;obtain⟨rfl,rfl⟩:=π63
   refine aj (k _ rfl ⟨rfl,rfl⟩) fun H2 h2 hp2=>?_
   refine⟨W,H2,h2,S.perm ?_⟩
   refine(List.perm_middle.symm:(_::(F++H)).Perm (F++_::H)).trans ((((hp.cons _).trans hp2.symm)).append_left F)) fun ν ν x=>x
theorem Tg.pair{elts:List Expr}{k:Nat}{pos:Pos}{y:Item}{items:List Item}(hh:A.handled=none)(hm:vc c items∈E)(hy:y∈items)(h:xg c A L E env elts [ar ah y.2.1,ar (Ty.tup (bF c)) y.2.2] E')(hn:autoParam ((assignEach elts env).length =2) af)
 (ht:autoParam ((assignEach elts env).map (·.2)=elts.map (fun e=>assign e env)) af) (hst:autoParam ((assignEach elts env).findIdx? (·.1)=none) af):Tg c A L E env (.Tuple elts k pos) (ar c7 y) E':=fun F s v hs=>by
 refine aB hs fun W H hA S=>?_;try clear hs
 obtain rfl:v= .ref y.1:=S.fact fun B k ν=>k.at (.head _)
 refine av (hA.mem hm) fun W1 H1 π52 ν3 hH=>?_;obtain⟨rfl,rfl⟩:=π52
 refine S.j3 (T:=ah) (U:=Ty.tup (bF c)) (x:=y.2) hh (List.mem_append_right _ (hH _ (List.mem_map.mpr ⟨y,hy,rfl⟩))) (fun w1 w2 s' S=>?_) hn hst
 rw[ht]
 exact h F s' [w1,w2] [.kn (is ah w1 y.2.1),.kn (is (Ty.tup (bF c)) w2 y.2.2),.kn (is c7 (.ref y.1) y)] ⟨W,H,hA,S⟩ ⟨.head _,.tail _ (.head _),trivial⟩
theorem Rt.AF{R:Rp}{x y z:Str}{α β:Type}(T:Ty α)(U:Ty β){p1 p2 p3 p4 p5 p6 tp vp pos:Pos}{k1 k2:Nat}{rest:List Stmt}{E2:Addr→Addr→Addr→List Res}(hh:A.handled=none)
 (hp:∀a b d,∃E1 E3,cP z (loc z (aD (.ref d))) E E1∧cP y (loc y (aD (.ref b))) E1 E3∧cP x (loc x (aD (.ref a))) E3 (E2 a b d))
 (k:∀a b d,Rt c A L (fa (.ow (own a (ai T) []))::fa (.ow (own b (ai U) []))::gK c d []::E2 a b d) (execs rest env) R)
 (hs:autoParam (swapsWithSole [.Tuple [.Name x p1,.Name y p2,.Name z p3] k1 tp] (.Tuple [.List [] p6,.List [] p4,.List [] p5] k2 vp) pos.line env=pure false) af) (hw:autoParam (swappedStores [.Tuple [.Name x p1,.Name y p2,.Name z p3] k1 tp] (.Tuple [.List [] p6,.List [] p4,.List [] p5] k2 vp) env=pure (some [x,y,z])) af)
 (hL:autoParam (env.locals=L) af) (hk:autoParam (env.scope.kind= .function) af) (hl:autoParam (env.kindOf x=some .local) b7) (hl2:autoParam (env.kindOf y=some .local) b7) (hl3:autoParam (env.kindOf z=some .local) b7)
 (g0:autoParam (starEach [.List [] p6,.List [] p4,.List [] p5] env=(false,eval (.List [] p6) env)::starEach [.List [] p4,.List [] p5] env) af) (g1:autoParam (starEach [.List [] p4,.List [] p5] env=(false,eval (.List [] p4) env)::starEach [.List [] p5] env) af) (g2:autoParam (starEach [.List [] p5] env=(false,eval (.List [] p5) env)::starEach [] env) af):
 Rt c A L E (execs (.Assign [.Tuple [.Name x p1,.Name y p2,.Name z p3] k1 tp] (.Tuple [.List [] p6,.List [] p4,.List [] p5] k2 vp) pos::rest) env) R:=by
 intro F s υ2;obtain⟨W,H,hA,S⟩:=υ2
 refine wpAny_execs_cons (Assign_Tuple_swapped (names:=[x,y,z]) (Tuple_ (spliced_more (List_ (spliced_none (S.nList T [] (fun ν ν=>.nil) (by decide) fun a s' S=>?_))) g0)) hs hw)
 refine spliced_more (List_ (spliced_none (S.nList U [] (fun ν ν=>.nil) (by decide) fun b s' S=>?_))) g1
 refine spliced_more (List_ (spliced_none (S.nList c7 [] (fun ν ν=>.nil) (by decide) fun d s' S=>spliced_none ?_))) g2
 refine S.qC (Nat.le_of_ble_eq_true rfl) fun v' s' S=>?_
 refine S.ja hh (.head _) rfl fun s' S=>?_
 have hd:Hd c L E (.ow (own d (ai c7) []):: .ow (own b (ai U) []):: .ow (own a (ai T) [])::F) s':=⟨W,H,hA,S.sub (.drop .all)⟩
 refine av (hp a b d) fun E1 E3 h1 h2 h3=>?_
 refine lF (hd.qJ h1 (fun s' hd=>lF (hd.qJ h2 (fun s' hd=>lF (hd.qJ h3 (fun s' hd=>uX (k a b d F s' (Hd.own (Hd.own (f:=.ow (own b (ai U) [])) ?_)))) hL hk hl)) hL hk hl2)) hL hk hl3)
 refine aB hd fun W H hA S=>?_;try clear hd
 exact⟨W,_,aE.cons (W:=[]) (H:=[_]) ⟨rfl,[],rfl,rfl⟩ hA,(show aa c L W ((.ow (own b (ai U) []):: .ow (own a (ai T) [])::F)++(.ow (own d (ai c7) [])::H)) s' from S.perm List.perm_middle.symm)⟩
end
end Mine
local macro_rules | `(tactic| walk_at "f") => `(tactic| repeat with_reducible first | exact Mine.jK.nil | apply Mine.jK.eW | apply Mine.jK.stk | apply Mine.jK.skip)
namespace Mine
section
variable{c:Cx}{A:Around}{n:Nat}
theorem oU{order:List Told}{z z1:RS}(ho:∀o∈order,o.2.2.2.2.2.2.length≤1∧0≤o.1)(hl:order.length≤900)(h:mQ order z=some z1)(h1:lJ z.2.2≤z.1.length)(h2:z.2.2.length≤z.1.length):
 lJ z1.2.2≤z1.1.length∧z1.2.2.length≤z1.1.length∧z1.1.length≤900∧z1.2.1=z.2.1∧z1.1.length=z.1.length+1:=by
 refine aj (Option.map_eq_some_iff.mp h) fun o ho1 π32=>?_;rcases π32 with rfl
 have h3:=(List.getElem?_eq_some_iff.mp ho1).1
 have h4:=(ho o (List.mem_of_getElem? ho1)).1
 have h5:lJ ((o.2.1,o.2.2)::z.2.2)=o.2.2.2.2.2.2.length+lJ z.2.2:=by simp[lJ]
 refine⟨?_,?_,?_,rfl,by simp⟩
 ·show lJ ((o.2.1,o.2.2)::z.2.2)≤_
  rw[h5,List.length_append];simp;exact ω130 h1 h4
 ·simp;exact h2
 ·simp;exact ω238 hl h3 rfl
theorem eY{order:List Told}(ho:∀o∈order,o.2.2.2.2.2.2.length≤1∧0≤o.1)(hl:order.length≤900):∀{k:Nat} {z z0:RS},fF order k z=some z0→lJ z.2.2≤z.1.length→z.2.2.length≤z.1.length→z.1.length≤900→
 lJ z0.2.2≤z0.1.length∧z0.2.2.length≤z0.1.length∧z0.1.length≤900∧z0.2.1=z.2.1
 |0,z,z0,h,h1,h2,h3=>by cases h;exact⟨h1,h2,h3,rfl⟩
 |k+1,z,z0,h,h1,h2,h3=>by
  refine aj (Option.bind_eq_some_iff.mp h) fun z1 g1 g2=>?_
  refine kO (oU ho hl g1 h1 h2) fun a1 a2 a3 a4 ν4=>?_
  refine j9 (eY ho hl g2 a1 a2 a3) fun b1 b2 b3 b4=>?_
  exact⟨b1,b2,b3,b4.trans a4⟩
theorem lU{told:List Told}{st:RS}(g:cg c)(ok:Ok A (n+4))(h1:told.length≤30)(h2:∀o∈told,o.2.2.2.2.2.2.length≤1∧0≤o.1)(hst:gE (orderOf told) told ([],[],[])=some st):
 Op c A (fun vs=>call (.ref 218) vs) [] [ar (Ty.list (Ty.tup (bu c))) told] (ar (Ty.tup (yk c)) (st.1,st.2.1)):=fun L V G s vs S h ν=>by
 refine aj (bH h) fun v π31 hm=>?_;rcases π31 with rfl
 have hL:=S.above
 have hm: .kn (is (Ty.list (Ty.tup (bu c))) v told)∈G:=hm
 have S:=S.sub (.kn hm .all)
 have hun:=ok.un
 refine b9 (args:=⟨[v],[]⟩) (binds:=[("told",v)]) (V':=[("number",none),("order",none),("calls",none),("ends",none),("stack",none),("path",none),("entry",none),("at",none),("head",none),("own",none),("sums",none),("under",none)]) (C:=fun L'=>[(L'+1,some v)]) g S ok rfl (.of_eq (by kernel_rfl)) (by kernel_rfl) (by decide+kernel) (by kernel_rfl) (by kernel_rfl) (fun ν=>by kernel_rfl) ?_
 intro L' s' S ok'
 simp only[aI,List.map_cons,List.map_nil,List.cons_append,List.nil_append] at S
 refine wpAny_execs_cons (w9 [("told",L'+1)] (gf (b:="range") (S.bi g (v:=.type "range") (by kernel_rfl) (by kernel_rfl) (by decide) ⟨rfl,spliced_more ?_⟩)))
 refine bR (b:="len") (S.bi g (v:=.builtin "len") (by kernel_rfl) (by kernel_rfl) (by decide) ⟨rfl,spliced_more (S.ce (ca:=L'+1) (v:=v) rfl (by walk_at "m") (spliced_none ?_))⟩)
 refine S.AN (T:=Ty.tup (bu c)) (xs:=told) (by walk_at "m") (by exact ω1 h1 rfl) fun t1 s' S=>spliced_none (S.yg fun r t2 t3 s' S=>?_)
 obtain⟨hr1,hr2⟩:=range_one (n:=told.length) (by exact ω1 h1 rfl)
 refine S.mq (n:=told.length) (by walk_at "m") hr1 hr2 fun it F s' src S=>?_
 refine sD (T:=ao) (T':=Ty.tup (bu c)) (ys:=told) (src _) ok'.hd (Ty.tup (bu c)) (fun n l=>l.filter fun one=>decide (one.1=n)) (fun o VC=>∃o1 o2,VC=([(".0",none),("number",o1),("one",o2)]:ay)∧∀n,o=some n→∃t,o1=some (.int n t))
  (.ow (own (L'+1) bB (some v)):: .ow (own L bC V):: .kn (is (Ty.list (Ty.tup (bu c))) v told)::G) S (fun ν=>rfl) (fun ν ν=>List.length_filter_le ..) (by simp only[runs,List.length_map,List.length_range];have:=Nat.mul_le_mul h1 h1;exact id (ω1 this rfl)) (by kernel_rfl) (fun ν=>by kernel_rfl) ⟨none,none,by kernel_rfl,fun ν e=>nomatch e⟩ (by walk_at "s") ?_ ?_ (fun ν ν=>rfl) ?_
 ·intro C a zs o _ x v1 X s υ9 S;obtain⟨o1,o2,rfl,_⟩:=υ9
  simp only[List.cons_append] at S
  obtain⟨t4,rfl⟩:=S.isInt (x:=x) (by walk_at "m")
  refine wpAny_assign_Name (S.st (by walk_at "c") fun s' S=>?_)
  exact S.ce (ca:=L'+1) (v:=v) rfl (by walk_at "m") ⟨_,⟨_,_,rfl,fun n e=>by cases e;exact⟨t4,rfl⟩⟩,by walk_at "m",S.sub (by walk_at "t")⟩
 ·intro C a zs x done y rest _ v1 X s ex υ12 S;obtain⟨o1,o2,rfl,ho⟩:=υ12
  obtain⟨t4,rfl⟩:=ho x rfl
  simp only[List.cons_append] at S
  refine wpAny_assign_Name (S.st (by walk_at "c") fun s' S=>?_)
  refine uF (wpAny_isTrue_Compare1 (t7 (S.nm (by walk_at "m") (S.jj fun t5 s' S=>?_))))
  refine iY (T:=bu c) (xs:=y) S (by walk_at "m") (S.BN (x:=y) (by walk_at "m") fun v2 s' S=>?_)
  obtain⟨t6,rfl⟩:=S.isInt (x:=y.1) (by walk_at "m")
  refine S.nm (by walk_at "m") (eq_int (wpAny_truthy_bool ?_))
  by_cases hb:y.1=x
  ·rw[show(y.1==x)=true from by simp[hb]]
   exact p7 (S.nm (by walk_at "m") ⟨_,y,by rw[List.filter_append];simp[hb],⟨_,_,rfl,fun n e=>by cases e;exact⟨t4,rfl⟩⟩,S.sub (by walk_at "t")⟩)
  ·rw[show(y.1==x)=false from by simp[hb]]
   exact tu ⟨_,by rw[List.filter_append];simp[hb],⟨_,_,rfl,fun n e=>by cases e;exact⟨t4,rfl⟩⟩,S.sub (by walk_at "t")⟩
 intro C a VC s' S
 simp only[List.nil_append] at S
 refine S.BZ (by walk_at "c") fun s' S=>?_
 have S:aa c L' _ (.ow (own a (ai (Ty.tup (bu c))) (orderOf told))::_) s':=S
 have holen:(orderOf told).length≤900:=Nat.le_trans (tL told) (Nat.mul_le_mul h1 h1)
 have homem:∀o∈orderOf told,o.2.2.2.2.2.2.length≤1∧0≤o.1:=fun o ho=>h2 o (sO ho)
 generalize orderOf told=order at*
 have S:=S.freeze .here
 refine wpAny_mono (Rt.back (p:=ar (Ty.tup (yk c)) (st.1,st.2.1)) (G:=.kn (is (Ty.list (Ty.tup (bu c))) (.ref a) order):: .kn (is (Ty.list (Ty.tup (bu c))) v told)::G) ?_ (E:=[un "number",loc "order" (ar (Ty.list (Ty.tup (bu c))) order),un "calls",un "ends",un "stack",un "path",un "entry",un "at",un "head",un "own",un "sums",un "under",eW (L'+1) (ar (Ty.list (Ty.tup (bu c))) told)])
  (.jf (X:=[.ow (own (L'+1) bB (some v))]) (S.sub (.own (.there .here) (.own (.there .here) .all))) (.u (.l (.u (.u (.u (.u (.u (.u (.u (.u (.u (.u (.ce .nil))))))))))))) (.kn (.tail _ (.head _)) (.ow (.kn (.tail _ (.tail _ (.head _))) .nil)))) hL) (fun ν ν S=>S.sub (.kn (.head _) (.drop (.drop (.drop .all))))) fun ν ν x=>x
 clear S src hr1 hr2
 refine .AF (Ty.tup fL) (Ty.tup (lW c)) ok'.hd (fun a b d=>⟨_,_,by walk_at "c",by walk_at "c",by walk_at "c"⟩) fun ca ea sa=>?_
 refine .cons (.forR (E':=[fa (.ow (own ca (ai (Ty.tup fL)) st.1)),fa (.ow (own ea (ai (Ty.tup (lW c))) st.2.1)),un "number",loc "order" (ar (Ty.list (Ty.tup (bu c))) order),loc "calls" (aD (.ref ca)),loc "ends" (aD (.ref ea)),loc "stack" (aD (.ref sa)),un "path",un "entry",un "at",un "head",un "own",un "sums",un "under",eW (L'+1) (ar (Ty.list (Ty.tup (bu c))) told)]) (x0:=(([],[],[]):RS)) ok'.hd (.list (.ce (ca:=L'+1) rfl (by walk_at "m")))
  (fun z:RS=>[fa (.ow (own ca (ai (Ty.tup fL)) z.1)),fa (.ow (own ea (ai (Ty.tup (lW c))) z.2.1)),gK c sa z.2.2,un "number",loc "order" (ar (Ty.list (Ty.tup (bu c))) order),loc "calls" (aD (.ref ca)),loc "ends" (aD (.ref ea)),loc "stack" (aD (.ref sa)),un "path",un "entry",un "at",un "head",un "own",un "sums",un "under",eW (L'+1) (ar (Ty.list (Ty.tup (bu c))) told)])
  (fun done z=>(∃rest,told=done++rest∧gE order rest z=some st)∧lJ z.2.2≤z.1.length∧z.2.2.length≤z.1.length∧z.1.length≤900∧z.2.1.length≤done.length) .all ⟨⟨told,rfl,hst⟩,Nat.zero_le _,Nat.zero_le _,Nat.zero_le _,Nat.zero_le _⟩ ?_ ?_) ?_
 ·intro done x rest υ3 ex υ5;obtain⟨calls,ends,stack⟩:=υ3;obtain⟨⟨rest',ex',hrun⟩,hw,hil,hcl,hel⟩:=υ5
  obtain rfl:rest'=x::rest:=List.append_cancel_left (ex'.symm.trans ex)
  refine aj (Option.bind_eq_some_iff.mp hrun) fun st1 hst1 hrun'=>?_
  refine aj (Option.bind_eq_some_iff.mp hst1) fun st0 hpush hpop=>?_
  have hx0:0≤x.1:=(h2 x (by rw[ex];simp)).2
  have hel2:ends.length≤30:=by
   have:done.length≤told.length:=by rw[ex];simp
   dsimp only at hel;exact id (ω198 hel (ω198 this h1))
  obtain⟨calls0,ends0,stack0⟩:=st0
  have hpop':=hpop
  unfold uQ at hpop'
  cases stack0 with
  |nil=>cases hpop'
  |cons top r=>
  obtain⟨h,f⟩:=top
  dsimp only at hpop'
  have hh:h=x.2.1:=by
   by_cases hh:h=x.2.1
   ·exact hh
   ·rw[if_neg hh] at hpop';cases hpop'
  rw[if_pos hh] at hpop'
  obtain rfl:=(Option.some.inj hpop').symm
  subst hh
  refine⟨_,(calls0,ends0++[(x.2.1,f)],bump f r),.tup ok'.hd (.cons (.cons .one)) (.cons (.nm (by walk_at "c")) (.cons (.nm (by walk_at "c")) (.cons (.nm (by walk_at "c")) .nil))),?_,?_⟩
  ·refine .cons (.while (k:=(x.1+1).toNat -calls.length) (x0:=((calls,ends,stack):RS)) (E':=[fa (.ow (own ca (ai (Ty.tup fL)) calls0)),fa (.ow (own ea (ai (Ty.tup (lW c))) ends0)),gK c sa ((x.2.1,f)::r),loc "number" (ar ao x.1),loc "order" (ar (Ty.list (Ty.tup (bu c))) order),loc "calls" (aD (.ref ca)),loc "ends" (aD (.ref ea)),loc "stack" (aD (.ref sa)),loc "path" (ar ah x.2.1),loc "entry" (ar (Ty.tup (bF c)) x.2.2),un "at",un "head",un "own",un "sums",un "under",eW (L'+1) (ar (Ty.list (Ty.tup (bu c))) told)])
    (fun z:RS=>[fa (.ow (own ca (ai (Ty.tup fL)) z.1)),fa (.ow (own ea (ai (Ty.tup (lW c))) z.2.1)),gK c sa z.2.2,loc "number" (ar ao x.1),loc "order" (ar (Ty.list (Ty.tup (bu c))) order),loc "calls" (aD (.ref ca)),loc "ends" (aD (.ref ea)),loc "stack" (aD (.ref sa)),loc "path" (ar ah x.2.1),loc "entry" (ar (Ty.tup (bF c)) x.2.2),un "at",un "head",un "own",un "sums",un "under",eW (L'+1) (ar (Ty.list (Ty.tup (bu c))) told)])
    (fun k z=>k=(x.1+1).toNat -z.1.length∧fF order k z=some (calls0,ends0,(x.2.1,f)::r)∧lJ z.2.2≤z.1.length∧z.2.2.length≤z.1.length∧z.1.length≤900) ⟨rfl,hpush,hw,hil,hcl⟩ ?_) ?_
   ·intro k υ1 υ2;obtain⟨cl,en,sk⟩:=υ1;obtain⟨rfl,hpu,w1,w2,w3⟩:=υ2
    refine⟨_,_,.cmp (.bR g (.cons (.nm (by walk_at "m")) .nil) (eg (T:=Ty.tup fL) (xs:=cl) oG (by dsimp only at w3;exact ω1 w3 rfl)) (by kernel_rfl) (by kernel_rfl) (by decide) (lK (by walk_at "m"))) (.nm (by walk_at "m")) zN,fun hb=>?_,fun hb=>?_⟩
    ·have hle:(cl.length:Int)≤x.1:=of_decide_eq_true hb
     obtain⟨k,hk⟩:∃k,(x.1+1).toNat -cl.length=k+1:=⟨(x.1+1).toNat -cl.length-1,by exact ω21 hb⟩
     have hpu':=hpu
     rw[show(x.1+1).toNat -((cl,en,sk):RS).1.length =k+1 from hk] at hpu'
     refine aj (Option.bind_eq_some_iff.mp hpu') fun z2 g1 g2=>?_
     refine kO (oU homem holen g1 w1 w2) fun a1 a2 a3 ν3 a5=>?_
     refine aj (Option.map_eq_some_iff.mp g1) fun o ho π32=>?_;rcases π32 with rfl
     refine⟨k,_,by dsimp only;exact ω25 hk,⟨by rw[a5];dsimp only;exact ω20 hk,g2,a1,a2,a3⟩,?_⟩
     dsimp only at w3 ho⊢
     refine .cons (.unpack (.sub (.nm (by walk_at "m")) (.bR g (.cons (.nm (by walk_at "m")) .nil) (eg (T:=Ty.tup fL) (xs:=cl) oG (by exact ω1 w3 rfl)) (by kernel_rfl) (by kernel_rfl) (by decide) (lK (by walk_at "m"))) (dz (T:=Ty.tup (bu c)) (xs:=order) (x:=o) atK (by exact ω19 cl.length) (by lia) (by simpa using ho))) (.tup ok'.hd (.cons (.cons .one)) (.cons (.nm (by walk_at "c")) (.cons (.nm (by walk_at "c")) (.cons (.nm (by walk_at "c")) .nil))))) ?_
     refine .cons (.yx (by walk_at "c") (fun items=>by walk_at "c") fun items hi=>.vz (.append (T:=Ty.tup fL) (xs:=cl) (y:=(o.2.1,sk.reverse.map (·.1))) (.nm (by walk_at "m")) (by walk_at "m") (.tup (.cons (.nm (by walk_at "m")) (.cons (.to (.e8 (.c9 (U:=ah) [] ok'.hd (fun C=>[un ".0",un "below",un "sums",vc c items]) (fun y:Item=>y.2.1) (fun ν=>true) (.Co (.nm (by walk_at "m")) (by walk_at "c")) (by walk_at "f") (fun C=>⟨[_,_,_],rfl⟩) (by exact fun C HB h=>.u (.u (.u h))) (fun C y hy=>?_) ?_)) ?_) .nil)) (.cons .one)) (by walk_at "c") (by exact ω1 w3 rfl)) (by walk_at "c") hi) ?_
     ·exact⟨_,_,.pair ok'.hd (by walk_at "m") (List.mem_reverse.mp hy) (.cons (.nm (by walk_at "c")) (.cons (.nm (by walk_at "c")) .nil)),.t0,fun ν=>.nm (by walk_at "m"),by walk_at "k"⟩
     ·dsimp only at w2;rw[List.length_reverse,←List.length_map (f:=(·.2)),hi];exact ω4 w2 w3 rfl
     ·rw[iw,←hi,←List.map_reverse,List.map_map];rfl
     exact .cons (.push (l:=sk) (h:=o.2.1) (f:=o.2.2) (.nm (by walk_at "m")) (.nm (by walk_at "m")) (by walk_at "c") (by dsimp only at w2;exact ω4 w2 w3 rfl) (.nm (by walk_at "m"))) (.end (by walk_at "k"))
    ·have hle:¬(cl.length:Int)≤x.1:=of_decide_eq_false hb
     have h0:(x.1+1).toNat -((cl,en,sk):RS).1.length =0:=by dsimp only;exact ω22 hb
     rw[h0] at hpu
     cases hpu
     exact .all
   refine j9 (eY homem holen hpush hw hil hcl) fun v1 v2 v3 ν3=>?_
   dsimp only at v1 v2 v3
   rw[List.length_cons] at v2
   have v5:lJ ((x.2.1,f)::r)=f.2.2.2.2.length+lJ r:=by simp[lJ]
   have v6:ends0.length≤30:=by rw[show ends0=ends from(eY homem holen hpush hw hil hcl).2.2.2];exact hel2
   refine .cons (.Bu ok'.hd (.nm (by walk_at "m")) (by walk_at "c") (.cons (.nm (by walk_at "c")) (.cons (.nm (by walk_at "c")) .nil)) (by exact ω239 v2 v3 rfl)) ?_
   refine .cons (.if (.cmp (.nm (by walk_at "m")) (.nm (by walk_at "m")) ni) (fun hb=>by simp at hb) (fun ν=>.nil)) ?_
   refine .cons (.append (T:=Ty.tup (lW c)) (xs:=ends0) (y:=(x.2.1,f)) (.nm (by walk_at "m")) (by walk_at "m") (.tup (.cons (.nm (by walk_at "m")) (.cons (.nm (by walk_at "m")) .nil)) (.cons .one)) (by walk_at "c") (by exact ω1 v6 rfl)) ?_
   cases r with
   |nil=>
    refine .cons (.if (.yG (.nm (by walk_at "m")) (by walk_at "m") (Ok.cl ok')) (fun hb=>by cases hb) (fun ν=>.nil)) (.end ?_)
    rw[show bump f []=[] from rfl]
    walk_at "k"
   |cons top2 r2=>
    obtain⟨hd2,f2⟩:=top2
    have v7:lJ ((hd2,f2)::r2)=f2.2.2.2.2.length+lJ r2:=by simp[lJ]
    rw[List.length_cons] at v2
    refine .cons (E1:=[fa (.ow (own ca (ai (Ty.tup fL)) calls0)),fa (.ow (own ea (ai (Ty.tup (lW c))) (ends0++[(x.2.1,f)]))),gK c sa ((hd2,fP f2 f)::r2),loc "number" (ar ao x.1),loc "order" (ar (Ty.list (Ty.tup (bu c))) order),loc "calls" (aD (.ref ca)),loc "ends" (aD (.ref ea)),loc "stack" (aD (.ref sa)),loc "path" (ar ah x.2.1),loc "entry" (ar (Ty.tup (bF c)) x.2.2),un "at",loc "head" (ar ah x.2.1),un "own",loc "sums" (ar (Ty.tup (bF c)) f),un "under",eW (L'+1) (ar (Ty.list (Ty.tup (bu c))) told)])
     (.if (.yG (.nm (by walk_at "m")) (by walk_at "m") (Ok.cl ok')) (fun ν=>.yx (by walk_at "c") (fun items=>by walk_at "c") fun items hi=>?_) (fun hb=>by cases hb)) (.end (by rw[show bump f ((hd2,f2)::r2)=(hd2,fP f2 f)::r2 from rfl];walk_at "k"))
    cases items with
    |nil=>cases hi
    |cons i its=>
    obtain⟨b2,i2⟩:=i
    obtain⟨e1,e2⟩:=List.cons.inj hi
    dsimp only at e1
    subst e1
    have hits:its.length≤900:=by rw[←List.length_map (f:=(·.2)),e2];exact ω196 v3 v2 rfl
    exact .vz (items:=(b2,hd2,fP f2 f)::its) (E1:=[fa (.ow (own ca (ai (Ty.tup fL)) calls0)),fa (.ow (own ea (ai (Ty.tup (lW c))) (ends0++[(x.2.1,f)]))),lV c sa ((b2,hd2,fP f2 f)::its),loc "number" (ar ao x.1),loc "order" (ar (Ty.list (Ty.tup (bu c))) order),loc "calls" (aD (.ref ca)),loc "ends" (aD (.ref ea)),loc "stack" (aD (.ref sa)),loc "path" (ar ah x.2.1),loc "entry" (ar (Ty.tup (bF c)) x.2.2),un "at",loc "head" (ar ah x.2.1),un "own",loc "sums" (ar (Ty.tup (bF c)) f),un "under",eW (L'+1) (ar (Ty.list (Ty.tup (bu c))) told)])
     (.cons (.nH (aD (.ref b2)) (.top (i:=(b2,hd2,f2)) (.nm (by walk_at "m")) (by walk_at "m") hits) (by walk_at "c"))
       (.cons (.BJ (.dU g (.cons (.A2 (i:=(b2,hd2,f2)) (.nm (by walk_at "m")) (by walk_at "m") (.head _)) (.cons (.nm (by walk_at "m")) .nil)) (dP g (n:=n) (ok'.le (ω250 rfl)) (x:=f2) (y:=f) (by lia) (by lia)) (by kernel_rfl) rfl) (.nm (by walk_at "m")) (by walk_at "c")) (.end (by walk_at "k")))) (by walk_at "c") (by rw[List.map_cons,e2])
  ·refine j9 (eY homem holen hpush hw hil hcl) fun v1 v2 v3 v4=>?_
   dsimp only at v1 v2 v3 v4 hel⊢
   refine⟨⟨rest,by rw[ex];simp,hrun'⟩,?_,?_,v3,by rw[v4];simp;exact hel⟩
   ·cases r with
    |nil=>exact Nat.zero_le _
    |cons top2 r2=>
     obtain⟨hd2,f2⟩:=top2
     have e1:lJ (bump f ((hd2,f2)::r2))=(fP f2 f).2.2.2.2.length +lJ r2:=by simp[lJ,bump]
     have e2:(fP f2 f).2.2.2.2.length≤f2.2.2.2.2.length+f.2.2.2.2.length:=qi _ _
     have e3:lJ ((x.2.1,f)::(hd2,f2)::r2)=f.2.2.2.2.length+(f2.2.2.2.2.length+lJ r2):=by simp[lJ]
     exact id (ω111 v1 e1 e2 e3)
   ·cases r with
    |nil=>exact Nat.zero_le _
    |cons top2 r2=>simp[bump] at v2⊢;exact ω88 v2
 ·intro υ0 υ1;obtain⟨calls,ends,stack⟩:=υ0;obtain⟨⟨rest',ex',hrun⟩,hw,hil,hcl,hel⟩:=υ1
  obtain rfl:rest'=[]:=List.append_cancel_left (ex'.symm.trans (List.append_nil _).symm)
  cases hrun
  exact .same (.same (.AY .all))
 refine .pre (fun F s hs=>(hs.e8 (y:="calls") (by walk_at "c") (by walk_at "c") (by walk_at "m")).e8 (y:="ends") (by walk_at "c") (by walk_at "c") (by walk_at "m")) ?_
 exact .ret (.tup (.cons (.nm (by walk_at "m")) (.cons (.nm (by walk_at "m")) .nil)) (.cons .one))
end
end Mine
namespace Mine
section
variable{c:Cx}{A:Around}{L:Addr}{V V':ay}{G R:List Fa}{s:Shared}{env:Env}{t u:Tok}
theorem xS{b:Bool}{p q:Prop}(h:b=false)(k:q):if b=true then p else q:=by subst h;exact k
noncomputable def d8(x y:Tx):Bool:=Txt.contains (tx x) (tx y)
theorem zY{x y:Tx}{Q:Value→Shared→Prop}(h:Q (.bool (d8 x y)) s):Wp c A (compareOp .In (.str (tx y) u) (.str (tx x) t)) Q s:=P.in_str h
noncomputable def iz(x:Tx):Tx:=if d8 x [38]=true then dR x [38] bP else x
noncomputable def bD(x:Tx):Tx:=if d8 (iz x) [60]=true then dR (iz x) [60] iI else iz x
theorem qj{n:Nat}{v:Value}{x:Tx}{Q:Value→Shared→Prop}(g:cg c)(S:aa c L V G s)(ok:Ok A (n+2))(hm: .kn (is ah v x)∈G)(h1:x.length≤10000)(h2:(iz x).length≤10000)
 (n1:d8 (bD x) [34]=false) (n2:d8 (bD x) [9]=false) (n3:d8 (bD x) [10]=false) (n4:d8 (bD x) [13]=false)
 (hQ:∀t s',aa c L V G s'→Q (.str (tx (bD x)) t) s'):Wp c A (call (.ref 168) [v]) Q s:=by
 have hL:=S.above
 have htk:=g.tk
 have S:=S.sub (.kn hm .all)
 obtain⟨t0,rfl⟩:=S.isStr (x:=x) (by walk_at "m")
 refine b9 (args:=⟨[.str (tx x) t0],[]⟩) (binds:=[("text",.str (tx x) t0)]) (V':=[("text",some (.str (tx x) t0))]) (C:=fun ν=>[]) g S ok rfl (.of_eq (by kernel_rfl)) (by kernel_rfl) (by decide+kernel) (by kernel_rfl) (by kernel_rfl) (fun ν=>by kernel_rfl) ?_
 intro L' s' S ok'
 have S:=S.sub (G':=.ow (own L bC V)::G) (by walk_at "s")
 refine wpAny_execs_cons (wpAny_Try_except (jq ?_))
 refine join (fun s'=>∃t,aa c L' ([("text",some (.str (tx (iz x)) t))]:ay) (.ow (own L bC V)::G) s') (wpAny_If (wpAny_isTrue_Compare1 (S.g5 fun s' S ν=>S.nm (by walk_at "m") (zY (y:=[38]) (wpAny_truthy_bool ?_))))) ?_
 ·cases hb:d8 x [38] with
  |false=>exact tu (wpAny_execs_nil ⟨rfl,t0,by unfold iz;rw[hb];exact S⟩)
  |true=>
   refine p7 (wpAny_execs_cons (wpAny_Assign_Name (f9 (S.nm (by walk_at "m") ⟨_,_,dZ,ofStr,spliced_more (S.g5 fun s1 S1 e1=>spliced_more (S1.g5 fun s2 S2 e2=>spliced_none ?_))⟩))))
   have k1:=S.tk
   refine S2.kQ (y:=[38]) (z:=bP) (by show s'.toks≠0;exact id (ω216 htk k1)) (by show s1.toks≠0;exact id (ω217 e1)) (by show s'.toks≠s1.toks;exact id (ω218 e1)) (by decide) (by simp[bP];lia) fun t1 s3 S=>S.st (by walk_at "c") fun s' S=>wpAny_execs_nil ⟨rfl,t1,?_⟩
   unfold iz;rw[hb];exact S
 intro s' υ1;obtain⟨t1,S⟩:=υ1
 refine join (fun s'=>∃t,aa c L' ([("text",some (.str (tx (bD x)) t))]:ay) (.ow (own L bC V)::G) s') (wpAny_If (wpAny_isTrue_Compare1 (S.g5 fun s' S ν=>S.nm (by walk_at "m") (zY (y:=[60]) (wpAny_truthy_bool ?_))))) ?_
 ·cases hb:d8 (iz x) [60] with
  |false=>exact tu (wpAny_execs_nil ⟨rfl,t1,by unfold bD;rw[hb];exact S⟩)
  |true=>
   refine p7 (wpAny_execs_cons (wpAny_Assign_Name (f9 (S.nm (by walk_at "m") ⟨_,_,dZ,ofStr,spliced_more (S.g5 fun s1 S1 e1=>spliced_more (S1.g5 fun s2 S2 e2=>spliced_none ?_))⟩))))
   have k1:=S.tk
   refine S2.kQ (y:=[60]) (z:=iI) (by show s'.toks≠0;exact id (ω216 htk k1)) (by show s1.toks≠0;exact id (ω217 e1)) (by show s'.toks≠s1.toks;exact id (ω218 e1)) (by decide) (by simp[iI];lia) fun t2 s3 S=>S.st (by walk_at "c") fun s' S=>wpAny_execs_nil ⟨rfl,t2,?_⟩
   unfold bD;rw[hb];exact S
 intro s' υ1;obtain⟨t2,S⟩:=υ1
 refine wpAny_execs_cons (wpAny_If (wpAny_isTrue_Compare1 (S.g5 fun s' S ν=>S.nm (by walk_at "m") (zY (y:=[34]) (wpAny_truthy_bool (xS n1 (wpAny_execs_nil ?_)))))))
 refine wpAny_execs_cons (wpAny_If (wpAny_isTrue_Compare1 (S.g5 fun s' S ν=>S.nm (by walk_at "m") (zY (y:=[9]) (wpAny_truthy_bool (xS n2 (wpAny_execs_nil ?_)))))))
 refine wpAny_execs_cons (wpAny_If (wpAny_isTrue_Compare1 (S.g5 fun s' S ν=>S.nm (by walk_at "m") (zY (y:=[10]) (wpAny_truthy_bool (xS n3 (wpAny_execs_nil ?_)))))))
 refine wpAny_execs_cons (wpAny_If (wpAny_isTrue_Compare1 (S.g5 fun s' S ν=>S.nm (by walk_at "m") (zY (y:=[13]) (wpAny_truthy_bool (xS n4 (wpAny_execs_nil ?_)))))))
 exact wpAny_execs_cons (wpAny_Return_some (S.nm (by walk_at "m") (hQ _ _ (S.back .here hL))))
end
end Mine
namespace Mine
section
variable{c:Cx}{A:Around}{L:Addr}{V V':ay}{G R:List Fa}{s:Shared}{env:Env}{t u:Tok}
theorem z6{Q:Bool→Shared→Prop}(h:Q false s):Wp c A (truthy .none) Q s:=fun ν ν ν=>h
noncomputable def attrsOf(wv:Value)(da ds ns pm ps:Addr)(t:Tok):bU:=
 [("_write",wv),("_data",.ref da),("_with_comments",.bool false),("_strip_text",.bool false),("_exclude_attrs",.none),("_exclude_tags",.none),("_rewrite_prefixes",.bool true),("_qname_aware_tags",.none),("_find_qname_aware_attrs",.none),
  ("_declared_ns_stack",.ref ds),("_ns_stack",.ref ns),("_prefix_map",.ref pm),("_preserve_space",.ref ps),("_pending_start",.none),("_root_seen",.bool false),("_root_done",.bool false),("_ignored_depth",.int 0 t)]
noncomputable def eu:Ty Bool:=⟨fun ν v b=>v= .bool b,fun ν r=>r⟩
noncomputable def cj:Tx:=(Str.ofString "http://www.w3.org/XML/1998/namespace").cps.toList
noncomputable def cF:Tx:=[120,109,108]
end
end Mine
namespace Mine
section
variable{c:Cx}{A:Around}{L:Addr}{V V':ay}{G R:List Fa}{s:Shared}{env:Env}{t u:Tok}
noncomputable def bz(i:Nat):Tx:=110::bZ i
noncomputable def ak(us:List Tx):List (Tx×Tx):=us.zipIdx.map fun p=>(p.1,bz p.2)
noncomputable def aW(us:List Tx)(u:Tx):List Tx:=if u∈us then us else us++[u]
noncomputable abbrev zX:Row (Tx×Tx×Tx):=.cons ah (.cons ah (.one ah))
noncomputable def jJ(us:List Tx)(uri tag:Tx):Tx×Tx×Tx:=(bz ((aW us uri).idxOf uri)++[58]++tag,tag,uri)
theorem BA{o i:Expr}{pos:Pos}{v:Value}{Q:Unit→Shared→Prop}(h:Wp c A (eval o env) (fun ov s₂=>Wp c A (eval i env) (fun iv s₃=>Wp c A (setItem ov iv v) Q s₃) s₂) s):Wp c A (assign (.Subscript o i pos) env v) Q s:=by
 refine wpAny_bind (wpAny_holding (wpAny_mono h (fun ov s2 h2=>?_) fun ν ν x=>x))
 refine wpAny_bind (wpAny_holding (wpAny_mono h2 (fun iv s3 h3=>?_) fun ν ν x=>x))
 refine wpAny_bind (wpAny_standAt (wpAny_bind (wpAny_holding (wpAny_mono h3 (fun ν s4 h4=>?_) fun ν ν x=>x))))
 exact wpAny_release h4
theorem aa.AQ{β:Type}{T:Ty β}{v:Value}{xs:List (Tx×β)}{Q:Value→Shared→Prop}(S:aa c L V G s)(hm:At G v (aK c T) xs)(hsz:xs.length≤1000000)(h:∀t s',aa c L V G s'→Q (.int xs.length t) s'):Wp c A (call (.builtin "len") [v]) Q s:=by
 refine tD (S.mY hm) fun a o kvs π93 hn e hD hl S'=>?_;rcases π93 with rfl
 refine call_len_dict hn (aM hD e) (by rw[hl];exact ω15 hsz rfl) ?_
 rw[hl]
 exact h _ _ (S.toks (ht:=by lia))
theorem nh{us:List Tx}{i:Nat}:(ak us)[i]?=us[i]?.map fun u=>(u,bz i):=by
 unfold ak
 rw[List.getElem?_map,List.getElem?_zipIdx]
 cases us[i]? <;> simp
theorem aT{us:List Tx}:(ak us).length =us.length:=by simp[ak]
theorem mz{us:List Tx}{u:Tx}:∀{i:Nat},us[i]?=some u→(∀j,j<i→us[j]?≠some u)→us.idxOf u=i:=by
 induction us with
 |nil=>intro i h;cases h
 |cons a r ih=>
  intro i h hn
  rw[List.idxOf_cons]
  cases i with
  |zero=>cases h;simp
  |succ i=>
   have ha:(a==u)=false:=by
    rw[beq_eq_false_iff_ne]
    intro q
    exact hn 0 (Nat.succ_pos _) (by rw[q];rfl)
   rw[ha,cond_false,ih (i:=i) h fun j hj=>hn (j+1) (Nat.succ_lt_succ hj)]
theorem kB{us:List Tx}{done rest:List (Tx×Tx)}{u p:Tx}(e:ak us++[(cj,cF)]=done++(u,p)::rest)(h4:u≠cj)(hne:∀q∈done,q.1≠u):
 (u,p)∈ak us∧aW us u=us∧us.idxOf u=done.length∧p=bz done.length∧∃r',ak us=done++(u,p)::r':=by
 have h1:(ak us++[(cj,cF)])[done.length]?=some (u,p):=by rw[e];simp
 have hlt:done.length<us.length:=by
  rcases Nat.lt_or_ge done.length us.length with h|h
  ·exact h
  ·rw[List.getElem?_append_right (by rw[aT];exact h)] at h1
   rcases Nat.eq_zero_or_pos (done.length-(ak us).length) with q|q
   ·rw[q] at h1;cases h1;exact absurd rfl h4
   ·rw[List.getElem?_eq_none (by simp only[List.length_singleton];exact q)] at h1;cases h1
 rw[List.getElem?_append_left (by rw[aT];exact hlt)] at h1
 have hm:=List.mem_of_getElem? h1
 have h1':=h1
 rw[nh,List.getElem?_eq_getElem hlt,Option.map_some,Option.some.injEq,Prod.mk.injEq] at h1
 obtain⟨e1,e2⟩:=h1
 have hu:us[done.length]?=some u:=by rw[List.getElem?_eq_getElem hlt,e1]
 have hpre:ak us=done++(ak us).drop done.length:=by
  have:=congrArg (List.take done.length) e
  rw[List.take_append_of_le_length (by rw[aT];exact ω210 hlt),List.take_left'] at this
  ·rw[←this,List.length_take,aT,Nat.min_eq_left (Nat.le_of_lt hlt),List.take_append_drop]
  ·rfl
 refine⟨hm,if_pos (List.mem_of_getElem? hu),mz hu fun j hj q=>?_,e2.symm,?_⟩
 ·have hd:done[j]?=(ak us)[j]?:=by
   rw[hpre,List.getElem?_append_left hj]
  rw[nh,q,Option.map_some] at hd
  exact hne _ (List.mem_of_getElem? hd) rfl
 ·have hl2:done.length<(ak us).length:=by rw[aT];exact hlt
  refine⟨(ak us).drop (done.length+1),?_⟩
  have h3:(ak us)[done.length]=(u,p):=by
   have:=List.getElem?_eq_getElem hl2
   rw[h1'] at this;exact(Option.some.inj this).symm
  rw[←h3,←List.drop_eq_getElem_cons hl2];exact hpre
theorem t9{us:List Tx}{u:Tx}(h:∀q∈ak us++[(cj,cF)],q.1≠u):u∉us∧at' (ak us) u=none∧aW us u=us++[u]∧(us++[u]).idxOf u=us.length∧put (ak us) u (bz us.length)=ak (us++[u])∧ak (us++[u])=ak us++[(u,bz us.length)]:=by
 have hn:u∉us:=by
  intro hm
  obtain⟨i,hi⟩:=List.getElem?_of_mem hm
  have h2:(ak us)[i]?=some (u,bz i):=by rw[nh,hi];rfl
  exact h _ (List.mem_append_left _ (List.mem_of_getElem? h2)) rfl
 have h3:(ak us).find? (fun p=>decide (p.1=u))=none:=by
  rw[List.find?_eq_none]
  intro q hq
  have:=h q (List.mem_append_left _ hq)
  simpa using this
 have h4:(ak us).any (fun p=>decide (p.1=u))=false:=by
  rw[List.any_eq_false]
  intro q hq
  have:=h q (List.mem_append_left _ hq)
  simpa using this
 have h5:ak (us++[u])=ak us++[(u,bz us.length)]:=by
  unfold ak
  rw[List.zipIdx_append,List.map_append];simp
 refine⟨hn,?_,if_neg hn,?_,?_,h5⟩
 ·unfold at';rw[h3];rfl
 ·exact mz (by simp) fun j hj q=>by
   rw[List.getElem?_append_left hj] at q
   exact hn (List.mem_of_getElem? q)
 ·unfold put;rw[h4,h5];rfl
theorem fX{n:Int}(h0:0≤n)(h:n<10^10):(bZ n).length≤10:=by
 have:=toString_length_le h0 (k:=10) (by decide) h
 exact this
theorem bV{i:Nat}(h:i≤1000):(bz i).length≤11:=by
 have:=fX (n:=(i:Int)) (by exact ω19 i) (by exact ω15 h rfl)
 show(bZ i).length +1≤11
 lia
theorem aa.Ck{x:Tx}{Q:Bool→Shared→Prop}(S:aa c L V G s)(h0:x≠[])(hsz:x.length≤1000000)(h:∀s',aa c L V G s'→Q true s'):Wp c A (truthy (.str (tx x) t)) Q s:=by
 refine P.truthy_str (by rw[aq];exact ω221 hsz rfl) ?_
 have:x.length≠0:=fun q=>h0 (List.length_eq_zero_iff.mp q)
 rw[show(((tx x).length :Int) !=0)=true from by rw[aq];simpa using this]
 exact h _ (S.toks (ht:=by lia))
end
end Mine
namespace Mine
section
variable{c:Cx}{A:Around}{L:Addr}{V V':ay}{G R:List Fa}{s:Shared}{env:Env}{t u:Tok}
noncomputable def br(uriOf tlOf:Tx→Tx):List Tx→List Tx→List (Tx×(Tx×Tx×Tx))
 |_,[]=>[]
 |us,q::r=>(q,jJ us (uriOf q) (tlOf q))::br uriOf tlOf (aW us (uriOf q)) r
noncomputable def bw(uriOf:Tx→Tx):List Tx→List Tx→List Tx
 |us,[]=>us
 |us,q::r=>bw uriOf (aW us (uriOf q)) r
theorem fV{us:List Tx}{u:Tx}:(aW us u).length≤us.length+1:=by unfold aW;split <;> simp
theorem iD{uriOf:Tx→Tx}:∀{l us:List Tx},(bw uriOf us l).length≤us.length+l.length
 | [],us=>Nat.le_refl _
 |q::r,us=>by
  have h1:=iD (uriOf:=uriOf) (l:=r) (us:=aW us (uriOf q))
  have h2:=fV (us:=us) (u:=uriOf q)
  exact ω72 h1 h2
theorem mS{uriOf:Tx→Tx}{x:Tx}:∀{l us:List Tx},bw uriOf us (l++[x])=aW (bw uriOf us l) (uriOf x)
 | [],us=>rfl
 |q::r,us=>mS (l:=r) (us:=aW us (uriOf q))
theorem jy{uriOf tlOf:Tx→Tx}{x:Tx}:∀{l us:List Tx},br uriOf tlOf us (l++[x])=br uriOf tlOf us l++[(x,jJ (bw uriOf us l) (uriOf x) (tlOf x))]
 | [],us=>rfl
 |q::r,us=>congrArg (_:: ·) (jy (l:=r) (us:=aW us (uriOf q)))
theorem fY{uriOf tlOf:Tx→Tx}:∀{l us:List Tx},(br uriOf tlOf us l).map (·.1)=l
 | [],us=>rfl
 |q::r,us=>congrArg (q:: ·) (fY (l:=r) (us:=aW us (uriOf q)))
theorem q8{uriOf tlOf:Tx→Tx}{l us:List Tx}:(br uriOf tlOf us l).length =l.length:=by
 have:=congrArg List.length (fY (uriOf:=uriOf) (tlOf:=tlOf) (l:=l) (us:=us))
 rwa [List.length_map] at this
theorem nY{β:Type}{xs:List (Tx×β)}{k:Tx}{y:β}(h:k∉xs.map (·.1)):put xs k y=xs++[(k,y)]:=by
 unfold put
 have:xs.any (fun p=>decide (p.1=k))=false:=by
  rw[List.any_eq_false]
  intro p hp
  simpa using fun e:p.1=k=>h (List.mem_map.mpr ⟨p,hp,e⟩)
 rw[this];rfl
structure wA(q uri tl:Tx)(kf:Tx×Tx):Prop where
 b:cut q none (some 1)=[123]
 sp:cK (cut q (some 1) none) [125]=[uri,tl]
 len:q.length≤1000
 ux:uri≠cj
 u0:uri≠[]
 ul:uri.length≤100
 tl:tl.length≤100
 key:gz q [125]=[kf.1,kf.2]
structure rL(v:Tx):Prop where
 len:v.length≤1000
 e1:(iz v).length≤2000
 e2:(bD v).length≤2000
 n1:d8 (bD v) [34]=false
 n2:d8 (bD v) [9]=false
 n3:d8 (bD v) [10]=false
 n4:d8 (bD v) [13]=false
noncomputable def nt:Tx:=(Str.ofString "{http://www.w3.org/XML/1998/namespace}space").cps.toList
noncomputable def cG:Tx:=[120,109,108,110,115,58]
structure jC(tag:Tx)(attrs:List (Tx×Tx))(uriOf tlOf:Tx→Tx)(kf:Tx→Tx×Tx)(N:List Tx)(DL AT:List (Tx×Tx)):Prop where
 nd:(tag::attrs.map (·.1)).Nodup
 lo:2≤attrs.length
 hi:attrs.length≤20
 each:∀q∈tag::attrs.map (·.1),wA q (uriOf q) (tlOf q) (kf q)
 inj:∀x∈tag::attrs.map (·.1),∀y∈tag::attrs.map (·.1),kf x=kf y→x=y
 perm:N.Perm (tag::attrs.map (·.1))
 srt:N.Pairwise fun x y=>bJ (kf x) (kf y)=true
 us2:2≤(bw uriOf [] N).length
 dpw:∀us:List Tx,us.length≤100→(ak us).Pairwise fun p r=>p.2≠r.2
 dp:DL.Perm ((ak (bw uriOf [] N)).map fun p=>(cG++p.2,p.1))
 ds:DL.Pairwise fun x y=>bJ x y=true
 ap:AT.Perm attrs
 as:AT.Pairwise fun x y=>bJ x y=true
 esc:∀p∈DL++AT,rL p.2
 space:at' attrs nt=none
noncomputable def iG(uriOf tlOf:Tx→Tx)(N:List Tx)(k:Tx):Tx:=((at' (br uriOf tlOf [] N) k).getD default).1
noncomputable def bf(p:Tx×Tx):Tx:=[]++[32]++p.1++[61,34]++bD p.2++[34]
noncomputable def toldOf(tag:Tx)(uriOf tlOf:Tx→Tx)(N:List Tx)(DL AT:List (Tx×Tx)):List Tx:=
 [[60]++iG uriOf tlOf N tag,cE [] ((DL++AT.map fun p=>(iG uriOf tlOf N p.1,p.2)).map bf),[62]]
theorem jT{α β:Type}{f:α→β}:∀{l:List α},l.Nodup→(∀x∈l,∀y∈l,f x=f y→x=y)→(l.map f).Nodup
 | [],_,_=>.nil
 |a::l,h,hi=>by
  have h1:=List.nodup_cons.mp h
  refine List.nodup_cons.mpr ⟨fun hm=>?_,jT h1.2 fun x hx y hy e=>hi x (.tail _ hx) y (.tail _ hy) e⟩
  refine aj (List.mem_map.mp hm) fun b hb e=>?_
  exact h1.1 (hi a (.head _) b (.tail _ hb) e.symm▸hb)
theorem jU{α:Type}{l:List α}(h:0<l.length):(!l.isEmpty)=true:=by cases l with |nil=>exact absurd h (Nat.lt_irrefl _)|cons=>rfl
theorem iJ{uriOf tlOf:Tx→Tx}{k:Tx}:∀{l us:List Tx},k∈l→∃us',us'.length≤us.length+l.length∧at' (br uriOf tlOf us l) k=some (jJ us' (uriOf k) (tlOf k))
 | [],_,h=>nomatch h
 |q::r,us,h=>by
  by_cases e:q=k
  ·subst e
   exact⟨us,by simp,by unfold at' br;rw[List.find?_cons];simp⟩
  ·refine aj (iJ (uriOf:=uriOf) (tlOf:=tlOf) (l:=r) (us:=aW us (uriOf q)) (by
    rcases List.mem_cons.mp h with h|h
    ·exact absurd h.symm e
    ·exact h)) fun us' h1 h2=>?_
   refine⟨us',?_,?_⟩
   ·have:=fV (us:=us) (u:=uriOf q)
    exact id (ω72 h1 this)
   ·unfold at' br
    rw[List.find?_cons]
    simp only[e,decide_false]
    exact h2
theorem rR{us:List Tx}(h:us.length≤100):∀p∈ak us,p.2≠[]∧p.2.length≤1000:=by
 intro p hp
 refine aj (List.mem_map.mp hp) fun q hq π32=>?_;rcases π32 with rfl
 have hi:q.2<us.length:=by
  have:=List.mem_zipIdx hq
  exact id (ω113 this)
 exact⟨(fun e=>nomatch e),by have:=bV (i:=q.2) (by exact ω5 hi h rfl);show(bz q.2).length≤1000;exact ω1 this rfl⟩
end
end Mine
namespace Mine
section
variable{c:Cx}{A:Around}{L:Addr}{V V':ay}{G R:List Fa}{s:Shared}{env:Env}{t u:Tok}
theorem AD{e:Expr}{id:Str}{p pos kp:Pos}{f:Addr}{kn:Str}{ke:Expr}{Q:Value→Shared→Prop}(g:cg c)(S:aa c L V G s)
 (hid:nsIn (aO c) mainGlobals id=some (some (.ref f))) (hkp:keepIn (aO c) (.ref f)=true)
 (h:Wp c A (eval e env) (fun v s₂=>Wp c A (eval ke env) (fun k s₃=>(∃L V G,aa c L V G s₃)∧Wp c A (call (.ref f) [v] [(kn,k)]) Q s₃) s₂) s)
 (he:autoParam (starEach [e] env=(false,eval e env)::starEach [] env) af) (hg:autoParam (env.globals=mainGlobals) af) (hk:autoParam (env.scope.kind= .function) af)
 (hx:autoParam (env.kindOf id=some .globalImplicit) b7) (hd:autoParam ((id==("__debug__":Str))=false) b7):Wp c A (eval (.Call (.Name id p) [e] [⟨some kn,ke,kp⟩] pos) env) Q s:=by
 show Wp c A (eval (.Name id p) env>>=fun f=>callWith pos f [] (backTo pos (starEach [e] env)) (backToKw pos (keywordEach [⟨some kn,ke,kp⟩] env))) Q s
 refine wpAny_bind (S.gl g hid ?_ hg hk hx hd)
 refine callWith_of (P:=fun h=>(aO c).In h) (by rw[he];rfl) (keeps_K hkp) ?_
 rw[he]
 refine evalArgs_kwB rfl ?_
 refine Calls.spliced_cons (wpAny_mono h (fun v s₂ h₂=>?_) fun ν ν x=>x)
 refine Calls.spliced_nil (kws_cons (wpAny_mono h₂ (fun k s₃ h₃=>?_) fun ν ν x=>x))
 obtain⟨⟨_,_,_,S3⟩,h₃⟩:=h₃
 exact kws_nil ⟨g.oK S3,h₃⟩
noncomputable def fU:bk:=(0,0,0,0,[])
noncomputable def entryOf(p:cO):bk:=(if ic p.1=true then 1 else 0,1,p.2.1,p.2.2,[(aV p.1,1)])
noncomputable def iM(T:List (Tx×bk))(p:cO):List (Tx×bk):=put T p.1 (fP ((at' T p.1).getD fU) (entryOf p))
noncomputable def tableOf(ss:List cO):List (Tx×bk):=ss.foldl iM []
noncomputable def d9(f:bk):pH:=(f.1,f.2.1,f.2.2.1,f.2.2.2.1,(f.2.2.2.2.map (·.2)).sum)
noncomputable def o8(f:bk):Tx:=cE [32] (fS (d9 f))
noncomputable def aL(p l:Tx):Tx:=[123]++p++(125::l)
theorem vJ{p r l:Tx}(h:aL p l=aL r l):p=r:=by
 unfold aL at h
 exact List.append_cancel_left (List.append_cancel_right h)
theorem sH{vs:List Value}{B:Mem}{x:pH}(hl:vs.length=yq.n)(h:AllP (yq.facts vs x) B):az (ao.rel B) vs [x.1,x.2.1,x.2.2.1,x.2.2.2.1,x.2.2.2.2]:=by
 refine zE (rg hl) fun a b d e ff π65=>?_;rcases π65 with rfl
 refine xQ h fun h1 h2 h3 h4 h5 ν5=>?_;try clear h
 exact .cons h1 (.cons h2 (.cons h3 (.cons h4 (.cons h5 .nil))))
theorem join_le{l:List Tx}{b:Nat}(h:∀y∈l,y.length≤b):(cE [] l).length≤l.length*b:=by
 have h1:=StrLaws.join_length_le (tx []) (l.map tx)
 have h2:((l.map tx).map (·.length)).sum≤l.length*b:=by
  clear h1
  induction l with
  |nil=>exact Nat.zero_le _
  |cons a r ih=>
   have h3:=ih fun y hy=>h y (.tail _ hy)
   have h4:=h a (.head _)
   dsimp only[List.map_cons,List.sum_cons,List.length_cons,aq] at h3⊢
   rw[Nat.succ_mul];exact id (ω71 h3 h4)
 have h5:(tx ([]:Tx)).length =0:=rfl
 rw[h5,Nat.mul_zero,Nat.add_zero] at h1
 have h6:(cE [] l).length =(Str.join (tx []) (l.map tx)).length:=by
  unfold cE Txt.join
  rw[StrLaws.glued_eq_join];rfl
 rw[h6]
 exact Nat.le_trans h1 h2
theorem rW{tag:Tx}{attrs:List (Tx×Tx)}{uriOf tlOf:Tx→Tx}{kf:Tx→Tx×Tx}{N:List Tx}{DL AT:List (Tx×Tx)}(hT:jC tag attrs uriOf tlOf kf N DL AT){k:Tx}(hk:k∈tag::attrs.map (·.1)):(iG uriOf tlOf N k).length≤200:=by
 refine aj (iJ (uriOf:=uriOf) (tlOf:=tlOf) (us:=[]) (hT.perm.mem_iff.mpr hk)) fun us' h1 h2=>?_
 unfold iG
 rw[h2]
 have h3:=(hT.each k hk).tl
 have hNl:N.length=attrs.length+1:=by rw[hT.perm.length_eq,List.length_cons,List.length_map]
 have hhi:=hT.hi
 simp only[List.length_nil] at h1
 have h4:=bV (i:=(aW us' (uriOf k)).idxOf (uriOf k)) (ω127 h1 hNl hhi List.idxOf_le_length fV rfl)
 show(bz ((aW us' (uriOf k)).idxOf (uriOf k))++[58]++tlOf k).length≤200
 simp only[List.length_append,List.length_cons,List.length_nil]
 exact ω136 h3 h4 rfl
theorem vo{tag:Tx}{attrs:List (Tx×Tx)}{uriOf tlOf:Tx→Tx}{kf:Tx→Tx×Tx}{N:List Tx}{DL AT:List (Tx×Tx)}(hT:jC tag attrs uriOf tlOf kf N DL AT):∀y∈toldOf tag uriOf tlOf N DL AT,y.length≤100000:=by
 intro y hy
 have hNl:N.length=attrs.length+1:=by rw[hT.perm.length_eq,List.length_cons,List.length_map]
 have hhi:=hT.hi
 have hul:(bw uriOf [] N).length≤21:=by
  have h1:=iD (uriOf:=uriOf) (l:=N) (us:=[])
  simp only[List.length_nil] at h1
  exact ω248 h1 hNl hhi
 unfold toldOf at hy
 simp only[List.mem_cons,List.not_mem_nil,or_false] at hy
 rcases hy with rfl|rfl|rfl
 ·have:=rW hT (k:=tag) (.head _)
  simp only[List.length_append,List.length_cons,List.length_nil];exact ω10 this rfl
 ·have hb:∀z∈(DL++AT.map fun p=>(iG uriOf tlOf N p.1,p.2)).map bf,z.length≤2300:=by
   intro z hz
   refine aj (List.mem_map.mp hz) fun p hp π32=>?_;rcases π32 with rfl
   have h1:p.1.length≤200∧(bD p.2).length≤2000:=by
    rcases List.mem_append.mp hp with h|h
    ·refine⟨?_,(hT.esc p (List.mem_append_left _ h)).e2⟩
     refine aj (List.mem_map.mp (hT.dp.mem_iff.mp h)) fun d hd π32=>?_;rcases π32 with rfl
     refine aj (List.mem_map.mp hd) fun e he π32=>?_;rcases π32 with rfl
     have hi:e.2<(bw uriOf [] N).length:=by have:=List.mem_zipIdx he;exact id (ω113 this)
     have:=bV (i:=e.2) (by exact ω5 hi hul rfl)
     show(cG++bz e.2).length≤200
     rw[List.length_append]
     show 6+_≤_
     exact ω10 this rfl
    ·refine aj (List.mem_map.mp h) fun y hy π32=>?_;rcases π32 with rfl
     exact⟨rW hT (.tail _ (List.mem_map.mpr ⟨y,hT.ap.mem_iff.mp hy,rfl⟩)),(hT.esc y (List.mem_append_right _ hy)).e2⟩
   unfold bf
   simp only[List.length_append,List.length_cons,List.length_nil]
   exact ω141 h1.1 h1.2 rfl
  refine Nat.le_trans (join_le hb) ?_
  have h2:((DL++AT.map fun p=>(iG uriOf tlOf N p.1,p.2)).map bf).length≤41:=by
   rw[List.length_map,List.length_append,List.length_map,hT.dp.length_eq,hT.ap.length_eq,List.length_map,aT]
   exact ω9 hul hhi rfl
  exact Nat.le_trans (Nat.mul_le_mul_right _ h2) (by decide)
 ·exact Nat.le_of_ble_eq_true rfl
structure kH(paths:List Tx)(samples:List cO)(uriOf tlOf:Tx→Tx)(kf:Tx→Tx×Tx)(N:List Tx)(DL AT:List (Tx×Tx)):Prop where
 p0:paths≠[]
 nd:paths.Nodup
 pl:paths.length≤20
 sl:samples.length≤100
 pe:∀p∈paths,p.length≤100
 se:∀p∈samples,p.1≠[]∧p.1.length≤100
 tl:∀ss,(∃r,samples=ss++r)→(tableOf ss).length≤1000∧∀k f,at' (tableOf ss) k=some f→f.2.2.2.2.length≤1000
 tp:∀p∈paths,∃f,at' (tableOf samples) p=some f∧∀z∈[f.1,f.2.1,f.2.2.1,f.2.2.2.1,(f.2.2.2.2.map (·.2)).sum],Small z
 ok:jC (aL (paths.headD []) [101]) (paths.map fun p=>(aL p [107],o8 ((at' (tableOf samples) p).getD fU))) uriOf tlOf kf N DL AT
end
end Mine
namespace Mine
section
variable{c:Cx}{A:Around}{L:Addr}{V V':ay}{G R:List Fa}{s:Shared}{env:Env}{t u:Tok}
theorem zf:cQ c ah eO 0 where
 kind:=by
  intro A s B vs xs Q hB hr h2 hQ
  refine kas_kind (T:=.type "str") h2 (fun v hv=>?_) (by decide) (by decide) (hQ _ ?_)
  ·obtain⟨i,hi⟩:=List.getElem?_of_mem hv
   obtain⟨x,_,t,rfl⟩:=hr.at' hi
   exact Looks.of_pure rfl
  ·intro A' v w x y C _ hv hw hne hC
   obtain⟨t,rfl⟩:=hv
   obtain⟨u,rfl⟩:=hw
   exact kas_lt_str hC
theorem aa.begun{c0:Cx}(S:aa c0 L V G s):aa {c0 with tk:=1} L V G {s with toks:=s.toks+1}:=by
 obtain⟨B,S⟩:=S.toks (tk:=s.toks+1)
 exact⟨B,{base:=S.base,above:=S.above,keep:=S.keep,loc:=S.loc,locB:=S.locB,know:=S.know,own:=S.own,nodup:=S.nodup,gens:=S.gens,bare:=S.bare,os:=S.os,tk:=Nat.succ_le_succ (Nat.zero_le _)}⟩
theorem zh{c0:Cx}{e:Expr}{rest:List Expr}{id:Str}{p pos:Pos}{f:Addr}{oc:Value}{od:Option Addr}{osl:Array (Option Value)}{fd:FuncData}{Q:Value→Shared→Prop}(hc:c={c0 with tk:=1})(g:cg c)(S:aa c0 L V G s)
 (hid:nsIn (aO c) mainGlobals id=some (some (.ref f))) (ho:(aO c).lookup f=some ⟨oc,od,.func fd,osl⟩)
 (h:Wp c A (spliced (backTo pos (starEach (e::rest) env))) (fun vs s₂=>(∃L V G,aa c L V G s₂)∧Wp c A (call (.ref f) vs) Q s₂) s)
 (he:autoParam (starEach (e::rest) env=(false,eval e env)::starEach rest env) af) (hg:autoParam (env.globals=mainGlobals) af) (hk:autoParam (env.scope.kind= .function) af)
 (hx:autoParam (env.kindOf id=some .globalImplicit) b7) (hd:autoParam ((id==("__debug__":Str))=false) b7):Wp c A (eval (.Call (.Name id p) (e::rest) [] pos) env) Q s:=by
 have hgl:∀b o,c.hG.get? b=some o→s.heap.get? b=some o:=fun b o e=>by
  subst hc
  exact S.ground e
 exact yF (o:=⟨oc,od,.func fd,osl⟩) (Calls.Name_function_global hk hx (Calls.loadGlobal_global (show s.heap.Ns env.globals c.mg from hg▸g.g.keeps hgl) (mg_of g.X g.g hid) ⟨rfl,wpAny_mono h (fun ν ν ⟨⟨_,_,_,S⟩,h⟩=>⟨S.ground (g.X _ _ ho),h⟩) fun ν ν x=>x⟩) hd) rfl he
theorem aa.xR{v:Value}{xs:List Tx}{y:Tx}{j:Nat}{Q:Value→Shared→Prop}(S:aa c L V G s)(hm:At G v (ai ah) xs)(hj:xs[j]?=some y)(hno:∀m,m<j→xs[m]?≠some y)(hsz:xs.length≤1000)(h:∀t s',aa c L V G s'→Q (.int j t) s'):
 Wp c A (call (.builtin "list.index") [v,.str (tx y) u]) Q s:=by
 refine jH (S.gP hm) fun a vs k π83 ν4 e hl S'=>?_;rcases π83 with rfl
 have hr:∀i x,xs[i]?=some x→∃t,vs[i]?=some (Value.str (tx x) t):=fun i x hx=>S'.fact fun B k ν=>by
  obtain⟨v,hv,t,rfl⟩:=(k.at (.head _):az (ah.rel B) vs xs).at hx
  exact⟨t,hv⟩
 have hjl:j<xs.length:=(List.getElem?_eq_some_iff.mp hj).1
 refine call_meets PySem.F.slot_list_index ⟨_,e,rfl⟩ PySem.F.entry_list_index (PySem.F.args_list_index_2 _ _)
  (MeetsSeq.list_index a vs.toArray k (.str (tx y) u) (fun z=>match z with | .str x _=>decide (x=tx y)|_=>false) (fun z hz=>?_) j (by rw[List.size_toArray];exact ω154 hjl hl) (by lia) ?_ fun m hm' hlt=>?_) ⟨e,h _ _ S.toks⟩
 ·obtain⟨i,hi⟩:=List.getElem?_of_mem (by simpa using hz:z∈vs)
  have hil:i<vs.length:=(List.getElem?_eq_some_iff.mp hi).1
  obtain⟨t,ht⟩:=hr i xs[i] (List.getElem?_eq_getElem (by exact ω154 hil (id (Eq.symm hl))))
  rw[ht] at hi
  cases hi
  exact fun ν ν ν ν ν ν h=>wpAny_eqBool_str h
 ·obtain⟨t,ht⟩:=hr j y hj
  have e2:vs.toArray[j]'(by rw[List.size_toArray];exact ω154 hjl hl)= .str (tx y) t:=by
   have:=(List.getElem?_eq_some_iff.mp ht).2
   simpa using this
  rw[e2];simp
 ·have hml:m<xs.length:=by exact ω149 hjl hlt
  obtain⟨t,ht⟩:=hr m xs[m] (List.getElem?_eq_getElem hml)
  have e2:vs.toArray[m]'hm'= .str (tx xs[m]) t:=by
   have:=(List.getElem?_eq_some_iff.mp ht).2
   simpa using this
  rw[e2]
  have hne:xs[m]≠y:=fun q=>hno m hlt (by rw[List.getElem?_eq_getElem hml,q])
  rw[decide_eq_false_iff_not]
  exact fun q=>hne (dM q)
structure rO(nums:List Int)(uriOf tlOf:Tx→Tx)(kf:Tx→Tx×Tx)(N:List Tx)(DL AT:List (Tx×Tx))(text:Tx)(parts:List Tx)(lines:List Line)(told:List Told)(st:RS)(order:List Tx):Prop where
 tag:kH (au nums).1 (au nums).2 uriOf tlOf kf N DL AT
 two:2≤(au nums).1.length
 txt:text=cE [] (toldOf (aL ((au nums).1.headD []) [101]) uriOf tlOf N DL AT)
 r1:text.length≤100000
 r2:aJ text [34]=parts
 r3:parts.length=2*lines.length+1
 r4:lines.length≤60
 r5:∀i line,lines[i]?=some line→∃a b,parts[2*i]?=some a∧parts[2*i+1]?=some b∧a.length≤1000∧b.length≤1000∧(aJ a [32]).length≤1000∧kJ ((lines.take i).filterMap Line.known) a b line
 r6:(lines.filterMap Line.known).length =(lines.filterMap Line.told).length
 r7:(lines.filterMap Line.known).Pairwise fun x y=>bJ x y=true
 r8:2≤(lines.filterMap Line.known).length
 tld:told=lines.filterMap Line.told
 p1:told.length≤30
 p2:∀o∈told,o.2.2.2.2.2.2.length≤1∧0≤o.1
 p3:gE (orderOf told) told ([],[],[])=some st
 o1:order.Perm (au nums).1
 o2:order.Pairwise fun x y=>eO x y=true
 q2:∀p∈st.2.1,p.1.length≤100∧p.2.2.2.2.2.length≤1000∧dF p.1 order (au nums).2 =((p.2.1,p.2.2.1,p.2.2.2.1,p.2.2.2.2.1),p.2.2.2.2.2,(p.2.2.2.2.2.map (·.2)).sum)
 t1:∃rest,aJ text [32]=([60,110]++bZ (order.idxOf ((au nums).1.headD []):Nat)++[58,101])::rest
 t0:(aJ text [32]).length≤1000
 t2:cut text (some (-2)) none=[34,62]
 t3:cnt text [60]=1
 t4:cnt text [38]=cnt text iI+cnt text bP
 q1:st.1=order.map fun p=>(p,order.filter fun h=>decide (h≠p)&&decide (cut p none (some h.length)=h))
end
end Mine
namespace Mine
inductive rm:List Res→List (Fa×Fa)→List Res→Prop
 |done {E:List Res}:rm E [] E
 |take {f g:Fa} {l:List (Fa×Fa)} {E E':List Res}:rm E l E'→rm (fa f::E) ((f,g)::l) (fa g::E')
 |skip {r:Res} {l:List (Fa×Fa)} {E E':List Res}:rm E l E'→rm (r::E) l (r::E')
section
variable{c:Cx}{A:Around}{L:Addr}{E E' E1 E2 E3 E4 B:List Res}{F:List Fa}{s:Shared}{env:PySem.Env}{p q r:Arg}{K:List Fa}{n:Nat}{x name:Str}{o dx:Addr}{AV:bU}{w:Value}{l:List (Fa×Fa)}{xp pos:Pos}
theorem aE.ups{W:ay}{H:List Fa}(u:rm E l E')(hA:aE E W H):∃H' H2,H.Perm (l.map (·.1)++H')∧aE E' W H2∧H2.Perm (l.map (·.2)++H'):=by
 induction u generalizing W H with
 |done=>exact⟨H,H,.refl _,hA,.refl _⟩
 |take _ ih=>
  cases hA with
  |cons a b=>
   obtain⟨rfl,rfl⟩:=a
   refine av (ih b) fun H' H2 h1 h2 h3=>?_
   exact⟨H',_,h1.cons _,.cons (W:=[]) ⟨rfl,rfl⟩ h2,h3.cons _⟩
 |skip _ ih=>
  cases hA with
  |cons a b=>
   refine av (ih b) fun H' H2 h1 h2 h3=>?_
   exact⟨_,_,(h1.append_left _).trans (List.perm_append_comm_assoc ..),.cons a h2,(h3.append_left _).trans (List.perm_append_comm_assoc ..)⟩
theorem Hd.ups(hs:Hd c L E F s)(u:rm E l E'):∃W H',aa c L W (l.map (·.1)++(F++H')) s∧∀F' s',aa c L W (l.map (·.2)++(F'++H')) s'→Hd c L E' F' s':=by
 refine aB hs fun W H hA S=>?_;try clear hs
 refine av (hA.ups u) fun H' H2 h1 h2 h3=>?_
 exact⟨W,H',S.perm ((h1.append_left F).trans (List.perm_append_comm_assoc ..)),fun F' s' S=>⟨W,H2,h2,S.perm ((List.perm_append_comm_assoc ..).trans (h3.symm.append_left F'))⟩⟩
theorem Ev.attr(g:cg c)(h:Ev c A L E (eval (.Name x xp) env) (aD (.ref o)) E)(hx:fa (.kn (held o (aU dx)))∈E)(hd:fa (.ow (own dx aR AV))∈E)(hv:AV.lookup name=some w)(hf:autoParam (findIn (aO c) (.ref 150) name=some none) b7)(hh:autoParam (handedIn w=true) af)
 (he:autoParam (eval (.Attribute (.Name x xp) name pos) env=(do
   let o ←eval (.Name x xp) env
   standAt pos.atName
   let r ←holding [o] (getAttr o name true)
   letTemporaryGo (.Name x xp) o r
   pure r)) zW):Ev c A L E (eval (.Attribute (.Name x xp) name pos) env) (aD w) E:=fun F s hs=>
 Attribute_Name_ (wpAny_mono (h F s hs) (fun ν ν ⟨W,H,hA,S⟩=>S.bK (.head _)▸S.gA g (hA.fact (F:=_::F) hx) (hA.fact (F:=_::F) hd) hv hf hh fun ν S=>⟨W,H,hA,(S.sub (.drop .all)).add _ fun ν ν=>rfl⟩) fun ν ν x=>x) he
noncomputable def uU(f x:Addr):Arg:=fun v=>⟨fun B=>∃q,v= .ref q∧B q=some (methodObj (.ref f) (.ref x)),fun h ⟨q,e,k⟩=>⟨q,e,h _ _ k⟩⟩
theorem Ev.bound{f:Addr}(g:cg c)(h:Ev c A L E (eval (.Name x xp) env) (aD (.ref o)) E)(hx:fa (.kn (held o (aU dx)))∈E)(hd:fa (.ow (own dx aR AV))∈E)(hn:AV.lookup name=none)
 (hs:findIn (aO c) (.ref 150) name=some (some (.ref f))) (hf:typeIn (aO c) (.ref f)=some (.type "function")) (hg:specialIn (aO c) (.ref f) "__get__"=some (some (.builtin "function.__get__"))) (ht:takesIn (aO c) (.ref f)=some false) (hc:copiedNames.contains name=false)
 (he:autoParam (eval (.Attribute (.Name x xp) name pos) env=(do
   let o ←eval (.Name x xp) env
   standAt pos.atName
   let r ←holding [o] (getAttr o name true)
   letTemporaryGo (.Name x xp) o r
   pure r)) zW):Ev c A L E (eval (.Attribute (.Name x xp) name pos) env) (uU f o) E:=fun F s hs'=>
 Attribute_Name_ (wpAny_mono (h F s hs') (fun ν ν ⟨W,H,hA,S⟩=>S.bK (.head _)▸S.zS g (hA.fact (F:=_::F) hx) (hA.fact (F:=_::F) hd) hn hs hf hg ht hc fun q ν S=>⟨W,H,hA,((S.add (uU f o (.ref q)) fun B k=>⟨q,rfl,k.at (.head _)⟩).sub (.kn (.head _) (.drop (.drop (.drop .all)))))⟩) fun ν ν x=>x) he
theorem St.jI{e:Expr}{pos':Pos}(g:cg c)(h:Ev c A L E (eval e env) (aD w) E1)(hn:Ev c A L E1 (eval (.Name x xp) env) (aD (.ref o)) E1)(u:rm E1 [(.kn (held o (aU dx)),.kn (held o (aU dx))),(.ow (own dx aR AV),.ow (own dx aR (nA AV name w)))] E2)(ht:autoParam (takerIn (aO c) 150 name=some none) b7)(hl:autoParam (AV.length≤100) B3)
 (hs:autoParam (swapsWith e (some (.Attribute (.Name x xp) name pos')) pos.line env=pure false) af):St c A L E (exec (.Assign [.Attribute (.Name x xp) name pos'] e pos) env) E2:=fun F s hs'=>
 plainObj_wpAny_Assign_Attribute (wpAny_mono (h F s hs') (fun v s1 h1=>wpAny_mono (hn _ s1 h1) (fun ov s2 h2=>by
  refine aB (h2.ups u) fun W H' S back=>?_
  rw[S.bK (v:=ov) (.tail _ (.tail _ (.head _))),S.bK (v:=v) (.tail _ (.tail _ (.tail _ (.head _))))]
  exact S.sA g (.there .here) (.head _) ht hl fun s' S=>⟨rfl,(back (_::_::F) s' (S.perm (.swap ..))).drop.drop⟩) fun ν ν x=>x) fun ν ν x=>x) hs
theorem Ev.Ac{e:Expr}{id:Str}{f ca:Addr}(g:cg c)(hf:fnIn (aO c) f=true)(hc:env.cells.lookup id=some ca)(hm:eW ca (uU f o)∈E)(h:Ev c A L E (eval e env) p E1)
 (ho:∀L W G s v (Q:Value→Shared→Prop),aa c L W (l.map (·.1)++G) s→.kn (p v)∈G→(∀x s',aa c L W (.kn (r x)::(l.map (·.2)++G)) s'→Q x s')→codeAny (model c.prog c.w) A (.call (.ref f) ⟨[.ref o,v],[]⟩) (fun x s'=>match x with | .ok (.ret v)=>Q v s'| .ok _=>False| .error _=>False) s)
 (u:rm E1 l E2) (hk:autoParam (env.scope.kind= .function) af) (hl:autoParam (env.kindOf id=some .cell) b7) (hd:autoParam ((id==("__debug__":Str))=false) b7) (he:autoParam (starEach [e] env=(false,eval e env)::starEach [] env) af):Ev c A L E (eval (.Call (.Name id xp) [e] [] pos) env) r E2:=by
 intro F s υ2;obtain⟨W,H,hA,S⟩:=υ2
 obtain⟨_,_,⟨v,rfl,rfl⟩,_,h2⟩:=hA.mem hm
 have k1:=List.mem_append_right F (h2 _ (.tail _ (.head _)))
 obtain⟨q,rfl⟩:∃q,v= .ref q:=S.fact fun B k ν=>let⟨q,e,_⟩:=k.at k1;⟨q,e⟩
 have S:=S.add (held q (methodObj (.ref f) (.ref o))) fun B k=>by refine aj (k.at k1) fun ν0 e h=>?_;cases e;exact h
 refine yV (x:=o) g hf (S.ce hc (.tail _ (List.mem_append_right F (h2 _ (.head _)))) ⟨rfl,wpAny_mono (h (_::F) s ⟨W,H,hA,S⟩) (fun v s1 h3=>?_) fun ν ν x=>x⟩ hk hl hd) he
 refine aB (h3.ups u) fun W' H' S' back=>?_
 refine aB h3 fun W1 H1 ν2 S1=>?_;try clear h3
 refine⟨⟨_,_,_,S1,.tail _ (.head _)⟩,ho _ _ _ _ _ _ S' (.head _) fun x s' S=>?_⟩
 exact(back (.kn (r x):: .kn (p v):: .kn (held q (methodObj (.ref f) (.ref o)))::F) s' (S.perm List.perm_middle.symm)).out (X:=[_,_])
end
end Mine
namespace Mine
section
variable{c:Cx}{A:Around}{L:Addr}{E E' E1 E2 E3 E4 B:List Res}{F:List Fa}{s:Shared}{env:PySem.Env}{p q r:Arg}{K:List Fa}{n:Nat}{x name:Str}{o dx:Addr}{AV:bU}{w:Value}{l:List (Fa×Fa)}{xp pos:Pos}{R:Rp}
theorem Ev.none{k:Nat}:Ev c A L E (eval (.Constant .none k pos) env) (aD .none) E:=fun ν ν ⟨W,H,hA,S⟩=>A4 ⟨W,H,hA,S.add _ fun ν ν=>rfl⟩
theorem Ev.bool{b:Bool}{k:Nat}:Ev c A L E (eval (.Constant (.bool b) k pos) env) (aD (.bool b)) E:=fun ν ν ⟨W,H,hA,S⟩=>yy ⟨W,H,hA,S.add _ fun ν ν=>rfl⟩
theorem dJ{v:Value}:Op c A (cop .IsNot) [] [aD v,aD .none] (aD (.bool (!(v== .none)))):=fun ν ν ν ν ν S ha ν=>by
 refine av (aS ha) fun v w π52 h1 h2=>?_;rcases π52 with rfl
 rw[S.bK h1,S.bK h2]
 exact isnot_none_gen (S.add _ fun ν ν=>rfl)
theorem zD:Op c A (cop .Is) [] [aD .none,aD .none] (aD (.bool true)):=fun ν ν ν ν ν S ha ν=>by
 refine av (aS ha) fun v w π52 h1 h2=>?_;rcases π52 with rfl
 rw[S.bK h1,S.bK h2]
 exact is_none_none (S.add _ fun ν ν=>rfl)
theorem c8.qK{x:Expr}{rest:List Expr}{whole:Sem Value}(h:c8 c A L E (isTrue x env (eval x env)) false E1):c8 c A L E (isTrue (.BoolOp .And (x::rest) pos) env whole) false E1:=fun F s hs=>
 isTrue_and (wpAny_mono (h F s hs) (fun ν ν ⟨e,h⟩=>by subst e;exact⟨rfl,h⟩) fun ν ν x=>x)
theorem c8.of{e:Expr}{b:Bool}(h:Ev c A L E (eval e env) p E')(hK:∀k∈K,fa k∈E')(ht:∀L W G s v (Q:Bool→Shared→Prop),aa c L W G s→.kn (p v)∈G→(∀k∈K,k∈G)→(∀s',aa c L W G s'→Q b s')→Wp c A (truthy v) Q s)
 (he:autoParam (isTrue e env (eval e env)=(do let v ←eval e env;standAt e.pos;holding [v] (truthy v))) af):c8 c A L E (isTrue e env (eval e env)) b E':=fun F s hs=>
 isTrue_plain (wpAny_mono (h F s hs) (fun ν ν ⟨W,H,hA,S⟩=>ht _ _ _ _ _ _ S (.head _) (fun k hk=>hA.fact (F:=_::F) (hK k hk)) fun ν S=>⟨rfl,Hd.drop ⟨W,H,hA,S⟩⟩) fun ν ν x=>x) he
theorem c8.no{e:Expr}(h:Ev c A L E (eval e env) (aD .none) E')(he:autoParam (isTrue e env (eval e env)=(do let v ←eval e env;standAt e.pos;holding [v] (truthy v))) af):c8 c A L E (isTrue e env (eval e env)) false E':=
 .of (K:=[]) h (fun ν h=>nomatch h) (fun ν ν ν ν ν ν S hm ν k=>S.bK hm▸z6 (k _ S)) he
theorem c8.txt{e:Expr}{y:Tx}(h:Ev c A L E (eval e env) (ar ah y) E')(h0:y≠[])(hsz:y.length≤1000000)(he:autoParam (isTrue e env (eval e env)=(do let v ←eval e env;standAt e.pos;holding [v] (truthy v))) af):c8 c A L E (isTrue e env (eval e env)) true E':=
 .of (K:=[]) h (fun ν h=>nomatch h) (fun ν ν ν ν ν ν S hm ν k=>by obtain⟨t,rfl⟩:=S.isStr hm;exact S.Ck h0 hsz k) he
theorem c8.lst{e:Expr}{α:Type}{T:Ty α}{xs:List α}(h:Ev c A L E (eval e env) p E')(hm:ql p K (ai T) xs)(hK:∀k∈K,fa k∈E')(hsz:xs.length≤1000000)(he:autoParam (isTrue e env (eval e env)=(do let v ←eval e env;standAt e.pos;holding [v] (truthy v))) af):c8 c A L E (isTrue e env (eval e env)) (!xs.isEmpty) E':=
 .of h hK (fun ν ν ν ν ν ν S h1 h2 k=>S.yP (hm _ _ _ _ _ _ S h1 h2) hsz k) he
theorem c8.dct{e:Expr}{α:Type}{T:Ty α}{xs:List (Tx×α)}(h:Ev c A L E (eval e env) (ar (Ty.dct c T) xs) E')(hsz:xs.length≤1000000)(he:autoParam (isTrue e env (eval e env)=(do let v ←eval e env;standAt e.pos;holding [v] (truthy v))) af):c8 c A L E (isTrue e env (eval e env)) (!xs.isEmpty) E':=
 .of (K:=[]) h (fun ν h=>nomatch h) (fun ν ν ν ν ν ν S hm ν k=>S.Au (.kn hm) hsz k) he
noncomputable def Jp(c:Cx)(A:Around)(L:Addr)(E:List Res)(out:Tx)(X:List (Sem Value))(y:Tx)(E':List Res):Prop:=
 ∀F s,Hd c L E F s→Wp c A (joinParts (tx out) X) (fun v s'=>Hd c L E' (.kn (is ah v y)::F) s') s
theorem Jp.nil{out:Tx}(h:out.length≤1000000):Jp c A L E out [] out E:=fun ν ν ⟨W,H,hA,S⟩=>S.zG h fun ν ν S=>⟨W,H,hA,S.wO⟩
theorem Jp.cst{out y z:Tx}{x:Str}{k:Nat}{rest:List (Sem Value)}(hsz:out.length+y.length≤1000000)(h:Jp c A L E (out++y) rest z E')(e:autoParam (x.cps.toList=y) af):Jp c A L E out (eval (.Constant (.str x) k pos) env::rest) z E':=by
 intro F s υ2;obtain⟨W,H,hA,S⟩:=υ2
 subst e
 exact n5 (S.g5 fun s' S ν=>⟨_,_,rfl,hsz,h F s' ⟨W,H,hA,S⟩⟩)
theorem Jp.fld{out y z:Tx}{e:Expr}{rest:List (Sem Value)}(he:Ev c A L E (eval e env) (ar ah y) E1)(hsz:out.length+y.length≤1000000)(h:Jp c A L E1 (out++y) rest z E'):Jp c A L E out (eval (.FormattedValue e (-1) none pos) env::rest) z E':=fun F s hs=>
 n5 (FormattedValue_plain (wpAny_mono (he F s hs) (fun v s1 ⟨W,H,hA,S⟩=>by
  obtain⟨t,rfl⟩:=S.isStr (.head _)
  exact S.Cm (x:=y) (by exact ω87 hsz) fun t' s' S=>⟨y,t',rfl,hsz,h F s' (Hd.drop ⟨W,H,hA,S⟩)⟩) fun ν ν x=>x))
theorem Jp.num{out z:Tx}{i:Int}{e:Expr}{rest:List (Sem Value)}(he:Ev c A L E (eval e env) (ar ao i) E1)(hi:i.natAbs<10^10)(hsz:out.length+(bZ i).length≤1000000)(h:Jp c A L E1 (out++bZ i) rest z E'):Jp c A L E out (eval (.FormattedValue e (-1) none pos) env::rest) z E':=fun F s hs=>
 n5 (FormattedValue_plain (wpAny_mono (he F s hs) (fun v s1 ⟨W,H,hA,S⟩=>by
  obtain⟨t,rfl⟩:=S.isInt (.head _)
  exact S.Cn hi fun t' s' S=>⟨_,t',rfl,hsz,h F s' (Hd.drop ⟨W,H,hA,S⟩)⟩) fun ν ν x=>x))
theorem Ev.xr{v1 v2:Expr}{rest:List Expr}{y:Tx}(h:Jp c A L E [] (eval v1 env::eval v2 env::evalEach rest env) y E'):Ev c A L E (eval (.JoinedStr (v1::v2::rest) pos) env) (ar ah y) E':=fun F s hs=>js (h F s hs)
noncomputable def yz(c:Cx)(A:Around)(X:Sem Flow)(R:Rp):Rp:=fun F f s'=>f= .next∧Wp c A X (R F) s'
theorem Rt.Cp{t:Expr}{body orelse rest:List Stmt}(h:c8 c A L E (isTrue t env (eval t env)) true E1)(k:Rt c A L E1 (execs body env) (yz c A (execs rest env) R)):Rt c A L E (execs (.If t body orelse pos::rest) env) R:=fun F s hs=>
 wpAny_execs_cons (wpAny_If (wpAny_mono (h F s hs) (fun ν s1 ⟨e,h1⟩=>by
  subst e
  exact wpAny_mono (k F s1 h1) (fun ν ν ⟨e,h⟩=>e▸h) fun ν ν x=>x) fun ν ν x=>x))
theorem Rt.Ba{X:Sem Flow}(k:Rt c A L E X R):Rt c A L E (execs [] env) (yz c A X R):=fun F s hs=>wpAny_execs_nil ⟨rfl,k F s hs⟩
noncomputable def uv(c:Cx)(L:Addr)(fs:List Fa):Rp:=fun F f s'=>f= .next∧∃W,aa c L W (fs++F) s'
theorem St.write{id:Str}{e:Expr}{epos:Pos}{a q:Addr}{α:Type}{T:Ty α}{xs:List α}{y:α}(hn:Ev c A L E (eval (.Name id xp) env) (aD (.ref q)) E)(h:Ev c A L E (eval e env) (ar T y) E1)
 (u:rm E1 [(.kn (held q (cM a)),.kn (held q (cM a))),(.ow (own a (ai T) xs),.ow (own a (ai T) (xs++[y])))] E2) (hsz:xs.length≤1000000)
 (he:autoParam (starEach [e] env=(false,eval e env)::starEach [] env) af) (hi:autoParam (interactive env=false) af) (hs:autoParam (swapsWith (.Call (.Name id xp) [e] [] pos) none epos.line env=pure false) af):St c A L E (exec (.Expr (.Call (.Name id xp) [e] [] pos) epos) env) E2:=fun F s hs'=>
 jt (Mine.Aj (a:=a) (q:=q) (wpAny_mono (hn F s hs') (fun v s1 h1=>by
  have h2:=h1.drop
  refine aB h1 fun W H hA S=>?_;try clear h1
  refine⟨S.bK (.head _),wpAny_mono (h F s1 h2) (fun v s2 h3=>?_) fun ν ν x=>x⟩
  refine aB (h3.ups u) fun W H' S back=>?_
  exact⟨S.aF (.head _),S.Bd (.there .here) (.head _) (fun B k=>k.at (k:=ar T y v) (.tail _ (.head _))) hsz fun s' S=>⟨rfl,rfl,(back (_::F) s' (S.perm (.swap ..))).drop⟩⟩) fun ν ν x=>x) he) hi hs
end
end Mine
namespace Mine
inductive mK:List Res→List Res→List Res→List Res→Prop
 |nil:mK [] [] [] []
 |take {r r':Res} {E B E' B':List Res} (h:∀W H,r W H→W=[]) (h':∀W H,r' W H→W=[]):mK E B E' B'→mK (r::E) (r::B) (r'::E') (r'::B')
 |skip {r:Res} {E B E' B':List Res}:mK E B E' B'→mK (r::E) B (r::E') B'
theorem mK.eW{ca:Addr}{p:Arg}{E B E' B':List Res}(h:mK E B E' B'):mK (eW ca p::E) (eW ca p::B) (eW ca p::E') (eW ca p::B'):=.take (fun ν ν ⟨_,e,_⟩=>e) (fun ν ν ⟨_,e,_⟩=>e) h
theorem mK.fa{f g:Fa}{E B E' B':List Res}(h:mK E B E' B'):mK (fa f::E) (fa f::B) (fa g::E') (fa g::B'):=.take (fun ν ν ⟨e,_⟩=>e) (fun ν ν ⟨e,_⟩=>e) h
section
variable{c:Cx}{A:Around}{L:Addr}{E E' E1 E2 E3 E4 B B':List Res}{F:List Fa}{s:Shared}{env:PySem.Env}{p q r:Arg}{K:List Fa}{n:Nat}{x name:Str}{o dx:Addr}{AV:bU}{w:Value}{l:List (Fa×Fa)}{xp pos:Pos}{R:Rp}
theorem mK.none(h:mK E B E' B'){W:ay}{H:List Fa}(hA:aE B' W H):W=[]:=by
 induction h generalizing W H with
 |nil=>cases hA;rfl
 |take _ hr _ ih=>cases hA with |cons a b=>rw[hr _ _ a,ih b];rfl
 |skip _ ih=>exact ih hA
theorem mK.run(h:mK E B E' B'){W:ay}{H:List Fa}(hA:aE E W H):∃HB HR,aE B [] HB∧H.Perm (HB++HR)∧∀HB',aE B' [] HB'→∃H',aE E' W H'∧H'.Perm (HB'++HR):=by
 induction h generalizing W H with
 |nil=>cases hA;exact⟨[],[],.nil,.refl _,fun ν h=>⟨_,h,by rw[List.append_nil]⟩⟩
 |take hr hr' _ ih=>
  cases hA with
  |cons a b=>
   refine av (ih b) fun HB HR h1 h2 h3=>?_
   obtain rfl:=hr _ _ a
   refine⟨_,HR,aE.cons (W:=[]) a h1,by rw[List.append_assoc];exact h2.append_left _,fun HB' h=>?_⟩
   refine fK h.inv fun W1 W2 H1 H2 g1 g2 e π87=>?_;rcases π87 with rfl
   obtain⟨rfl,rfl⟩:=List.append_eq_nil_iff.mp e.symm
   refine aj (h3 _ g2) fun H' h4 h5=>?_
   exact⟨_,aE.cons g1 h4,by rw[List.append_assoc];exact h5.append_left _⟩
 |skip _ ih=>
  cases hA with
  |cons a b=>
   refine av (ih b) fun HB HR h1 h2 h3=>?_
   refine⟨HB,_,h1,(h2.append_left _).trans (List.perm_append_comm_assoc ..),fun HB' h=>?_⟩
   refine aj (h3 _ h) fun H' h4 h5=>?_
   exact⟨_,.cons a h4,(h5.append_left _).trans (List.perm_append_comm_assoc ..)⟩
theorem oH.B6{X:Sem Value}{target:Expr}{α:Type}{T:Ty α}{xs:List α}(h:dN c A L E X (ai T) xs E'):oH c A L E X target T xs E' E':=fun F s hs=>
 wpAny_mono (h F s hs) (fun v s1 ⟨a,e,W,H,hA,S⟩=>e▸S.iO .here fun it Fi s' src S=>⟨Fi,_,src _,⟨W,H,hA,S.perm (.of_eq (List.append_assoc (Fi 0) F H).symm)⟩,fun ν ν h=>h.iZ⟩) fun ν ν x=>x
theorem dN.nR{e0 e1:Expr}{sp:Pos}{k:Nat}{β:Type}{T:Ty β}{tag:Tx}{xs:List (Tx×β)}(g:cg c)(hh:A.handled=none)(hc:kdsCode (aO c) env.code=true)(h0:Ev c A L E (eval e0 env) (ar ah tag) E)(h1:Ev c A L E (eval e1 env) (ar (Ty.dct c T) xs) E)(hnd:(tag::xs.map (·.1)).Nodup)(hsz:xs.length≤900)
 (hk:autoParam ((displayRoad k [e0,.Starred e1 sp]== .constants)=false) af) (hk':autoParam ((displayRoad k [e0,.Starred e1 sp]== .unsure)=false) af) (hs:autoParam (starEach [e0,.Starred e1 sp] env=[(false,eval e0 env),(true,eval e1 env)]) af):
 dN c A L E (eval (.Set [e0,.Starred e1 sp] k pos) env) (bQ c) (tag::xs.map (·.1)) E:=fun F s ⟨W,H,hA,S⟩=>
 S.nR g hc (fun a s' S=>wpAny_mono (h0 (_::F) s' ⟨W,H,hA,S⟩) (fun v s1 ⟨W,H,hA,S⟩=>by
  obtain⟨t,rfl⟩:=S.isStr (.head _)
  exact⟨L,W,_,_,tag,t,rfl,S,.there .here,fun s2 S=>wpAny_mono (h1 (_::_::F) s2 ⟨W,H,hA,S⟩) (fun v s3 ⟨W,H,hA,S⟩=>S.AG hh (.there .here) (.head _) hnd hsz fun s' S=>⟨a,rfl,W,H,hA,S.sub (.own .here (.drop (.drop .all)))⟩) fun ν ν x=>x⟩) fun ν ν x=>x) hk hk' hs
theorem dN.o4{e:Expr}{id:Str}{pp ap ip:Pos}{β:Type}{T:Ty β}{f:(Tx×β)→(Tx×β)→Bool}{m:Nat}{xs ys:List (Tx×β)}(g:cg c)(hh:A.handled=none)(hS:cQ c (bY ah T) f m)(hO:Ord f)(h:Ev c A L E (eval e env) (ar (Ty.dct c T) xs) E')
 (h2:2≤xs.length) (h64:xs.length<64) (hu:A.units+(m+2)<cLine) (hp:ys.Perm xs) (hs:ys.Pairwise fun x y=>f x y=true) (hn:nsIn (aO c) mainGlobals id=some none) (hv:bootBuiltins id=some (.builtin "sorted")) (hne:id≠"__name__")
 (hbase:autoParam (attributeBase e "items" env (eval e env)=eval e env) af) (hline:autoParam ((ap.endLine==ip.line)=true) af)
 (he:autoParam (starEach [Expr.Call (.Attribute e "items" ap) [] [] ip] env=(false,eval (.Call (.Attribute e "items" ap) [] [] ip) env)::starEach [] env) af)
 (hg:autoParam (env.globals=mainGlobals) af) (hb:autoParam (env.builtins=builtinsNs) af) (hk:autoParam (env.scope.kind= .function) af) (hx:autoParam (env.kindOf id=some .globalImplicit) b7) (hd:autoParam ((id==("__debug__":Str))=false) b7):
 dN c A L E (eval (.Call (.Name id pp) [.Call (.Attribute e "items" ap) [] [] ip] [] pos) env) (ai (bY ah T)) ys E':=fun F s hs'=>by
 have hs2:=hs'
 refine aB hs' fun ν0 ν1 ν2 S=>?_;try clear hs'
 refine Mine.bR (b:="sorted") (S.bi g hn hv hne ⟨rfl,spliced_more (k6 (wpAny_mono (h F s hs2) (fun v s1 ⟨W,H,hA,S⟩=>⟨_,_,fG,S.g7 (.head _),S.qW (.head _) fun ad iv s' e S=>spliced_none ?_⟩) fun ν ν x=>x) hbase hline) he⟩ hg hb hk hx hd) he
 subst e
 refine S.nD hS hO hh (.head _) (.tail _ (.head _)) (hp.nodup_iff.mp (fE hO hs)) h2 h64 hu fun sl zs s' p3 p4 S=>⟨sl,rfl,W,H,hA,?_⟩
 rw[eV hO (hp.trans p3.symm) hs p4]
 exact S.sub (.own .here (.drop (.drop .all)))
theorem St.sort{e:Expr}{ap epos:Pos}{α:Type}{T:Ty α}{f:α→α→Bool}{m:Nat}{a:Addr}{xs ys:List α}(hS:cQ c T f m)(hO:Ord f)(h:Ev c A L E (eval e env) (aD (.ref a)) E1)(u:rm E1 [(.ow (own a (ai T) xs),.ow (own a (ai T) ys))] E2)(h2:2≤xs.length)(h64:xs.length<64)(hu:A.units+(m+1)<cLine)
 (hp:ys.Perm xs) (hs:ys.Pairwise fun x y=>f x y=true) (hbase:autoParam (attributeBase e "sort" env (eval e env)=eval e env) af) (hline:autoParam ((ap.endLine==pos.line)=true) af)
 (hi:autoParam (interactive env=false) af) (hsw:autoParam (swapsWith (.Call (.Attribute e "sort" ap) [] [] pos) none epos.line env=pure false) af):St c A L E (exec (.Expr (.Call (.Attribute e "sort" ap) [] [] pos) epos) env) E2:=fun F s hs'=>
 jt (k6 (wpAny_mono (h F s hs') (fun v s1 h1=>by
  refine aB (h1.ups u) fun W H' S back=>?_
  rw[S.bK (v:=v) (.tail _ (.head _))]
  refine⟨_,_,pY,S.fD (.head _),S.zU hS hO .here (hp.nodup_iff.mp (fE hO hs)) h2 h64 hu fun zs s' p1 p2 S=>⟨rfl,rfl,?_⟩⟩
  rw[eV hO (p1.trans hp.symm) p2 hs] at S
  exact(back (_::F) s' S).drop) fun ν ν x=>x) hbase hline) hi hsw
theorem xu{β:Type}{T:Ty β}{xs:List (Tx×β)}{k:Tx}(h:ql p K (aK c T) xs)(hx:at' xs k=none):Op c A (fun vs=>call (.builtin "dict.get") vs) K [p,ar ah k] (aD .none):=fun ν ν ν ν ν S ha hK=>by
 refine av (aS ha) fun v w π52 h1 h2=>?_;rcases π52 with rfl
 obtain⟨t,rfl⟩:=S.isStr h2
 exact S.AZ (h _ _ _ _ _ _ S h1 hK) hx fun s' S=>S.add _ fun ν ν=>rfl
theorem pQ{x:Tx}{xs:List Tx}(h:ql q K (ai ah) xs)(hx:x.length≤100)(hb:∀y∈xs,y.length≤100000)(hn:xs.length≤100):Op c A (fun vs=>call (.builtin "str.join") vs) K [ar ah x,q] (ar ah (cE x xs)):=fun ν ν ν ν ν S ha hK=>by
 refine av (aS ha) fun v w π52 h1 h2=>?_;rcases π52 with rfl
 obtain⟨t,rfl⟩:=S.isStr h1
 exact S.zQ (h _ _ _ _ _ _ S h2 hK) hx hb hn fun t s' S=>S.wO
end
end Mine
local macro_rules | `(tactic| walk_at "g") => `(tactic| repeat with_reducible first | exact Mine.mK.nil | apply Mine.mK.eW | apply Mine.mK.fa | apply Mine.mK.skip)
namespace Mine
section
variable{c:Cx}{A:Around}{L:Addr}{E E' E1 E2 E3 E4 B B':List Res}{F:List Fa}{s:Shared}{env:PySem.Env}{p q r:Arg}{K:List Fa}{n:Nat}{x name:Str}{o dx:Addr}{AV:bU}{w:Value}{l:List (Fa×Fa)}{xp pos:Pos}{R:Rp}
noncomputable def Bs(qual:Str)(params:Arguments)(body:Expr)(scope:Scope)(pm:Value)(cc:Addr)(ctv:Value):Obj:={cls:=.type "function",data:=.func (kla_fn "<lambda>" qual params body scope [] pm (.ref cc) ctv)}
theorem dN.sN{κ:Type}{TK:Ty κ}{f:κ→κ→Bool}{m:Nat}{e body:Expr}{id:Str}{params:Arguments}{scope:Scope}{pp kp lp:Pos}(kf:Tx→κ){xs ys:List Tx}(g:cg c)(lm:zk c)(hh:A.handled=none)(hS:cQ c TK f m)(hO:Ord f)
 (h:Ev c A L E (eval e env) (ar (Ty.ref (bQ c)) xs) E1) (u:rm E1 [(.ow (own 123 (ck (tabObj #[])) ()),.ow (own 123 j5 ()))] E2) (hnd:xs.Nodup) (hi:∀a∈xs,∀b∈xs,kf a=kf b→a=b) (h2:2≤xs.length) (h64:xs.length<64) (hu:A.units+(m+2)<cLine)
 (hp:ys.Perm xs) (hs:ys.Pairwise fun x y=>f (kf x) (kf y)=true)
 (key:∀L W G s q cc pm ctv y v,y∈xs→aa c L W G s→.kn (held q (Bs (env.qual++"<lambda>") params body scope pm cc ctv))∈G→.kn (is (Ty.ref (sd (env.qual++"<lambda>"))) (.ref cc) ())∈G→.kn (is ah v y)∈G→Wp c A.in1.in1 (call (.ref q) [v]) (fun k s''=>aa c L W (.kn (is TK k (kf y))::G) s'') s)
 (hn:nsIn (aO c) mainGlobals id=some none) (hv:bootBuiltins id=some (.builtin "sorted")) (hne:id≠"__name__") (hcode:autoParam (env.code= .ref 125) af) (hcl:autoParam (closureFor scope env=pure []) af) (hdef:autoParam (defaultsOf params env=([],[])) af)
 (he:autoParam (starEach [e] env=(false,eval e env)::starEach [] env) af)
 (hg:autoParam (env.globals=mainGlobals) af) (hb:autoParam (env.builtins=builtinsNs) af) (hk:autoParam (env.scope.kind= .function) af) (hx:autoParam (env.kindOf id=some .globalImplicit) b7) (hd:autoParam ((id==("__debug__":Str))=false) b7):
 dN c A L E (eval (.Call (.Name id pp) [e] [⟨some (Str.ofString "key"),.Lambda params body scope lp,kp⟩] pos) env) (ai ah) ys E2:=fun F s hs'=>by
 have hs2:=hs'
 refine aB hs' fun ν0 ν1 ν2 S=>?_;try clear hs'
 refine zd (b:="sorted") (S.bi g hn hv hne ⟨rfl,wpAny_mono (h F s hs2) (fun v s1 h1=>?_) fun ν ν x=>x⟩ hg hb hk hx hd) he
 refine aB (h1.ups u) fun W H' S back=>?_
 obtain⟨a,rfl⟩:∃a,v= .ref a:=S.fact fun B k ν=>let⟨a,_,e,_⟩:=k.at (k:=is (Ty.ref (bQ c)) v xs) (.tail _ (.head _));⟨a,e⟩
 refine S.lam g lm .here hcode hg hcl hdef fun q cc pm ctv s' S=>?_
 refine S.qx hS hO kf hh (.tail _ (.tail _ (.tail _ (.head _)))) (jT hnd hi) h2 h64 hu (fun v y H s' hy S=>?_) fun sl zs s' p3 p4 S=>⟨sl,rfl,?_⟩
 ·exact wpAny_mono (key _ _ _ _ q cc pm ctv y v hy S (.tail _ (List.mem_append_right _ (.head _))) (.tail _ (List.mem_append_right _ (.tail _ (.head _)))) (.head _)) (fun ν ν S=>S.sub (.kn (.head _) (.drop (.drop .all)))) fun ν ν x=>x
 ·rw[qq hO kf (hp.trans p3.symm) (fun a ha b hb=>hi a (hp.mem_iff.mp ha) b (hp.mem_iff.mp hb)) hs p4]
  exact back (_::F) s' (S.sub (.own (.there (.there (.there .here))) (.own .here (.drop (.drop (.drop .all))))))
theorem St.AW{kx vx target iter:Expr}{scope:Scope}{spos ypos:Pos}{y:Str}{α β:Type}{T:Ty α}{U:Ty β}{xs:List α}(cl:List (Str×Addr))(hh:A.handled=none)(P:Addr→List α→List Res)(out:List α→List (Tx×β))(B:List α→List Res)
 (it:oH c A L E (eval iter env) target T xs E1 E1) (hB:mK E1 (B []) E2 (B xs)) (hP:∀C,∃P0,P C xs=P0++B xs)
 (h0:∀C HB,aE (B []) [] HB→aE (P C []) (bN scope.names) (aI (aG (cellsFrom (C+1) scope.names []) (fun ν=>none) scope.names)++HB))
 (step:∀C done x rest,xs=done++x::rest→∃E3 E4 E5 k z,Tg c A C (P C done) (aN scope cl C env) target (ar T x) E3∧Ev c A C E3 (eval kx (aN scope cl C env)) (ar ah k) E4∧Ev c A C E4 (eval vx (aN scope cl C env)) (ar U z) E5∧out (done++[x])=put (out done) k z∧Wk E5 (P C (done++[x])))
 (hout:out []=[]) (hsz:∀l,l.length≤xs.length→(out l).length≤1000000) (hp:cP y (loc y (ar (Ty.dct c U) (out xs))) E2 E3)
 (hclos:autoParam (closureFor scope env=pure cl) af) (hs:autoParam (∀x,foldedSetIterable iter env x=pure x) ua) (hkind:autoParam (scope.kind= .function) af) (hn:autoParam ((scope.names.map (·.1)).Nodup) ym)
 (hsw:autoParam (swapsWith (.DictComp kx vx [⟨target,iter,[],0⟩] scope pos) (some (.Name y ypos)) spos.line env=pure true) af) (hL:autoParam (env.locals=L) af) (hk:autoParam (env.scope.kind= .function) af) (hl:autoParam (env.kindOf y=some .local) b7):
 St c A L E (exec (.Assign [.Name y ypos] (.DictComp kx vx [⟨target,iter,[],0⟩] scope pos) spos) env) E3:=fun F s hs'=>by
 refine zj cl (wpAny_mono (it F s hs') (fun v s1 h1=>wpAny_mono h1 (fun it s2 h2=>?_) fun ν ν x=>x) fun ν ν x=>x) hclos hs hkind hn hsw
 obtain⟨Fi,Z,src,⟨W,H,hA,S⟩,back⟩:=h2
 refine av (hB.run hA) fun HB HR hB1 hpm reb=>?_
 have S:=S.perm (G':=Fi 0++(HB++(HR++F))) (by
  rw[List.append_assoc,←List.append_assoc HB]
  exact((hpm.append_left F).trans List.perm_append_comm).append_left _)
 have pE:∀{X Y Z:List Fa},((X++Y)++Z).Perm ((Y++Z)++X):=fun{X Y Z}=>by rw[List.append_assoc];exact List.perm_append_comm
 refine vV src hh U out (fun C done VC G'=>∃HE,aE (P C done) VC HE∧G'=HE++(HR++F)) S hout hsz (fun C=>⟨_,⟨_,h0 C HB hB1,rfl⟩,by rw[List.append_assoc];exact .all⟩) ?_ ?_
 ·intro C a done x rest VC _ X v s e υ11 S;obtain⟨HE,hE,rfl⟩:=υ11
  obtain⟨E3,E4,E5,k,z,h1,h2,h3,e2,h4⟩:=step C done x rest e
  refine wpAny_mono (h1 (.ow (own a (aK c U) (out done)):: .ow (own L bC W)::((HR++F)++X)) s v ⟨VC,HE,hE,S.perm (((pE.cons _).cons _).cons _)⟩) (fun ν s1 g1=>wpAny_mono (h2 _ s1 g1) (fun kv s2 g2=>wpAny_mono (h3 _ s2 g2) (fun y s3 g3=>?_) fun ν ν x=>x) fun ν ν x=>x) fun ν ν x=>x
  refine aB (g3.wk h4) fun VC' HE' hE' S'=>?_
  obtain⟨tk,rfl⟩:=S'.isStr (.tail _ (.head _))
  exact⟨VC',_,z,k,tk,rfl,e2,⟨HE',hE',rfl⟩,(S'.sub (.kn (.head _) (.drop (.drop .all)))).perm (((pE.symm.cons _).cons _).cons _)⟩
 ·intro C a VC _ s' υ5 S;obtain⟨HE,hE,rfl⟩:=υ5
  obtain⟨P0,eP⟩:=hP C
  rw[eP] at hE
  refine fK hE.split fun W1 W2 HP HB' ν4 h2 π86 π87=>?_;rcases π86 with rfl;rcases π87 with rfl
  rw[hB.none h2] at h2
  refine aj (reb _ h2) fun H' h5 h6=>?_
  have S:=(S.freeze (.there .here)).perm (G':=(HP++Z)++((.kn (ar (Ty.dct c U) (out xs) (.ref a)):: .ow (own C bC _)::F)++H')) (by
   refine List.Perm.trans (.cons _ (.cons _ ?_)) (List.perm_middle.trans (List.perm_middle.cons _)).symm
   rw[List.append_assoc HP,List.append_assoc HP,←List.append_assoc HB']
   exact(List.perm_append_comm_assoc ..).trans (((List.perm_append_comm.trans (h6.symm.append_left F)).append_left Z).append_left HP))
  have hd:Hd c L E2 (.kn (ar (Ty.dct c U) (out xs) (.ref a)):: .ow (own C bC _)::F) s':=⟨W,H',h5,S.drops⟩
  refine⟨W,_,_,S.drops.sub (.drop .all),wpAny_assign_Name (hd.wQ hp (fun s'' h=>?_) hL hk hl)⟩
  refine aB h fun W3 H3 hA3 S3=>?_;try clear h
  exact⟨W3,_,_,S3,fun s S=>⟨rfl,W3,H3,hA3,S⟩⟩
end
end Mine
namespace Mine
inductive iW:List Res→List Fa→List Res→Prop
 |done {E:List Res}:iW E [] E
 |take {f:Fa} {l:List Fa} {E E':List Res}:iW E l E'→iW (fa f::E) (f::l) E'
 |skip {r:Res} {l:List Fa} {E E':List Res}:iW E l E'→iW (r::E) l (r::E')
section
variable{c:Cx}{A:Around}{L:Addr}{E E' E1 E2 E3 E4 B B':List Res}{F:List Fa}{s:Shared}{env:PySem.Env}{p q r:Arg}{K:List Fa}{n:Nat}{x name:Str}{o dx:Addr}{AV:bU}{w:Value}{fs gs:List Fa}{xp pos:Pos}{R:Rp}
theorem aE.outs{W:ay}{H:List Fa}(u:iW E fs E')(hA:aE E W H):∃H',H.Perm (fs++H')∧aE E' W H':=by
 induction u generalizing W H with
 |done=>exact⟨H,.refl _,hA⟩
 |take _ ih=>
  cases hA with
  |cons a b=>
   obtain⟨rfl,rfl⟩:=a
   refine aj (ih b) fun H' h1 h2=>?_
   exact⟨H',h1.cons _,h2⟩
 |skip _ ih=>
  cases hA with
  |cons a b=>
   refine aj (ih b) fun H' h1 h2=>?_
   exact⟨_,(h1.append_left _).trans (List.perm_append_comm_assoc ..),.cons a h2⟩
theorem Hd.outs(hs:Hd c L E F s)(u:iW E fs E'):∃W H',aa c L W (fs++(F++H')) s∧aE E' W H':=by
 refine aB hs fun W H hA S=>?_;try clear hs
 refine aj (hA.outs u) fun H' h1 h2=>?_
 exact⟨W,H',S.perm ((h1.append_left F).trans (List.perm_append_comm_assoc ..)),h2⟩
theorem aE.A7{W:ay}{H:List Fa}(h:aE E W H):∀gs:List Fa,aE (gs.map fa++E) W (gs++H)
 | []=>h
 |_::gs=>.cons (W:=[]) (H:=[_]) ⟨rfl,rfl⟩ (h.A7 gs)
noncomputable def wM(c:Cx)(A:Around)(f:List Value→Sem Value)(fs gs:List Fa)(ps:List Arg)(p:Arg):Prop:=
 ∀L W G s vs,aa c L W (fs++G) s→dj ps vs G→Wp c A (f vs) (fun r s'=>aa c L W (.kn (p r)::(gs++G)) s') s
theorem wM.run{f:List Value→Sem Value}{ps:List Arg}{vs:List Value}{X:List Fa}(h:wM c A f fs gs ps r)(u:iW E fs E')(hs:Hd c L E (X++F) s)(ha:dj ps vs X):Wp c A (f vs) (fun v s'=>Hd c L (gs.map fa++E') (.kn (r v)::F) s') s:=by
 refine aB (hs.outs u) fun W H' S hA=>?_
 refine wpAny_mono (h _ _ _ _ _ S (ha.mono fun ν h=>List.mem_append_left _ (List.mem_append_left _ h))) (fun v s' S=>Hd.out (X:=X) ⟨W,gs++H',hA.A7 gs,S.perm (.cons _ ?_)⟩) fun ν ν x=>x
 exact List.perm_append_comm_assoc ..
theorem Ev.yl{e:Expr}{rest:List Expr}{apos:Pos}{f:Addr}{pl:Sem Bool}{ps:List Arg}(g:cg c)(hs:findIn (aO c) (.ref 150) name=some (some (.ref f)))(hf:typeIn (aO c) (.ref f)=some (.type "function"))(hk:keepIn (aO c) (.ref f)=true)
 (h:Ev c A L E (eval (.Name x xp) env) (aD (.ref o)) E) (hx:fa (.kn (held o (aU dx)))∈E) (hd:fa (.ow (own dx aR AV))∈E) (hn:AV.lookup name=Option.none) (ha:oF c A L E (spliced (backTo pos (starEach (e::rest) env))) ps E1) (ho:wM c A (fun vs=>call (.ref f) (.ref o::vs)) fs gs ps r) (u:iW E1 fs E2)
 (hm:autoParam (eval (.Call (.Attribute (.Name x xp) name apos) (e::rest) [] pos) env=(do
   let ov ←eval (.Name x xp) env
   standAt apos.atName
   let (f,first) ←holding [ov] (getMethod ov name pl)
   callWith pos f first (backTo pos (starEach (e::rest) env)) (backToKw pos (keywordEach [] env)))) af)
 (he:autoParam (starEach (e::rest) env=(false,eval e env)::starEach rest env) af) (hp:autoParam ((backTo pos (starEach rest env)).any (·.1)=false) af):Ev c A L E (eval (.Call (.Attribute (.Name x xp) name apos) (e::rest) [] pos) env) r (gs.map fa++E2):=fun F s hs'=>
 vd g hs hf hk (wpAny_mono (h F s hs') (fun ov s1 h1=>by
  have h2:=h1.drop
  refine aB h1 fun W H hA S=>?_;try clear h1
  refine⟨_,_,_,o,dx,AV,S.bK (.head _),S,hA.fact (F:=_::F) hx,hA.fact (F:=_::F) hd,hn,wpAny_mono (ha _ s1 h2) (fun vs s2 ⟨X,h3,_,h4⟩=>⟨?_,ho.run u h4 h3⟩) fun ν ν x=>x⟩
  refine aB h4 fun ν0 ν1 ν2 S=>?_;try clear h4
  exact⟨_,_,_,S⟩) fun ν ν x=>x) hm he hp
theorem Rt.leave(u:iW E fs E'):Rt c A L E (execs [] env) (uv c L fs):=fun F s hs=>by
 refine aB (hs.outs u) fun W H' S ν3=>?_
 exact wpAny_execs_nil ⟨rfl,W,S.sub (Sub.ia .left)⟩
theorem Rt.yr{X:Sem Flow}{V:ay}{G:List Fa}{L0:Addr}(h:Rt c A L E X (uv c L gs))(hs:Hd c L E (.ow (own L0 bC V)::G) s)(hL:sysModules<L0):
 Wp c A X (fun fl s''=>aa c L0 V (.kn (aD .none (match fl with | .ret v=>v|_=>.none))::(gs++G)) s'') s:=
 wpAny_mono (h _ s hs) (fun ν ν ⟨e,W,S⟩=>by subst e;exact((S.perm List.perm_middle).back .here hL).add _ fun ν ν=>rfl) fun ν ν x=>x
theorem aE.f{f:Fa}{W:ay}{H:List Fa}(h:aE E W H):aE (fa f::E) W (f::H):=.cons (W:=[]) (H:=[f]) ⟨rfl,rfl⟩ h
theorem St.iN{α:Type}(T:Ty α){e:Expr}{lp ap epos:Pos}{a:Addr}{xs:List Addr}(h1:Ev c A L E (eval e env) (aD (.ref a)) E1)(u:iW E1 [.ow (own a (ai bW) xs)] E2)(hsz:xs.length≤1000000)
 (he:autoParam (starEach [Expr.List [] lp] env=(false,eval (.List [] lp) env)::starEach [] env) af) (hbase:autoParam (attributeBase e "append" env (eval e env)=eval e env) af) (hfew:autoParam (((backTo pos (starEach [Expr.List [] lp] env)).all (fun x=>!x.1)&&(backToKw pos (keywordEach [] env)).all (fun x=>x.1.isSome)
   &&decide ([Expr.List [] lp].length +([]:List Keyword).length +(if([]:List Keyword).isEmpty then 0 else 1)<30))=true) af) (hline:autoParam ((ap.endLine==pos.line)=true) af)
 (hi:autoParam (interactive env=false) af) (hs:autoParam (swapsWith (.Call (.Attribute e "append" ap) [.List [] lp] [] pos) none epos.line env=pure false) af):St c A L E (exec (.Expr (.Call (.Attribute e "append" ap) [.List [] lp] [] pos) epos) env) E2:=fun F s hs'=>
 jt (f9 (wpAny_mono (h1 F s hs') (fun v s1 g1=>by
  refine aB (g1.outs u) fun W H' S hA=>?_
  rw[S.bK (v:=v) (.tail _ (.head _))]
  exact⟨_,_,cS,S.fD (.head _),spliced_more (List_ (spliced_none (S.nList T [] (fun ν ν=>.nil) (by decide) fun n1 s' S=>spliced_none (S.gB (x:=n1) (.there .here) (fun B k=>rfl) hsz fun s' S=>⟨rfl,rfl,W,H',hA,S.sub (.drop (.drop (.drop .all)))⟩)))) he⟩) fun ν ν x=>x) he (hbase:=hbase) (hfew:=hfew) (hline:=hline)) hi hs
end
end Mine
namespace Mine
section
variable{c:Cx}{A:Around}{n:Nat}
theorem s7{x:Tx}(g:cg c)(ok:Ok A (n+2))(h1:x.length≤10000)(h2:(iz x).length≤10000)(n1:d8 (bD x) [34]=false)(n2:d8 (bD x) [9]=false)(n3:d8 (bD x) [10]=false)(n4:d8 (bD x) [13]=false):Op c A (fun vs=>call (.ref 168) vs) [] [ar ah x] (ar ah (bD x)):=fun L V G s vs S h ν=>by
 refine aj (bH h) fun v π31 hm=>?_;rcases π31 with rfl
 exact qj g S ok hm h1 h2 n1 n2 n3 n4 fun t s' S=>S.wO
structure uW(tag:Tx)(attrs:List (Tx×Tx))(uriOf tlOf:Tx→Tx)(kf:Tx→Tx×Tx)(N:List Tx)(DL AT:List (Tx×Tx)):Prop where
 len:N.length=attrs.length+1
 us:(bw uriOf [] N).length≤21
 each:∀k∈tag::attrs.map (·.1),∃z:Tx×Tx×Tx,at' (br uriOf tlOf [] N) k=some z∧z.1=iG uriOf tlOf N k∧z.2.2=uriOf k∧z.1.length≤200
 lines:∀p∈DL++AT.map fun p=>(iG uriOf tlOf N p.1,p.2),p.1.length≤200∧rL p.2
 told:∀y∈(DL++AT.map fun p=>(iG uriOf tlOf N p.1,p.2)).map bf,y.length≤100000
 nl:(DL++AT.map fun p=>(iG uriOf tlOf N p.1,p.2)).length =(bw uriOf [] N).length +attrs.length
theorem jC.facts{tag:Tx}{attrs:List (Tx×Tx)}{uriOf tlOf:Tx→Tx}{kf:Tx→Tx×Tx}{N:List Tx}{DL AT:List (Tx×Tx)}(hT:jC tag attrs uriOf tlOf kf N DL AT):uW tag attrs uriOf tlOf kf N DL AT:=by
 have hNl:N.length=attrs.length+1:=by rw[hT.perm.length_eq,List.length_cons,List.length_map]
 have hhi:=hT.hi
 have hul:(bw uriOf [] N).length≤21:=by
  have h1:=iD (uriOf:=uriOf) (l:=N) (us:=[])
  simp only[List.length_nil] at h1
  lia
 have hat:∀k∈tag::attrs.map (·.1),∃z:Tx×Tx×Tx,at' (br uriOf tlOf [] N) k=some z∧z.1=iG uriOf tlOf N k∧z.2.2=uriOf k∧z.1.length≤200:=by
  intro k hk
  refine aj (iJ (uriOf:=uriOf) (tlOf:=tlOf) (us:=[]) (hT.perm.mem_iff.mpr hk)) fun us' h1 h2=>?_
  refine⟨_,h2,by unfold iG;rw[h2];rfl,rfl,?_⟩
  have h3:=(hT.each k hk).tl
  simp only[List.length_nil] at h1
  have h4:=bV (i:=(aW us' (uriOf k)).idxOf (uriOf k)) (by
   have:=List.idxOf_le_length (a:=uriOf k) (l:=aW us' (uriOf k))
   have:=fV (us:=us') (u:=uriOf k)
   lia)
  show(bz ((aW us' (uriOf k)).idxOf (uriOf k))++[58]++tlOf k).length≤200
  simp only[List.length_append,List.length_cons,List.length_nil]
  lia
 have hle:∀p∈DL++AT.map fun p=>(iG uriOf tlOf N p.1,p.2),p.1.length≤200∧rL p.2:=by
  intro p hp
  rcases List.mem_append.mp hp with h|h
  ·refine⟨?_,hT.esc p (List.mem_append_left _ h)⟩
   refine aj (List.mem_map.mp (hT.dp.mem_iff.mp h)) fun d hd π32=>?_;rcases π32 with rfl
   refine aj (List.mem_map.mp hd) fun e he π32=>?_;rcases π32 with rfl
   have hi:e.2<(bw uriOf [] N).length:=by have:=List.mem_zipIdx he;exact id (ω113 this)
   have:=bV (i:=e.2) (by exact ω5 hi hul rfl)
   show(cG++bz e.2).length≤200
   rw[List.length_append]
   show 6+_≤_
   lia
  ·refine aj (List.mem_map.mp h) fun y hy π32=>?_;rcases π32 with rfl
   refine⟨?_,hT.esc y (List.mem_append_right _ hy)⟩
   refine iy (hat y.1 (.tail _ (List.mem_map.mpr ⟨y,hT.ap.mem_iff.mp hy,rfl⟩))) fun z' y1 y2 y3 y4=>?_
   show(iG uriOf tlOf N y.1).length≤200
   rw[←y2];exact y4
 refine⟨hNl,hul,hat,hle,fun y hy=>?_,?_⟩
 ·refine aj (List.mem_map.mp hy) fun p hp π32=>?_;rcases π32 with rfl
  obtain⟨h1,h2⟩:=hle p hp
  have:=h2.e2
  unfold bf
  simp only[List.length_append,List.length_cons,List.length_nil]
  lia
 ·rw[List.length_append,List.length_map,hT.ap.length_eq,hT.dp.length_eq,List.length_map,aT]
end
end Mine
namespace Mine
section
variable{c:Cx}{A:Around}{L:Addr}{E E' E1 E2:List Res}{F:List Fa}{s:Shared}{env:PySem.Env}{n:Nat}
theorem Hd.owns{fs:List Fa}(h:Hd c L E (fs++F) s):Hd c L (fs.map fa++E) F s:=by
 refine aB h fun W H hA S=>?_;try clear h
 exact⟨W,fs++H,hA.A7 fs,S.perm (by rw[List.append_assoc];exact List.perm_append_comm_assoc ..)⟩
theorem Hd.nZ{W:ay}{X H fs G:List Fa}{f0:Fa}(ex:Value)(S:aa c L W (X++f0::(fs++G)) s)(hA:aE E W H)(h:qu (.kn (aD ex ex)::(fs++f0::G)) X H):Hd c L (fs.map fa++E) (f0::G) s:=
 (Hd.jf ((S.add (aD ex ex) fun ν ν=>rfl).perm (((List.Perm.append_left X List.perm_middle.symm).cons _).trans List.perm_middle.symm)) hA h).drop.owns
theorem wo{p q r t:Arg}{vs:List Value}{G:List Fa}(h:dj [p,q,r,t] vs G):∃v w x y,vs=[v,w,x,y]∧.kn (p v)∈G∧.kn (q w)∈G∧.kn (r x)∈G∧.kn (t y)∈G:=by
 obtain _|⟨v,vs⟩:=vs
 ·exact h.elim
 ·refine gJ (dG h.2) fun w x y π53 h2=>?_;rcases π53 with rfl
  exact⟨v,w,x,y,rfl,h.1,h2⟩
theorem wz{k f0:Fa}{fs G:List Fa}{ex:Value}(h:k∈G):k∈ .kn (aD ex ex)::(fs++f0::G):=.tail _ (List.mem_append_right _ (.tail _ h))
theorem dN.to{X:Sem Value}{α:Type}{T:Tb α}{a b:α}(h:dN c A L E X T a E')(e:a=b):dN c A L E X T b E':=e▸h
theorem xd.to{elt target iter:Expr}{ifs:List Expr}{scope:Scope}{pos:Pos}{β:Type}{U:Ty β}{z z':List β}{cl:List (Str×Addr)}(h:xd c A L E env elt target iter ifs scope pos cl U z E2)(e:z=z'):xd c A L E env elt target iter ifs scope pos cl U z' E2:=e▸h
end
section
variable{c:Cx}{A:Around}{L:Addr}{E E' E1 E2:List Res}{F:List Fa}{s:Shared}{env:PySem.Env}{n:Nat}{R:Rp}{p:Arg}{gs:List Fa}
noncomputable def p8(c:Cx)(L:Addr)(gs:List Fa)(p:Arg):Rp:=fun F f s'=>∃v W,f= .ret v∧aa c L W (.kn (p v)::(gs++F)) s'
theorem Rt.p8{e:Expr}{pos:Pos}{rest:List Stmt}(h:Ev c A L E (eval e env) p E1)(u:iW E1 gs E'):Rt c A L E (execs (.Return (some e) pos::rest) env) (Mine.p8 c L gs p):=fun F s hs=>
 wpAny_execs_cons (wpAny_Return_some (wpAny_mono (h F s hs) (fun v ν h=>by
  refine aB (h.outs u) fun W H' S ν3=>?_
  exact⟨v,W,rfl,S.sub (.kn (List.mem_append_right _ (.head _)) (Sub.ia (.drop .left)))⟩) fun ν ν x=>x))
theorem Rt.yj{X:Sem Flow}{V:ay}{G:List Fa}{L0:Addr}(h:Rt c A L E X (Mine.p8 c L gs p))(hs:Hd c L E (.ow (own L0 bC V)::G) s)(hL:sysModules<L0):
 Wp c A X (fun fl s''=>aa c L0 V (.kn (p (match fl with | .ret v=>v|_=>.none))::(gs++G)) s'') s:=
 wpAny_mono (h _ s hs) (fun ν ν ⟨v,W,e,S⟩=>by subst e;exact(S.perm ((List.perm_middle.cons _).trans (.swap ..))).back .here hL) fun ν ν x=>x
end
end Mine
namespace Mine
inductive su:List Res→Prop
 |nil:su []
 |str {x:Str} {y:Tx} {E:List Res}:su E→su (loc x (ar ah y)::E)
 |ex {x:Str} {v:Value} {E:List Res}:su E→su (loc x (aD v)::E)
 |un {x:Str} {E:List Res}:su E→su (un x::E)
noncomputable def lZ(H:List Fa):Prop:=∀f∈H,∃k:MP,f= .kn k∧∀B,k.p B
section
variable{c:Cx}{A:Around}{L:Addr}{E E' E1 E2:List Res}{F G H:List Fa}{s:Shared}{env:PySem.Env}{n:Nat}{R:Rp}{W:ay}
theorem lZ.cons{k:MP}(h:∀B,k.p B)(hF:lZ H):lZ (.kn k::H):=fun f hf=>by
 cases hf with
 |head=>exact⟨k,rfl,h⟩
 |tail _ hf=>exact hF f hf
theorem su.tX(h:su E)(hA:aE E W H){B:Mem}(hk:∀k:MP,.kn k∈H→k.p B):lZ H:=by
 induction h generalizing W H with
 |nil=>cases hA;exact fun ν h=>nomatch h
 |str _ ih=>
  obtain⟨_,_,_,_,⟨v,rfl,rfl⟩,hB,rfl,rfl⟩:=hA.inv
  have h1:=hk _ (.head _)
  exact .cons (fun ν=>h1) (ih hB fun k h=>hk k (.tail _ h))
 |ex _ ih=>
  obtain⟨_,_,_,_,⟨v,rfl,rfl⟩,hB,rfl,rfl⟩:=hA.inv
  have h1:=hk _ (.head _)
  exact .cons (fun ν=>h1) (ih hB fun k h=>hk k (.tail _ h))
 |un _ ih=>
  obtain⟨_,_,_,_,⟨v,rfl,rfl⟩,hB,rfl,rfl⟩:=hA.inv
  exact ih hB hk
theorem aa.tX(S:aa c L W G s)(h:lZ H):aa c L W (H++G) s:=by
 induction H with
 |nil=>exact S
 |cons f H ih=>
  refine aj (h f (.head _)) fun k π31 hk=>?_;rcases π31 with rfl
  exact(ih fun f hf=>h f (.tail _ hf)).add k fun B ν=>hk B
theorem aE.BD{fs:List Fa}(h:aE (fs.map fa) W H):W=[]∧H=fs:=by
 induction fs generalizing W H with
 |nil=>cases h;exact⟨rfl,rfl⟩
 |cons f fs ih=>
  refine fK h.inv fun ν0 ν1 ν2 ν3 π84 hA π86 π87=>?_;obtain⟨rfl,rfl⟩:=π84;rcases π86 with rfl;rcases π87 with rfl
  obtain⟨rfl,rfl⟩:=ih hA
  exact⟨rfl,rfl⟩
theorem Hd.names{fs:List Fa}{NM:List Res}(hs:Hd c L (fs.map fa++NM) F s):∃W H,aE NM W H∧aa c L W (fs++(F++H)) s:=by
 refine aB hs fun W H hA S=>?_;try clear hs
 refine fK hA.split fun ν0 ν1 ν2 ν3 h1 h2 π86 π87=>?_;rcases π86 with rfl;rcases π87 with rfl
 obtain⟨rfl,rfl⟩:=h1.BD
 exact⟨_,_,h2,S.perm (List.perm_append_comm_assoc ..)⟩
theorem Hd.xy{fs:List Fa}{NM:List Res}(hA:aE NM W H)(S:aa c L W (fs++(F++H)) s):Hd c L (fs.map fa++NM) F s:=⟨_,_,hA.A7 fs,S.perm (List.perm_append_comm_assoc ..)⟩
noncomputable def fR(c:Cx)(x dx ds d0 d1 pm:Addr)(AV:bU)(us:List Tx):List Fa:=[.ow (own d1 (ai cL) (ak us)),.ow (own pm (aK c ah) (ak us)),.ow (own ds (ai bW) [d0,d1]),.ow (own d0 (ai cL) [(cj,cF)]),.kn (held x (aU dx)),.ow (own dx aR AV)]
theorem w6{x dx ds d0 d1 pm sa:Addr}{AV:bU}{us:List Tx}{uri:Tx}{NM:List Res}{NM1:Tx→Tx→List Res}{target t:Expr}{ret more rest:List Stmt}{orelse:List Stmt}{ip:Pos}(g:cg c)(hgs:c.gs=[])(ok':Ok A (n+2))(h5:us.length≤100)(sl:su NM)(sl1:∀u p,su (NM1 u p))(hR:∀F f s,R F f s→∃v,f= .ret v)
 (step:∀c' done u p rest',ak us++[(cj,cF)]=done++(u,p)::rest'→(∀q∈done,q.1≠uri)→Tg c' A L (fa (.ow (own sa (aZ c') (done.map (·.2))))::NM) env target (ar cL (u,p)) (fa (.ow (own sa (aZ c') (done.map (·.2))))::NM1 u p)∧
   (u=uri→c8 c' A L (fa (.ow (own sa (aZ c') (done.map (·.2))))::NM1 u p) (isTrue t env (eval t env)) true (fa (.ow (own sa (aZ c') (done.map (·.2))))::NM1 u p)∧Rt c A L ((.ow (own sa (aZ c) (done.map (·.2)))::fR c x dx ds d0 d1 pm AV us).map fa++NM1 u p) (execs ret env) R)∧
   (u≠uri→St c' A L (fa (.ow (own sa (aZ c') (done.map (·.2))))::NM1 u p) (execs (.If t ret orelse ip::more) env) (fa (.ow (own sa (aZ c') ((done++[(u,p)]).map (·.2))))::NM)))
 (hend:(∀q∈ak us++[(cj,cF)],q.1≠uri)→Rt c A L ((.ow (own sa (aZ c) ((ak us++[(cj,cF)]).map (·.2)))::fR c x dx ds d0 d1 pm AV us).map fa++NM) (execs rest env) R)
 (hL:env.locals=L) (hA:aE NM W H) (S:aa c L W ((.ow (own sa (aZ c) [])::fR c x dx ds d0 d1 pm AV us)++(F++H)) s) {RR:Result→Shared→Prop} (hr1:∀s,Wp c A (execs rest env) (R F) s→RR (.ok .next) s) (hr2:∀v s,R F (.ret v) s→RR (.ok (.ret v)) s):
 Wp c A (call (.ref 75) [.ref x,.ref ds]) (fun v s1=>Wp c A (pyIter v) (fun it s2=>codeAny (model c.prog c.w) A (.forLoop target it (.If t ret orelse ip::more) [] env) RR s2) s1) s:=by
 have hL':=S.above
 have S0:aa c L W ([own sa (aZ c) []].map Fa.ow++(fR c x dx ds d0 d1 pm AV us++(F++H))) s:=S
 clear S
 refine z8 (S0.snap (by intro w hw;cases hw with |head=>exact fun ν ν ν r=>r|tail _ h=>cases h)) fun B hK hB hP hle S1 back=>?_
 clear S0
 have hF:lZ H:=sl.tX hA (B:=B) fun k hk=>hK.at (List.mem_append_right _ (List.mem_append_right _ hk))
 have home:∀{NM5:List Res} {W5:ay} {H5:List Fa} {s5:Shared} {ys:List Tx},aE NM5 W5 H5→lZ H5→aa (cY c L [own sa (aZ c) []] s) L W5 ([own sa (aZ c) ys].map Fa.ow) s5→Hd c L ((.ow (own sa (aZ c) ys)::fR c x dx ds d0 d1 pm AV us).map fa++NM5) F s5:=fun{NM5 W5 H5 s5 ys} hA5 hF5 S5=>by
  have S6:=back (O':=[own sa (aZ c) ys]) (by intro w hw;cases hw with |head=>exact⟨fun ν ν ν r=>r,by simp⟩|tail _ h=>cases h) S5
  have S7:aa c L W5 (H++(.ow (own sa (aZ c) ys)::(fR c x dx ds d0 d1 pm AV us++F))) s5:=S6.perm (by
   rw[←List.append_assoc (fR c x dx ds d0 d1 pm AV us),←List.append_assoc]
   exact List.perm_append_comm)
  exact .xy hA5 ((S7.drops.tX hF5).perm (List.perm_append_comm.trans (.of_eq (by simp))))
 have g':cg (cY c L [own sa (aZ c) []] s):=g.snap rfl rfl rfl rfl hle
 obtain⟨_,eds,dvs,nds,rfl,rds⟩:=hP (own ds (ai bW) [d0,d1]) (dh.mpr (List.mem_append_left _ (.tail _ (.tail _ (.head _)))))
 obtain⟨_,ed0,vs0,n0,rfl,r0⟩:=hP (own d0 (ai cL) [(cj,cF)]) (dh.mpr (List.mem_append_left _ (.tail _ (.tail _ (.tail _ (.head _))))))
 obtain⟨_,ed1,vs1,n1,rfl,r1⟩:=hP (own d1 (ai cL) (ak us)) (dh.mpr (List.mem_append_left _ (.head _)))
 simp only[kc] at eds ed0 ed1
 have hdvs:dvs=[.ref d0,.ref d1]:=by
  cases rds with |cons h rds=>cases rds with |cons h' rds=>cases rds with |nil=>rw[show _=Value.ref d0 from h,show _=Value.ref d1 from h']
 subst hdvs
 have hlow:∀b o,(cY c L [own sa (aZ c) []] s).hG.get? b=some o→b<s.heap.objs.size:=fun b o e=>by
  have:=Heap.lt_size e
  rwa [show(cY c L [own sa (aZ c) []] s).hG.objs.size =s.heap.objs.size from tN] at this
 have hLlt:L<s.heap.objs.size:=by refine aj S1.ns fun m hn ν2=>?_;exact hn.lt
 have hsalt:sa<s.heap.objs.size:=by refine aB (S1.get (a:=sa) (T:=aZ c) (x:=[]) (.head _)) fun ν0 o e ν3=>?_;exact Heap.lt_size e
 refine uK (c:=cY c L [own sa (aZ c) []] s) (args:=⟨[.ref x,.ref ds],[]⟩) (binds:=[("self",.ref x),("ns_stack",.ref ds),("_reversed",.type "reversed")]) (V':=[("self",some (.ref x)),("ns_stack",some (.ref ds)),("_reversed",some (.type "reversed")),("namespaces",none)]) g' S1 ok' hL' rfl (PySem.W.kp_binds (g'.oK S1) fun ν=>by kernel_rfl) (by kernel_rfl) (by decide+kernel) (by kernel_rfl) (by kernel_rfl) (fun ν=>by kernel_rfl) ?_
 intro C a gn s10 hC hgen S2
 refine av (S2.get (.head _)) fun ν0 oa ea π53 ν4=>?_;obtain⟨⟨hca,nm,qn,hda⟩,hsl⟩:=π53
 refine wpAny_pyIter_gen ⟨oa,nm,qn,ea,hca,hda,hsl⟩ ?_
 have hlen1:vs1.length=us.length:=by rw[r1.length];simp[ak]
 have hlen0:vs0.length=1:=r0.length
 have hne:a≠C:=S2.apart
 have two:∀{Pd:Addr×List Value→Prop},Pd (d0,vs0)→Pd (d1,vs1)→∀p∈[(d0,vs0),(d1,vs1)],Pd p:=fun h0 h1 p hp=>by
  cases hp with
  |head=>exact h0
  |tail _ hp=>cases hp with
   |head=>exact h1
   |tail _ hp=>cases hp
 have hK:BH (cY c L [own sa (aZ c) []] s) A ⟨C,a,ds,[(d0,vs0),(d1,vs1)]⟩ L:=
  {small:=⟨Nat.lt_of_lt_of_le (hlow _ _ eds) hC,two (Nat.lt_of_lt_of_le (hlow _ _ ed0) hC) (Nat.lt_of_lt_of_le (hlow _ _ ed1) hC),two (by simp[hlen0]) (by rw[hlen1];lia),Ne.symm hne⟩
   under:=fun b o e=>Nat.lt_of_lt_of_le (hlow b o e) hC
   L:=Nat.lt_of_lt_of_le hLlt hC
   hh:=ok'.hd
   room:=ok'.room
   gs:=hgs
   low:=⟨⟨_,eds,rfl,nds,rfl⟩,two ⟨_,ed0,rfl,n0,rfl⟩ ⟨_,ed1,rfl,n1,rfl⟩⟩}
 have hgen':=S2.xA (c:=cY c L [own sa (aZ c) []] s) hgen
 have hxs:az (cL.rel (cY c L [own sa (aZ c) []] s).hG.get?) (([(d0,vs0),(d1,vs1)]:List (Addr×List Value)).reverse.flatMap (·.2)) (ak us++[(cj,cF)]):=by
  have e:(([(d0,vs0),(d1,vs1)]:List (Addr×List Value)).reverse.flatMap (·.2))=vs1++vs0:=by simp
  rw[e]
  exact(r1.mono fun ν ν r=>cL.up hB r).append (r0.mono fun ν ν r=>cL.up hB r)
 refine x7 (c:=cY c L [own sa (aZ c) []] s) (α:=Tx×Tx) (T:=cL) (xs:=ak us++[(cj,cF)]) (k:=⟨C,a,ds,[(d0,vs0),(d1,vs1)]⟩) g' hK hxs
  (fun done V O=>(∃H,aE NM V H∧lZ H)∧O=[own sa (aZ c) (done.map (·.2))]∧∀p∈done,p.1≠uri)
  (by
    intro done _ _ υ3 w hw;obtain⟨_,rfl,_⟩:=υ3
    cases hw with
    |head=>exact⟨fun ν ν ν r=>r,Nat.lt_of_lt_of_le hsalt hC⟩
    |tail _ h=>cases h) ?_ (things:=[own C bC [("self",some (.ref x)),("ns_stack",some (.ref ds)),("_reversed",some (.type "reversed")),("namespaces",none)]]) (O:=[own sa (aZ c) []]) hgen' ⟨⟨H,hA,hF⟩,rfl,fun ν h=>nomatch h⟩ ?_ ?_
 ·exact tE hK.small ok'.hd rfl rfl (by kernel_rfl) (by kernel_rfl) (by kernel_rfl) rfl (by simp) (by simp)
 ·intro done υ1 rest' V2 O2 X v s' gs' e υ10 S2;obtain⟨u',p'⟩:=υ1;obtain⟨⟨H2,hA2,hF2⟩,rfl,hne2⟩:=υ10
  refine ny (step ((cY c L [own sa (aZ c) []] s).g gn gs') done u' p' rest' e hne2) fun htg hyes hno=>?_
  have pm:∀{k o:Fa} {X H:List Fa},(H++k::o::X).Perm (k::(X++o::H)):=List.perm_append_comm.trans (.cons _ List.perm_middle.symm)
  refine wpAny_mono (htg X s' v ⟨V2,_,.f hA2,(S2.tX hF2).perm pm⟩) (fun ν s3 h3=>?_) fun ν ν x=>x
  by_cases hu:u'=uri
  ·obtain⟨ht,hk⟩:=hyes hu
   refine wpAny_execs_cons (wpAny_If (wpAny_mono (ht X s3 h3) (fun r s4 ⟨er,h4⟩=>?_) fun ν ν x=>x))
   subst er
   refine aB h4 fun ν0 ν1 hA3 S4=>?_;try clear h4
   refine fK hA3.inv fun ν0 W4 ν2 H4 π84 hA4 π86 π87=>?_;obtain⟨rfl,rfl⟩:=π84;rcases π86 with rfl;rcases π87 with rfl
   have hF4:lZ H4:=by
    obtain⟨B4,S4⟩:=S4
    exact(sl1 u' p').tX hA4 (B:=B4) fun k hk=>S4.know k (bx.mpr (List.mem_append_right _ (.tail _ hk)))
   refine p7 (show Wp c _ _ _ _ from wpAny_mono (hk F s4 (home hA4 hF4 (((S4.perm List.perm_middle).forget (c:=cY c L [own sa (aZ c) []] s) hgs).sub (.own .here .nil)))) (fun f s6 h6=>?_) fun ν ν x=>x)
   obtain⟨v,rfl⟩:=hR _ _ _ h6
   exact hr2 v s6 h6
  ·refine wpAny_mono (hno hu X s3 h3) (fun f s4 ⟨ef,h4⟩=>?_) fun ν ν x=>x
   subst ef
   refine aB h4 fun ν0 ν1 hA3 S4=>?_;try clear h4
   refine fK hA3.inv fun ν0 W4 ν2 H4 π84 hA4 π86 π87=>?_;obtain⟨rfl,rfl⟩:=π84;rcases π86 with rfl;rcases π87 with rfl
   have hF4:lZ H4:=by
    obtain⟨B4,S4⟩:=S4
    exact sl.tX hA4 (B:=B4) fun k hk=>S4.know k (bx.mpr (List.mem_append_right _ (.tail _ hk)))
   refine⟨_,[own sa (aZ c) ((done++[(u',p')]).map (·.2))],⟨⟨H4,hA4,hF4⟩,rfl,fun z hz=>?_⟩,?_⟩
   ·rcases List.mem_append.mp hz with hz|hz
    ·exact hne2 z hz
    ·cases List.mem_singleton.mp hz;exact hu
   ·exact(S4.perm List.perm_middle).sub (.own .here .left)
 ·intro V2 O2 s' υ3 S2;obtain⟨⟨H2,hA2,hF2⟩,rfl,hne2⟩:=υ3
  exact hr1 _ (hend hne2 F s' (home hA2 hF2 S2))
theorem Rt.yQ{x dx ds d0 d1 pm sa:Addr}{AV:bU}{us:List Tx}{uri:Tx}{NM:List Res}{NM1:Tx→Tx→List Res}{target t:Expr}{ret more rest orelse:List Stmt}{ip p1 p2 p3 p4 p5 fp:Pos}{pl:Sem Bool}(g:cg c)(hgs:c.gs=[])(ok':Ok A (n+2))
 (a1:List.lookup ("_declared_ns_stack":Str) AV=some (Value.ref ds)) (a4:List.lookup ("_iter_namespaces":Str) AV=none) (h5:us.length≤100) (hn:loc "self" (aD (.ref x))∈NM) (sl:su NM) (sl1:∀u p,su (NM1 u p)) (hR:∀F f s,R F f s→∃v,f= .ret v)
 (step:∀c' done u p rest',ak us++[(cj,cF)]=done++(u,p)::rest'→(∀q∈done,q.1≠uri)→Tg c' A L (fa (.ow (own sa (aZ c') (done.map (·.2))))::NM) env target (ar cL (u,p)) (fa (.ow (own sa (aZ c') (done.map (·.2))))::NM1 u p)∧
   (u=uri→c8 c' A L (fa (.ow (own sa (aZ c') (done.map (·.2))))::NM1 u p) (isTrue t env (eval t env)) true (fa (.ow (own sa (aZ c') (done.map (·.2))))::NM1 u p)∧Rt c A L ((.ow (own sa (aZ c) (done.map (·.2)))::fR c x dx ds d0 d1 pm AV us).map fa++NM1 u p) (execs ret env) R)∧
   (u≠uri→St c' A L (fa (.ow (own sa (aZ c') (done.map (·.2))))::NM1 u p) (execs (.If t ret orelse ip::more) env) (fa (.ow (own sa (aZ c') ((done++[(u,p)]).map (·.2))))::NM)))
 (hend:(∀q∈ak us++[(cj,cF)],q.1≠uri)→Rt c A L ((.ow (own sa (aZ c) ((ak us++[(cj,cF)]).map (·.2)))::fR c x dx ds d0 d1 pm AV us).map fa++NM) (execs rest env) R)
 (hL:autoParam (env.locals=L) af) (hk:autoParam (env.scope.kind= .function) af) (hl:autoParam (env.kindOf "self"=some .local) b7) (hb:autoParam (env.builtins=builtinsNs) af)
 (hs':autoParam (∀y,foldedSetIterable (.Call (.Attribute (.Name "self" p1) "_iter_namespaces" p2) [.Attribute (.Name "self" p3) "_declared_ns_stack" p4] [] p5) env y=pure y) ua)
 (hm:autoParam (eval (.Call (.Attribute (.Name "self" p1) "_iter_namespaces" p2) [.Attribute (.Name "self" p3) "_declared_ns_stack" p4] [] p5) env=(do
   let ov ←eval (.Name "self" p1) env
   standAt p2.atName
   let (f,first) ←holding [ov] (getMethod ov "_iter_namespaces" pl)
   callWith p5 f first (backTo p5 (starEach [.Attribute (.Name "self" p3) "_declared_ns_stack" p4] env)) (backToKw p5 (keywordEach [] env)))) af)
 (ha:Ev c A L ((.ow (own sa (aZ c) [])::fR c x dx ds d0 d1 pm AV us).map fa++NM) (eval (.Attribute (.Name "self" p3) "_declared_ns_stack" p4) env) (aD (.ref ds)) ((.ow (own sa (aZ c) [])::fR c x dx ds d0 d1 pm AV us).map fa++NM)):
 Rt c A L ((.ow (own sa (aZ c) [])::fR c x dx ds d0 d1 pm AV us).map fa++NM) (execs (.For target (.Call (.Attribute (.Name "self" p1) "_iter_namespaces" p2) [.Attribute (.Name "self" p3) "_declared_ns_stack" p4] [] p5) (.If t ret orelse ip::more) [] fp::rest) env) R:=fun F s hs=>by
 refine wpAny_execs_cons (wpAny_For ?_ hs')
 have hnm:=hs
 refine aB hs fun ν0 ν1 ν2 Sx=>?_;try clear hs
 have hmn:loc "self" (aD (.ref x))∈(Fa.ow (own sa (aZ c) [])::fR c x dx ds d0 d1 pm AV us).map fa++NM:=List.mem_append_right _ hn
 refine vd g (f:=75) (by kernel_rfl) (by kernel_rfl) (by kernel_rfl) (wpAny_mono ((Ev.nm hmn hL hk hl) F s hnm) (fun v s1 h1=>?_) fun ν ν x=>x) hm
 have h2:=h1.drop
 refine aB h1 fun W H hA S=>?_;try clear h1
 refine⟨_,_,_,x,dx,AV,S.bK (.head _),S,hA.fact (F:=_::F) (.tail _ (.tail _ (.tail _ (.tail _ (.tail _ (.head _)))))),hA.fact (F:=_::F) (.tail _ (.tail _ (.tail _ (.tail _ (.tail _ (.tail _ (.head _))))))),a4,spliced_more (wpAny_mono (ha F s1 h2) (fun v s9 h9=>spliced_none ?_) fun ν ν x=>x)⟩
 have h3:=h9.drop
 refine aB h9 fun W H hA S=>?_;try clear h9
 refine⟨⟨_,_,_,S⟩,?_⟩
 rw[S.bK (v:=v) (.head _)]
 clear S hA h2 Sx hnm
 refine aB h3.names fun W H hA S=>?_
 clear h3
 exact w6 g hgs ok' h5 sl sl1 hR (fun c' done u p rest' e hne=>step c' done u p rest' e hne) hend hL hA S (fun ν h=>h) fun ν ν h=>h
end
end Mine
namespace Mine
section
variable{c:Cx}{A:Around}{L:Addr}{E E' E1 E2 E3 E4:List Res}{F G H:List Fa}{s:Shared}{env:PySem.Env}{n:Nat}{R:Rp}{W:ay}{p q:Arg}{K:List Fa}{pos:Pos}
theorem qR{x y:Tx}(hy:y≠[])(hsz:x.length≤1000000)(h2:(cK x y).length≤1000000):zF c A (fun vs=>call (.builtin "str.rsplit") vs) [] [ar ah x,ar ah y,ar ao 1] (ai ah) (cK x y):=fun ν ν ν ν ν S ha ν=>by
 refine tV (dG ha) fun v w z π73 h1 h3 h4=>?_;rcases π73 with rfl
 obtain⟨t,rfl⟩:=S.isStr h1
 obtain⟨u,rfl⟩:=S.isStr h3
 obtain⟨k,rfl⟩:=S.isInt h4
 exact S.uY hy hsz h2 fun a s' S=>⟨a,rfl,S⟩
theorem dN.Bt{pp:Pos}(g:cg c)(hn:nsIn (aO c) mainGlobals "set"=some none)(hg:autoParam (env.globals=mainGlobals) af)(hb:autoParam (env.builtins=builtinsNs) af)(hk:autoParam (env.scope.kind= .function) af)(hx:autoParam (env.kindOf "set"=some .globalImplicit) b7):dN c A L E (eval (.Call (.Name "set" pp) [] [] pos) env) (aZ c) [] E:=by
 intro F s υ2;obtain⟨W,H,hA,S⟩:=υ2
 exact zM (S.bi g (v:=.type "set") hn (by kernel_rfl) (by decide) ⟨rfl,S.Ai fun a s' S=>⟨a,rfl,W,H,hA,S⟩⟩ hg hb hk hx (by kernel_rfl))
theorem pL{a:Addr}{xs:List Tx}{x:Tx}(hsz:xs.length≤4000):Op c A (cop .NotIn) [.ow (own a (aZ c) xs)] [ar ah x,aD (.ref a)] (aD (.bool (!decide (x∈xs)))):=fun ν ν ν ν ν S ha hK=>by
 refine av (aS ha) fun v w π52 h1 h2=>?_;rcases π52 with rfl
 obtain⟨t,rfl⟩:=S.isStr h1
 rw[S.bK h2]
 exact S.sI (hK _ (.head _)) hsz fun s' S=>S.add _ fun ν ν=>rfl
theorem St.setAdd{o e:Expr}{apos epos:Pos}{a:Addr}{xs:List Tx}{y:Tx}(h1:Ev c A L E (eval o env) (aD (.ref a)) E)(hm:fa (.ow (own a (aZ c) xs))∈E)(h2:Ev c A L E (eval e env) (ar ah y) E2)(hu:Upd E2 (fa (.ow (own a (aZ c) xs))) (fa (.ow (own a (aZ c) (xs++[y])))) E3)(hsz:xs.length≤4000)
 (he:autoParam (starEach [e] env=(false,eval e env)::starEach [] env) af) (hbase:autoParam (attributeBase o "add" env (eval o env)=eval o env) af) (hfew:autoParam (((backTo pos (starEach [e] env)).all (fun x=>!x.1)&&(backToKw pos (keywordEach [] env)).all (fun x=>x.1.isSome)
   &&decide ([e].length +([]:List Keyword).length +(if([]:List Keyword).isEmpty then 0 else 1)<30))=true) af) (hline:autoParam ((apos.endLine==pos.line)=true) af)
 (hi:autoParam (interactive env=false) af) (hs:autoParam (swapsWith (.Call (.Attribute o "add" apos) [e] [] pos) none epos.line env=pure false) af):St c A L E (exec (.Expr (.Call (.Attribute o "add" apos) [e] [] pos) epos) env) E3:=fun F s hs'=>by
 refine jt (f9 (wpAny_mono (h1 F s hs') (fun v s1 g1=>?_) fun ν ν x=>x) he (hbase:=hbase) (hfew:=hfew) (hline:=hline)) hi hs
 have g2:=g1
 refine aB g2 fun W H hA S=>?_;try clear g2
 rw[S.bK (.head _)]
 refine⟨_,_,tT,S.zq (hA.fact hm),spliced_more (wpAny_mono (h2 _ s1 g1) (fun w s2 g3=>spliced_none ?_) fun ν ν x=>x) he⟩
 obtain⟨W,R,⟨G,hp,S⟩,hF,back⟩:=g3.turn hu
 obtain⟨t,rfl⟩:=S.isStr (hp.perm.mem_iff.mpr (.tail _ (hF _ (.head _))))
 exact S.xJ hp hsz fun s' S=>⟨rfl,rfl,(back s' S).drop.drop⟩
theorem Ev.Bv{X:Sem Value}{a:Addr}(h:Ev c A L E X (ar bW a) E'):Ev c A L E X (aD (.ref a)) E':=fun F s hs=>
 wpAny_mono (h F s hs) (fun v s' ⟨W,H,hA,S⟩=>⟨W,H,hA,(S.add (aD (.ref a) v) fun B k=>k.at (k:=ar bW a v) (.head _)).sub (.kn (.head _) (.drop (.drop .all)))⟩) fun ν ν x=>x
theorem x6{β:Type}{T:Ty β}{xs:List (Tx×β)}{a:Addr}(hsz:xs.length≤1000000):Op c A (fun vs=>call (.builtin "len") vs) [.ow (own a (aK c T) xs)] [aD (.ref a)] (ar ao xs.length):=fun ν ν ν ν ν S ha hK=>by
 refine aj (bH ha) fun v π31 h1=>?_;rcases π31 with rfl
 rw[S.bK h1]
 exact S.AQ (.inr ⟨_,rfl,hK _ (.head _)⟩) hsz fun t s' S=>S.sY
theorem St.BI{x k:Str}{e o:Expr}{px pk ps:Pos}{d:Addr}{β:Type}{T:Ty β}{xs:List (Tx×β)}{y:β}{z:Tx}(h:Ev c A L E (eval e env) (ar T y) E)(hp:cP x (loc x (ar T y)) E E1)(ho:Ev c A L E1 (eval o env) (aD (.ref d)) E1)(hk':Ev c A L E1 (eval (.Name k pk) env) (ar ah z) E1)
 (hu:Upd E1 (fa (.ow (own d (aK c T) xs))) (fa (.ow (own d (aK c T) (put xs z y)))) E2) (hsz:xs.length≤1000000) (hL:autoParam (env.locals=L) af) (hk:autoParam (env.scope.kind= .function) af) (hl:autoParam (env.kindOf x=some .local) b7)
 (he:autoParam ((assignEach [.Name x px,.Subscript o (.Name k pk) ps] env).map (·.2)=[assign (.Name x px) env,assign (.Subscript o (.Name k pk) ps) env]) af)
 (hw:autoParam (swappedStores [.Name x px,.Subscript o (.Name k pk) ps] e env=pure none) af):St c A L E (exec (.Assign [.Name x px,.Subscript o (.Name k pk) ps] e pos) env) E2:=fun F s hs=>
 wpAny_Assign_two (wpAny_mono (h F s hs) (fun v s1 ⟨W,H,hA,S⟩=>wpAny_assign_Name (Hd.wQ (F:=.kn (ar T y v)::F) hp ⟨W,H,hA,S.add _ fun B k=>k.at (.head _)⟩ (fun s2 h2=>BA (wpAny_mono (ho _ s2 h2) (fun ov s3 h3=>wpAny_mono (hk' _ s3 h3) (fun iv s4 h4=>by
  have h5:=h4
  refine aB h5 fun W H hA S=>?_;try clear h5
  obtain⟨t,rfl⟩:=S.isStr (.head _)
  rw[S.bK (v:=ov) (.tail _ (.head _))]
  exact h4.qg (X:=[_,_,_]) (.tail _ (.tail _ (.head _))) hu hsz fun s' h=>⟨rfl,h⟩) fun ν ν x=>x) fun ν ν x=>x)) hL hk hl)) fun ν ν x=>x) he hw
theorem Rt.Ce{t:Expr}{body orelse rest:List Stmt}(h:c8 c A L E (isTrue t env (eval t env)) true E1)(hR:∀F f s,R F f s→∃v,f= .ret v)(k:Rt c A L E1 (execs body env) R):Rt c A L E (execs (.If t body orelse pos::rest) env) R:=fun F s hs=>
 wpAny_execs_cons (wpAny_If (wpAny_mono (h F s hs) (fun ν s1 ⟨e,h1⟩=>by
  subst e
  exact wpAny_mono (k F s1 h1) (fun f s2 h2=>by
   obtain⟨v,rfl⟩:=hR _ _ _ h2
   exact h2) fun ν ν x=>x) fun ν ν x=>x))
theorem uc{x dx ds d0 d1 pm:Addr}{AV:bU}{us:List Tx}{q uri tag:Tx}(g:cg c)(hgs:c.gs=[])(ok:Ok A (n+4))(a1:List.lookup ("_declared_ns_stack":Str) AV=some (Value.ref ds))(a2:List.lookup ("_prefix_map":Str) AV=some (Value.ref pm))(a3:List.lookup ("_rewrite_prefixes":Str) AV=some (Value.bool true))(a4:List.lookup ("_iter_namespaces":Str) AV=none)
 (h1:cut q none (some 1)=[123]) (h2:cK (cut q (some 1) none) [125]=[uri,tag]) (h3:q.length≤1000) (h4:uri≠cj) (h5:us.length≤100) (h6:tag.length≤1000) (h7:(ak us).Pairwise fun p r=>p.2≠r.2) (h8:∀p∈ak us,p.2≠[]∧p.2.length≤1000) (L:Addr) (W:ay) (G:List Fa) (s:Shared) (v:Value) (Q:Value→Shared→Prop)
 (S:aa c L W (fR c x dx ds d0 d1 pm AV us++G) s) (hm: .kn (ar ah q v)∈G)
 (hQ:∀v s',aa c L W (.kn (is (Ty.tup zX) v (jJ us uri tag))::(fR c x dx ds d0 d1 pm AV (aW us uri)++G)) s'→Q v s'):
 codeAny (model c.prog c.w) A (.call (.ref 90) ⟨[.ref x,v],[]⟩) (fun r s'=>match r with | .ok (.ret v)=>Q v s'| .ok _=>False| .error _=>False) s:=by
 refine oO (args:=⟨[.ref x,v],[]⟩) (binds:=[("self",.ref x),("qname",v),("uri",.none)]) (V':=[("self",some (.ref x)),("qname",some v),("uri",some .none),("tag",none),("prefixes_seen",none),("u",none),("prefix",none)]) (C:=fun ν=>[]) g S ok rfl (PySem.W.kp_binds (g.oK S) fun ν=>by kernel_rfl) (by kernel_rfl) (by decide+kernel) (by kernel_rfl) (by kernel_rfl) (fun ν=>by kernel_rfl) ?_
 intro L' s' S' ok'
 have hd:=Hd.nZ (E:=[loc "self" (aD (.ref x)),loc "qname" (ar ah q),loc "uri" (aD .none),un "tag",un "prefixes_seen",un "u",un "prefix"]) (X:=[]) (f0:=.ow (own L bC W)) (fs:=fR c x dx ds d0 d1 pm AV us) (G:=.kn (aD (.ref x) (.ref x))::G) .none ((S'.add (aD (.ref x) (.ref x)) fun ν ν=>rfl).perm ((((List.Perm.swap ..).trans (.cons _ List.perm_middle.symm)))))
  (.l (.l (.l (.u (.u (.u (.u .nil))))))) (.kn (wz (.head _)) (.kn (wz (.tail _ hm)) (.kn (.head _) .nil)))
 refine wpAny_mono (Rt.yj (gs:=fR c x dx ds d0 d1 pm AV (aW us uri)) (p:=ar (Ty.tup zX) (jJ us uri tag)) ?_ hd S.above) (fun fl s'' S=>hQ _ _ (S.sub (.kn (.head _) (.drop (Sub.ia (.drop .all)))))) fun ν ν x=>x
 clear hd S' S hQ
 show Rt c _ L' [fa (.ow (own d1 (ai cL) (ak us))),fa (.ow (own pm (aK c ah) (ak us))),fa (.ow (own ds (ai bW) [d0,d1])),fa (.ow (own d0 (ai cL) [(cj,cF)])),fa (.kn (held x (aU dx))),fa (.ow (own dx aR AV)),loc "self" (aD (.ref x)),loc "qname" (ar ah q),loc "uri" (aD .none),un "tag",un "prefixes_seen",un "u",un "prefix"] _ _
 refine .cons (.if (b:=true) (.to (.cmp (.nm (by walk_at "m")) .none zD) rfl) (fun ν=>.cons (.unpack (.if (b:=true) (.to (.cmp (.cut (.nm (by walk_at "m")) .no (.yes .int) (by exact ω1 h3 ν)) (.str (y:=[123])) ee) (by rw[h1];rfl)) (fun ν=>.e8 (.to (.fH (.cut (.nm (by walk_at "m")) (.yes .int) .no (by(expose_names;exact ω1 h3 ν_1))) n7 bT (.cons (.str (y:=[125])) (.cons .int .nil)) (qR (x:=cut q (some 1) none) (y:=[125]) (by decide) (by have:=cU q (some 1) none;(expose_names;exact id (ω4 this h3 ν_1))) (by rw[h2];exact Nat.le_of_ble_eq_true rfl))) h2)) (fun h=>nomatch h)) (.lst (xs:=[uri,tag]) ok'.hd (.cons (.nm (by walk_at "c")) (.cons (.nm (by walk_at "c")) .nil)))) .nil) (fun h=>nomatch h)) ?_
 refine .new (.Bt g (by kernel_rfl)) (fun sa=>by walk_at "c") fun sa=>?_
 have hdl:∀{done rest':List (Tx×Tx)} {u p:Tx},ak us++[(cj,cF)]=done++(u,p)::rest'→done.length≤101:=fun e=>by
  have:=congrArg List.length e
  simp only[List.length_append,List.length_cons,aT,List.length_nil] at this
  exact id (ω173 h5 this)
 refine .yQ (d1:=d1) (pm:=pm) (us:=us) (uri:=uri) (NM:=[loc "self" (aD (.ref x)),loc "qname" (ar ah q),loc "uri" (ar ah uri),loc "tag" (ar ah tag),loc "prefixes_seen" (aD (.ref sa)),un "u",un "prefix"]) (NM1:=fun u p=>[loc "self" (aD (.ref x)),loc "qname" (ar ah q),loc "uri" (ar ah uri),loc "tag" (ar ah tag),loc "prefixes_seen" (aD (.ref sa)),loc "u" (ar ah u),loc "prefix" (ar ah p)]) g hgs (n:=n+1) ok' a1 a4 h5 (by walk_at "m") (.ex (.str (.str (.str (.ex (.un (.un .nil))))))) (fun u p=>.ex (.str (.str (.str (.ex (.str (.str .nil))))))) (fun ν ν ν ⟨v,_,e,_⟩=>⟨v,e⟩) (fun c' done u p rest' e hne=>⟨?_,fun hu=>⟨?_,?_⟩,fun hu=>?_⟩) (fun hne=>?_) (ha:=.attr (w:=.ref ds) g (.nm (.tail _ (.tail _ (.tail _ (.tail _ (.tail _ (.tail _ (.tail _ (.head _))))))))) (.tail _ (.tail _ (.tail _ (.tail _ (.tail _ (.head _)))))) (.tail _ (.tail _ (.tail _ (.tail _ (.tail _ (.tail _ (.head _))))))) a1)
 ·exact .tup ok'.hd (.cons .one) (.cons (.nm (by walk_at "c")) (.cons (.nm (by walk_at "c")) .nil))
 ·subst hu
  obtain⟨f1,f2,f3,f4,r',f5⟩:=kB e h4 hne
  have hns:p∉done.map (·.2):=by
   intro hm
   refine aj (List.mem_map.mp hm) fun y hy ey=>?_
   rw[f5] at h7
   exact(List.pairwise_append.mp h7).2.2 y hy (u,p) (.head _) ey
  have hdl:=hdl e
  exact .yN (.to (.cmp (.nm (by walk_at "m")) (.nm (by walk_at "m")) ee) (by simp)) (.to (.cmp (.nm (by walk_at "m")) (.nm (by walk_at "m")) (pL (a:=sa) (xs:=done.map (·.2)) (by rw[List.length_map];(expose_names;exact ω1 (hdl_1 e) rfl))) (lK (.head _))) (by simp[hns]))
 ·subst hu
  obtain⟨f1,f2,f3,f4,r',f5⟩:=kB e h4 hne
  obtain⟨hp0,hp1⟩:=h8 _ f1
  have hp1:p.length≤1000:=hp1
  rw[f2]
  refine .p8 (.to (.tup (x:=(p++[58]++tag,tag,u)) (.cons (.if (b:=true) (.txt (.nm (.tail _ (.tail _ (.tail _ (.tail _ (.tail _ (.tail _ (.tail _ (.tail _ (.tail _ (.tail _ (.tail _ (.tail _ (.tail _ (.head _))))))))))))))) hp0 (by(expose_names;exact ω1 hp1_1 rfl))) (fun ν=>.xr (.fld (y:=p) (.nm (.tail _ (.tail _ (.tail _ (.tail _ (.tail _ (.tail _ (.tail _ (.tail _ (.tail _ (.tail _ (.tail _ (.tail _ (.tail _ (.head _))))))))))))))) (by simp;(expose_names;exact ω1 hp1_1 ν)) (.cst (y:=[58]) (by simp;(expose_names;exact ω1 hp1_1 ν)) (.fld (y:=tag) (.nm (.tail _ (.tail _ (.tail _ (.tail _ (.tail _ (.tail _ (.tail _ (.tail _ (.tail _ (.tail _ (.head _)))))))))))) (by simp;lia) (.nil (by simp;lia)))))) (fun h=>nomatch h)) (.cons (.nm (.tail _ (.tail _ (.tail _ (.tail _ (.tail _ (.tail _ (.tail _ (.tail _ (.tail _ (.tail _ (.head _)))))))))))) (.cons (.nm (.tail _ (.tail _ (.tail _ (.tail _ (.tail _ (.tail _ (.tail _ (.tail _ (.tail _ (.head _))))))))))) .nil))) (.cons (.cons .one))) (by unfold jJ;rw[f2,f3,←f4])) (.skip (.take (.take (.take (.take (.take (.take .done)))))))
 ·have hdl:=hdl e
  rw[show(done++[(u,p)]).map (·.2)=done.map (·.2)++[p] from List.map_append]
  exact .cons (.if (b:=false) (.qK (.to (.cmp (.nm (by walk_at "m")) (.nm (by walk_at "m")) ee) (by simp[hu]))) (fun h=>nomatch h) (fun ν=>.nil)) (.cons (.setAdd (.nm (by walk_at "m")) (by walk_at "m") (.nm (by walk_at "m")) (by walk_at "c") (by rw[List.length_map];(expose_names;exact ω1 (hdl_1 e) rfl))) (.end (by walk_at "k")))
 refine xQ (t9 hne) fun e1 e2 e3 e4 e5 e6=>?_
 have hpl:=bV (i:=us.length) (by exact ω1 h5 rfl)
 have hnl:=fX (n:=(us.length:Int)) (by exact ω19 us.length) (by lia)
 generalize(ak us++[(cj,cF)]).map (·.2)=seen
 show Rt c _ L' [fa (.ow (own sa (aZ c) seen)),fa (.ow (own d1 (ai cL) (ak us))),fa (.ow (own pm (aK c ah) (ak us))),fa (.ow (own ds (ai bW) [d0,d1])),fa (.ow (own d0 (ai cL) [(cj,cF)])),fa (.kn (held x (aU dx))),fa (.ow (own dx aR AV)),loc "self" (aD (.ref x)),loc "qname" (ar ah q),loc "uri" (ar ah uri),loc "tag" (ar ah tag),loc "prefixes_seen" (aD (.ref sa)),un "u",un "prefix"] _ _
 refine .Ce (.val (.attr (w:=.bool true) g (.nm (by walk_at "m")) (by walk_at "m") (by walk_at "m") a3)) (fun ν ν ν ⟨v,_,e,_⟩=>⟨v,e⟩) ?_
 refine .cons (.if (b:=false) (.to (.cmp (.nm (by walk_at "m")) (.attr (w:=.ref pm) g (.nm (by walk_at "m")) (by walk_at "m") (by walk_at "m") a2) (uT (T:=ah) (xs:=ak us) oG) (lK (by walk_at "m"))) (by rw[e2];rfl)) (fun h=>nomatch h) (fun ν=>.cons (.BI (T:=ah) (y:=bz us.length) (xs:=ak us) (.to (.xr (.cst (y:=[110]) (by simp) (.num (i:=us.length) (.to (.bR g (.cons (.attr (w:=.ref pm) g (.nm (by walk_at "m")) (by walk_at "m") (by walk_at "m") a2) .nil) (x6 (T:=ah) (xs:=ak us) (by rw[aT];exact ω1 h5 rfl)) (by kernel_rfl) (by kernel_rfl) (by decide) (lK (by walk_at "m"))) (by rw[aT])) (by exact ω16 h5 rfl) (by simp;lia) (.nil (by simp;exact ω1 hnl rfl))))) rfl) (by walk_at "c") (.attr (w:=.ref pm) g (.nm (by walk_at "m")) (by walk_at "m") (by walk_at "m") a2) (.nm (by walk_at "m")) (by walk_at "c") (by rw[aT];exact ω1 h5 rfl)) .nil)) ?_
 rw[e5]
 refine .cons (.append (T:=cL) (y:=(uri,bz us.length)) (.Bv (.sub (.attr (w:=.ref ds) g (.nm (by walk_at "m")) (by walk_at "m") (by walk_at "m") a1) .neg (kr (T:=bW) (xs:=[d0,d1]) (x:=d1) oG (by decide) (by show-((2:Nat):Int)≤-1;decide) (by decide) rfl) (lK (by walk_at "m")))) (by walk_at "m") (.tup (.cons (.nm (by walk_at "m")) (.cons (.nm (by walk_at "m")) .nil)) (.cons .one)) (by walk_at "c") (by rw[aT];exact ω1 h5 rfl)) ?_
 rw[←e6,e3]
 exact .p8 (.to (.tup (x:=(bz us.length++[58]++tag,tag,uri)) (.cons (.xr (.fld (y:=bz us.length) (.nm (by walk_at "m")) (by simp;exact ω1 hpl rfl) (.cst (y:=[58]) (by simp;exact ω1 hpl rfl) (.fld (y:=tag) (.nm (by walk_at "m")) (by simp;lia) (.nil (by simp;lia)))))) (.cons (.nm (by walk_at "m")) (.cons (.nm (by walk_at "m")) .nil))) (.cons (.cons .one))) (by unfold jJ;rw[e3,e4])) (.skip (.take (.take (.take (.take (.take (.take .done)))))))
end
end Mine
namespace Mine
section
variable{c:Cx}{A:Around}{L:Addr}{E E' E1 E2:List Res}{F:List Fa}{s:Shared}{env:PySem.Env}{n:Nat}
theorem tg{x dx da ds d0 d1 ns n0 pm ps told q:Addr}{tag:Tx}{attrs:List (Tx×Tx)}{uriOf tlOf:Tx→Tx}{kf:Tx→Tx×Tx}{N:List Tx}{DL AT:List (Tx×Tx)}{t0:Tok}(g:cg c)(l:zk c)(hgs:c.gs=[])(hT:jC tag attrs uriOf tlOf kf N DL AT)(ok:Ok A (n+8)):
 wM c A (fun vs=>call (.ref 126) vs) [.ow (own d1 (ai cL) []),.kn (held q (cM told)),.ow (own ps (ai eu) [false]),.ow (own pm (aK c ah) []),.ow (own ns (ai bW) [n0]),.ow (own ds (ai bW) [d0,d1]),.ow (own d0 (ai cL) [(cj,cF)]),.kn (held x (aU dx)),.ow (own dx aR (attrsOf (.ref q) da ds ns pm ps t0)),.ow (own told (ai ah) []),.ow (own 123 (ck (tabObj #[])) ())]
  [.ow (own told (ai ah) (toldOf tag uriOf tlOf N DL AT)),.ow (own 123 j5 ())] [aD (.ref x),ar ah tag,ar (Ty.dct c ah) attrs,aD (.ref d1)] (aD .none):=fun L V G s vs S h=>by
 refine Br (wo h) fun v0 v1 v2 v3 π94 h0 h1 h2 h3=>?_;rcases π94 with rfl
 have hF:=hT.facts
 have hlo:=hT.lo
 have hhi:=hT.hi
 refine b9 (args:=⟨[v0,v1,v2,v3],[]⟩) (binds:=[("self",v0),("tag",v1),("attrs",v2),("new_namespaces",v3),("qname_text",.none)])
  (V':=[("tag",some v1),("attrs",some v2),("new_namespaces",some v3),("qname_text",some .none),("k",none),("v",none),("qnames",none),("resolved_names",none),("qname",none),("qattrs",none),("attr_name",none),("value",none),("parsed_qnames",none),("uri",none),("attr_list",none),("attr_qname",none),("space_behaviour",none),("write",none)])
  (C:=fun L'=>[(L'+1,some v0),(L'+2,none)]) g S ok rfl (W.kp_binds (g.oK S) fun ν=>by kernel_rfl) (by kernel_rfl) (by decide+kernel) (by kernel_rfl) (by kernel_rfl) (fun ν=>by kernel_rfl) fun L' s' S' ok'=>?_
 refine Rt.yr (E:=[fa (.ow (own d1 (ai cL) (ak (bw uriOf [] [])))),fa (.kn (held q (cM told))),fa (.ow (own ps (ai eu) [false])),fa (.ow (own pm (aK c ah) (ak (bw uriOf [] [])))),fa (.ow (own ns (ai bW) [n0])),fa (.ow (own ds (ai bW) [d0,d1])),fa (.ow (own d0 (ai cL) [(cj,cF)])),fa (.kn (held x (aU dx))),fa (.ow (own dx aR (attrsOf (.ref q) da ds ns pm ps t0))),fa (.ow (own told (ai ah) [])),fa (.ow (own 123 (ck (tabObj #[])) ())),
  loc "tag" (ar ah tag),loc "attrs" (ar (Ty.dct c ah) attrs),loc "new_namespaces" (aD (.ref d1)),loc "qname_text" (aD .none),un "k",un "v",un "qnames",un "resolved_names",un "qname",un "qattrs",un "attr_name",un "value",un "parsed_qnames",un "uri",un "attr_list",un "attr_qname",un "space_behaviour",un "write",eW (L'+1) (aD (.ref x)),jE (L'+2)])
  ?_ (Hd.nZ .none S' (.l (.l (.l (.l (.u (.u (.u (.u (.u (.u (.u (.u (.u (.u (.u (.u (.u (.u (.ce (.cu .nil)))))))))))))))))))) (.kn (wz h1) (.kn (wz h2) (.kn (wz h3) (.kn (.head _) (.ow (.kn (wz h0) (.ow .nil)))))))) S.above
 clear S S' h h0 h1 h2 h3
 refine .cons (.if (b:=false) (.qK (.to (.cmp (.attr (w:=.none) g (.ce (ca:=L'+1) rfl (by walk_at "m")) (by walk_at "m") (by walk_at "m") (by kernel_rfl)) .none dJ) rfl)) (fun h=>nomatch h) (fun ν=>.nil)) ?_
 refine .cons (.set (.e8 (.nR g ok'.hd (by kernel_rfl) (.nm (by walk_at "m")) (.nm (by walk_at "m")) hT.nd (by exact ω1 hhi rfl))) (by walk_at "c")) ?_
 refine .cons (.set (.e8 (.dict (T:=ah))) (by walk_at "c")) ?_
 refine .cons (.if (b:=false) (.to (.cmp (.nm (by walk_at "m")) .none dJ) rfl) (fun h=>nomatch h) (fun ν=>.nil)) ?_
 refine .cons (.if (b:=false) (.qK (.to (.cmp (.attr (w:=.none) g (.ce (ca:=L'+1) rfl (by walk_at "m")) (by walk_at "m") (by walk_at "m") (by kernel_rfl)) .none dJ) rfl)) (fun h=>nomatch h) (fun ν=>.cons (.set .none (by walk_at "c")) .nil)) ?_
 refine .cons (.yT (ca:=L'+2) (.bound (f:=90) g (.ce (ca:=L'+1) rfl (by walk_at "m")) (by walk_at "m") (by walk_at "m") (by kernel_rfl) (by kernel_rfl) (by kernel_rfl) (by kernel_rfl) (by kernel_rfl) (by decide+kernel)) rfl (by walk_at "c") jc) ?_
 refine .cons (.AW (T:=ah) (U:=Ty.tup zX) (xs:=N) [("parse_qname",L'+2)] ok'.hd (fun C done=>[un ".0",un "n",fa (.ow (own d1 (ai cL) (ak (bw uriOf [] done)))),fa (.ow (own pm (aK c ah) (ak (bw uriOf [] done)))),fa (.ow (own ds (ai bW) [d0,d1])),fa (.ow (own d0 (ai cL) [(cj,cF)])),fa (.kn (held x (aU dx))),fa (.ow (own dx aR (attrsOf (.ref q) da ds ns pm ps t0))),eW (L'+2) (uU 90 x)]) (br uriOf tlOf []) (fun done=>[fa (.ow (own d1 (ai cL) (ak (bw uriOf [] done)))),fa (.ow (own pm (aK c ah) (ak (bw uriOf [] done)))),fa (.ow (own ds (ai bW) [d0,d1])),fa (.ow (own d0 (ai cL) [(cj,cF)])),fa (.kn (held x (aU dx))),fa (.ow (own dx aR (attrsOf (.ref q) da ds ns pm ps t0))),eW (L'+2) (uU 90 x)])
  (.B6 (.sN (id:="sorted") kf (xs:=tag::attrs.map (·.1)) (ys:=N) g l ok'.hd yI gI (.nm (by walk_at "m")) (by walk_at "c") hT.nd hT.inj (by simp;exact ω87 hlo) (by simp;exact ω197 hhi rfl rfl) (Ok.cl ok') hT.perm hT.srt ?key (by kernel_rfl) (by kernel_rfl) (by decide)))
  (by walk_at "g") (fun C=>⟨[_,_],rfl⟩) (by exact fun C HB h=>.u (.u h)) ?step rfl (fun l hl=>by rw[q8];have:=hF.len;exact id (ω237 hhi hl this rfl)) (by walk_at "c")) ?_
 case key=>
  intro L2 W G s q cc pm ctv y v hy S m1 m2 m3
  have hL2:=S.above
  obtain⟨tv,rfl⟩:=S.isStr m3
  refine uO (args:=⟨[.str (tx y) tv],[]⟩) (binds:=[("n",.str (tx y) tv)]) (V':=[("n",some (.str (tx y) tv))]) g S (n:=n+5) (Ok.Ci (ok'.le (by exact ω115 rfl))) m1 m2 (by kernel_rfl) (by decide+kernel) (by kernel_rfl) (by kernel_rfl) (fun ν=>by kernel_rfl) fun L3 s' S' okl=>?_
  have hn:=hT.each y hy
  refine f9 (S'.nm (.head _) ⟨_,_,cB,ofStr,spliced_more (S'.g5 fun s' S ν=>spliced_more (S.jj fun t1 s' S=>spliced_none ?_))⟩)
  refine S.xU (y:=[125]) (by simp) (by have:=hn.len;exact id (ω1 this rfl)) (by rw[hn.key];exact Nat.le_of_ble_eq_true rfl) fun ra s' S=>?_
  rw[hn.key] at S
  exact(((S.freeze .here).add (is A8 (.ref ra) (kf y)) fun B k=>AS (k.at (.head _))).back (.there (.there .here)) hL2).sub (.kn (.head _) (.drop (.drop .all)))
 case step=>
  intro C done y rest ex
  have hy:y∈tag::attrs.map (·.1):=hT.perm.mem_iff.mp (by rw[ex];simp)
  have hn:=hT.each y hy
  have hul:(bw uriOf [] done).length≤21:=by
   have h1:=iD (uriOf:=uriOf) (l:=done) (us:=[])
   have h2:done.length≤N.length:=by rw[ex];simp
   have:=hF.len
   simp only[List.length_nil] at h1
   lia
  refine⟨_,_,_,y,jJ (bw uriOf [] done) (uriOf y) (tlOf y),.nm (by walk_at "c"),.nm (by walk_at "m"),.Ac (f:=90) (o:=x) (p:=ar ah y) (l:=[(.ow (own d1 (ai cL) (ak (bw uriOf [] done))),.ow (own d1 (ai cL) (ak (aW (bw uriOf [] done) (uriOf y))))),(.ow (own pm (aK c ah) (ak (bw uriOf [] done))),.ow (own pm (aK c ah) (ak (aW (bw uriOf [] done) (uriOf y))))),(.ow (own ds (ai bW) [d0,d1]),.ow (own ds (ai bW) [d0,d1])),(.ow (own d0 (ai cL) [(cj,cF)]),.ow (own d0 (ai cL) [(cj,cF)])),(.kn (held x (aU dx)),.kn (held x (aU dx))),(.ow (own dx aR (attrsOf (.ref q) da ds ns pm ps t0)),.ow (own dx aR (attrsOf (.ref q) da ds ns pm ps t0)))]) g (by kernel_rfl) rfl (by walk_at "m") (.nm (by walk_at "m")) ?_ (by walk_at "c"),?_,by rw[mS];walk_at "k"⟩
  ·exact uc g hgs ok' (by kernel_rfl) (by kernel_rfl) (by kernel_rfl) (by kernel_rfl) hn.b hn.sp hn.len hn.ux (by exact ω1 hul rfl) (by have:=hn.tl;exact id (ω1 this rfl)) (hT.dpw _ (by exact ω1 hul rfl)) (rR (by exact ω1 hul rfl))
  ·rw[jy,nY]
   rw[fY]
   have hnd:=hT.perm.nodup_iff.mpr hT.nd
   rw[ex] at hnd
   exact fun hm=>(List.nodup_append.mp hnd).2.2 y hm y (.head _) rfl
 have hul:=hF.us
 have hu2:=hT.us2
 have hDl:DL.length=(bw uriOf [] N).length:=by rw[hT.dp.length_eq,List.length_map,aT]
 refine .Cp (.to (.lst (T:=cL) (xs:=ak (bw uriOf [] N)) (.nm (by walk_at "m")) oG (lK (by walk_at "m")) (by rw[aT];exact ω1 hul rfl)) (jU (by rw[aT];exact ω147 hu2))) ?_
 refine .Bq (U:=cL) (z:=(ak (bw uriOf [] N)).map fun p=>(cG++p.2,p.1)) (.to (.mk (T:=cL) (U:=cL) (xs:=ak (bw uriOf [] N)) [] ok'.hd (fun C=>[un ".0",un "uri",un "prefix"]) (fun p=>(cG++p.2,p.1)) (fun ν=>true) (.aC (.nm (by walk_at "m")) (by walk_at "c")) (by walk_at "f") (fun C=>⟨[_,_,_],rfl⟩) (by exact fun C HB h=>.u (.u (.u h))) (fun C y hy=>?_) (by rw[aT];exact ω1 hul rfl)) (by rw[iw])) (fun al=>by walk_at "c") fun al=>?_
 ·have hy:=rR (us:=bw uriOf [] N) (by exact ω1 hul rfl) y hy
  exact⟨_,_,.tup ok'.hd (.cons .one) (.cons (.nm (by walk_at "c")) (.cons (.nm (by walk_at "c")) .nil)),.t0,fun ν=>.tup (.cons (.if (b:=true) (.txt (.nm (by walk_at "m")) hy.1 (by exact ω150 (id (And.symm hy)) ν)) (fun ν=>.bin .str (.nm (by walk_at "m")) (fc (by have:=hy.2;rw[sizeLine_eq];show 6+_≤_;(expose_names;exact ω10 this ν_1)))) (fun h=>nomatch h)) (.cons (.nm (by walk_at "m")) .nil)) (.cons .one),by walk_at "k"⟩
 refine .cons (.sort ly gI (.nm (by walk_at "m")) (by walk_at "c") (by rw[List.length_map,aT];exact hu2) (by rw[List.length_map,aT];exact ω2 hul rfl) (Ok.cl ok') hT.dp hT.ds) (.Ba ?_)
 refine .cons (.if (b:=true) (.to (.dct (T:=ah) (xs:=attrs) (.nm (by walk_at "m")) (by exact ω1 hhi rfl)) (jU (by exact ω147 hlo))) (fun ν=>.cons (.for ok'.hd (.Be (.B6 (.o4 (id:="sorted") (ys:=AT) g ok'.hd ly gI (.nm (by walk_at "m")) (by exact hlo) (by exact ω2 hhi ν) (Ok.cl ok') hT.ap hT.as (by kernel_rfl) (by kernel_rfl) (by decide))))
  (fun done=>[fa (.ow (own al (ai cL) (DL++done.map fun p=>(iG uriOf tlOf N p.1,p.2)))),fa (.kn (held q (cM told))),fa (.ow (own ps (ai eu) [false])),fa (.ow (own ns (ai bW) [n0])),fa (.kn (held x (aU dx))),fa (.ow (own dx aR (attrsOf (.ref q) da ds ns pm ps t0))),fa (.ow (own told (ai ah) [])),fa (.ow (own 123 j5 ())),
    loc "tag" (ar ah tag),loc "attrs" (ar (Ty.dct c ah) attrs),un "new_namespaces",loc "qname_text" (aD .none),un "k",un "v",un "qnames",un "resolved_names",un "qname",loc "qattrs" (aD .none),un "attr_name",un "value",loc "parsed_qnames" (ar (Ty.dct c (Ty.tup zX)) (br uriOf tlOf [] N)),un "uri",loc "attr_list" (aD (.ref al)),un "attr_qname",un "space_behaviour",un "write",eW (L'+1) (aD (.ref x)),jE (L'+2)])
  (by rw[List.map_nil,List.append_nil];walk_at "k") fun done y rest ex=>⟨_,.tup ok'.hd (.cons .one) (.cons (.nm (by walk_at "c")) (.cons (.nm (by walk_at "c")) .nil)),?_⟩) .nil) (fun h=>nomatch h)) ?_
 ·have hyA:y∈attrs:=hT.ap.mem_iff.mp (by rw[ex];simp)
  have hy:y.1∈tag::attrs.map (·.1):=.tail _ (List.mem_map.mpr ⟨y,hyA,rfl⟩)
  refine iy (hF.each y.1 hy) fun z z1 z2 z3 z4=>?_
  have hn:=hT.each y.1 hy
  have hdl:done.length≤20:=by
   have:done.length≤AT.length:=by rw[ex];simp
   have:=hT.ap.length_eq
   (expose_names;exact id (ω236 hhi this_1 this ν))
  refine .cons (.if (b:=false) (.qK (.to (.cmp (.nm (by walk_at "m")) .none dJ) rfl)) (fun h=>nomatch h) (fun ν=>.nil)) ?_
  refine .cons (.unpack (.sub (.nm (by walk_at "m")) (.nm (by walk_at "m")) (jO (T:=Ty.tup zX) atK z1)) (.tup ok'.hd (.cons (.cons .one)) (.cons (.nm (by walk_at "c")) (.cons (.nm (by walk_at "c")) (.cons (.nm (by walk_at "c")) .nil))))) ?_
  refine .cons (.append (T:=cL) (y:=(iG uriOf tlOf N y.1,y.2)) (.nm (by walk_at "m")) (by walk_at "m") (.tup (.cons (.if (b:=true) (.txt (.nm (by walk_at "m")) (by rw[z3];exact hn.u0) (by rw[z3];have:=hn.ul;exact id (ω1 this ν))) (fun ν=>.to (.nm (by walk_at "m")) z2) (fun h=>nomatch h)) (.cons (.nm (by walk_at "m")) .nil)) (.cons .one)) (by walk_at "c") (by simp;lia)) (.end ?_)
  rw[List.append_assoc,show(done++[y]).map (fun p:Tx×Tx=>(iG uriOf tlOf N p.1,p.2))=done.map (fun p=>(iG uriOf tlOf N p.1,p.2))++[(iG uriOf tlOf N y.1,y.2)] from List.map_append]
  walk_at "k"
 refine iy (hF.each tag (.head _)) fun z z1 z2 ν3 z4=>?_
 have hLl:(DL++AT.map fun p=>(iG uriOf tlOf N p.1,p.2)).length≤41:=by rw[hF.nl];exact ω9 hul hhi rfl
 have hL0:0<(DL++AT.map fun p=>(iG uriOf tlOf N p.1,p.2)).length:=by rw[hF.nl];lia
 refine .cons (.set (.fH (.nm (by walk_at "m")) k9 vK (.cons .str .nil) (xu (T:=ah) (k:=nt) atK hT.space)) (by walk_at "c")) ?_
 refine .cons (.append (T:=eu) (xs:=[false]) (y:=false) (.attr (w:=.ref ps) g (.ce (ca:=L'+1) rfl (by walk_at "m")) (by walk_at "m") (by walk_at "m") (by kernel_rfl)) (by walk_at "m") (.if (b:=false) (.no (.nm (by walk_at "m"))) (fun h=>nomatch h) (fun ν=>.sub (.attr (w:=.ref ps) g (.ce (ca:=L'+1) rfl (by walk_at "m")) (by walk_at "m") (by walk_at "m") (by kernel_rfl)) .neg (kr (xs:=[false]) oG (by decide) (by decide) (by decide) rfl) (lK (by walk_at "m")))) (by walk_at "c") (by decide)) ?_
 refine .cons (.set (.attr (w:=.ref q) g (.ce (ca:=L'+1) rfl (by walk_at "m")) (by walk_at "m") (by walk_at "m") (by kernel_rfl)) (by walk_at "c")) ?_
 refine .cons (.write (T:=ah) (y:=[60]++iG uriOf tlOf N tag) (.nm (by walk_at "m")) (.bin .str (.to (.sub (.sub (.nm (by walk_at "m")) (.nm (by walk_at "m")) (jO (T:=Ty.tup zX) atK z1)) .int (kq .head (by decide))) z2) (fc (by rw[←z2,sizeLine_eq];show 1+_≤_;exact ω10 z4 rfl))) (by walk_at "c") (by decide)) ?_
 refine .cons (.if (b:=true) (.to (.lst (T:=cL) (xs:=DL++AT.map fun p=>(iG uriOf tlOf N p.1,p.2)) (.nm (by walk_at "m")) oG (lK (by walk_at "m")) (by exact ω1 hLl rfl)) (jU hL0)) (fun ν=>.cons (.write (T:=ah) (.nm (by walk_at "m")) (.fH .str g8 bT (.cons (.e8 (.to (.c9 (T:=cL) (U:=ah) [] ok'.hd (fun C=>[un ".0",un "k",un "v"]) bf (fun ν=>true) (.aC (.nm (by walk_at "m")) (by walk_at "c")) (by walk_at "f") (fun C=>⟨[_,_,_],rfl⟩) (by exact fun C HB h=>.u (.u (.u h))) (fun C y hy=>?_) (by exact ω1 hLl ν)) (by rw[iw]))) .nil) (pQ (x:=[]) atK (by decide) hF.told (by rw[List.length_map];exact ω1 hLl ν))) (by walk_at "c") (Nat.le_of_ble_eq_true rfl)) .nil) (fun h=>nomatch h)) ?_
 ·obtain⟨e1,e2⟩:=hF.lines y hy
  have e3:=e2.len
  have e4:=e2.e2
  exact⟨_,_,.tup ok'.hd (.cons .one) (.cons (.nm (by walk_at "c")) (.cons (.nm (by walk_at "c")) .nil)),.t0,fun ν=>.xr (.cst (y:=[32]) (by simp) (.fld (.nm (by walk_at "m")) (by simp;(expose_names;exact ω10 e1 ν_1)) (.cst (y:=[61,34]) (by simp;(expose_names;exact ω1 e1 ν_1)) (.fld (.dU g (.cons (.nm (by walk_at "m")) .nil) (s7 g (n:=n+5) (ok'.le (by exact ω115 rfl)) (by(expose_names;exact ω1 e3 ν_1)) (by have:=e2.e1;(expose_names;exact id (ω1 this ν_1))) e2.n1 e2.n2 e2.n3 e2.n4) (by kernel_rfl) rfl) (by simp;(expose_names;exact ω229 e1 e4 ν_1)) (.cst (y:=[34]) (by simp;lia) (.nil (by simp;lia))))))),by walk_at "k"⟩
 refine .cons (.write (T:=ah) (y:=[62]) (.nm (by walk_at "m")) .str (by walk_at "c") (Nat.le_of_ble_eq_true rfl)) ?_
 refine .cons (.if (b:=false) (.to (.cmp (.nm (by walk_at "m")) .none dJ) rfl) (fun h=>nomatch h) (fun ν=>.nil)) ?_
 refine .cons (.jI g .bool (.ce (ca:=L'+1) rfl (by walk_at "m")) (by walk_at "c")) ?_
 refine .cons (.iN cL (.attr (w:=.ref ns) g (.ce (ca:=L'+1) rfl (by walk_at "m")) (by walk_at "m") (by walk_at "m") (by kernel_rfl)) (by walk_at "c") (Nat.le_of_ble_eq_true rfl)) ?_
 rw[show toldOf tag uriOf tlOf N DL AT=[]++[[60]++iG uriOf tlOf N tag]++[cE [] ((DL++AT.map fun p=>(iG uriOf tlOf N p.1,p.2)).map bf)]++[[62]] from rfl]
 exact .leave (by walk_at "c")
end
end Mine
namespace Mine
section
variable{c:Cx}{A:Around}{L:Addr}{E E' E1 E2:List Res}{F:List Fa}{s:Shared}{env:PySem.Env}{n:Nat}{fs gs:List Fa}{p r:Arg}{ps:List Arg}
theorem wM.self{f:List Value→Sem Value}{v:Value}(h:wM c A f fs gs (aD v::ps) r):wM c A (fun vs=>f (v::vs)) fs gs ps r:=fun L W G s vs S ha=>
 wpAny_mono (h L W (.kn (aD v v)::G) s (v::vs) ((S.add (aD v v) fun ν ν=>rfl).perm List.perm_middle.symm) ⟨.head _,ha.mono fun ν h=>.tail _ h⟩) (fun ν ν S=>S.sub (.kn (.head _) (.drop (Sub.ia (.drop .all))))) fun ν ν x=>x
theorem Ev.rf{X:Sem Value}{a:Addr}(h:Ev c A L E X (aD (.ref a)) E'):Ev c A L E X (ar bW a) E':=fun F s hs=>
 wpAny_mono (h F s hs) (fun v s' ⟨W,H,hA,S⟩=>⟨W,H,hA,(S.add (ar bW a v) fun B k=>k.at (k:=aD (.ref a) v) (.head _)).sub (.kn (.head _) (.drop (.drop .all)))⟩) fun ν ν x=>x
theorem St.expr{e:Expr}{epos:Pos}(h:Ev c A L E (eval e env) (aD .none) E')(hi:autoParam (interactive env=false) af)(hs:autoParam (swapsWith e none epos.line env=pure false) af):St c A L E (exec (.Expr e epos) env) E':=fun F s hs'=>
 jt (wpAny_mono (h F s hs') (fun ν ν ⟨W,H,hA,S⟩=>⟨S.bK (.head _),rfl,W,H,hA,S.sub (.drop .all)⟩) fun ν ν x=>x) hi hs
theorem wu{x dx da ds d0 ns pm ps told q n0:Addr}{tag:Tx}{attrs:List (Tx×Tx)}{uriOf tlOf:Tx→Tx}{kf:Tx→Tx×Tx}{N:List Tx}{DL AT:List (Tx×Tx)}{t0:Tok}(g:cg c)(l:zk c)(hgs:c.gs=[])(hT:jC tag attrs uriOf tlOf kf N DL AT)(ok:Ok A (n+10)):
 wM c A (fun vs=>call (.ref 120) vs) [.kn (held q (cM told)),.ow (own ps (ai eu) [false]),.ow (own pm (aK c ah) []),.ow (own ns (ai bW) [n0]),.ow (own ds (ai bW) [d0]),.ow (own d0 (ai cL) [(cj,cF)]),.ow (own da (ai ah) []),.kn (held x (aU dx)),.ow (own dx aR (attrsOf (.ref q) da ds ns pm ps t0)),.ow (own told (ai ah) []),.ow (own 123 (ck (tabObj #[])) ())]
  [.ow (own told (ai ah) (toldOf tag uriOf tlOf N DL AT)),.ow (own 123 j5 ())] [aD (.ref x),ar ah tag,ar (Ty.dct c ah) attrs] (aD .none):=fun L V G s vs S h=>by
 refine tV (dG h) fun v0 v1 v2 π73 h0 h1 h2=>?_;rcases π73 with rfl
 refine b9 (args:=⟨[v0,v1,v2],[]⟩) (binds:=[("self",v0),("tag",v1),("attrs",v2)]) (V':=[("self",some v0),("tag",some v1),("attrs",some v2),("new_namespaces",none)])
  (C:=fun ν=>[]) g S ok rfl (W.kp_binds (g.oK S) fun ν=>by kernel_rfl) (by kernel_rfl) (by decide+kernel) (by kernel_rfl) (by kernel_rfl) (fun ν=>by kernel_rfl) fun L' s' S' ok'=>?_
 refine Rt.yr (E:=[fa (.kn (held q (cM told))),fa (.ow (own ps (ai eu) [false])),fa (.ow (own pm (aK c ah) [])),fa (.ow (own ns (ai bW) [n0])),fa (.ow (own ds (ai bW) [d0])),fa (.ow (own d0 (ai cL) [(cj,cF)])),fa (.ow (own da (ai ah) [])),fa (.kn (held x (aU dx))),fa (.ow (own dx aR (attrsOf (.ref q) da ds ns pm ps t0))),fa (.ow (own told (ai ah) [])),fa (.ow (own 123 (ck (tabObj #[])) ())),
  loc "self" (aD (.ref x)),loc "tag" (ar ah tag),loc "attrs" (ar (Ty.dct c ah) attrs),un "new_namespaces"])
  ?_ (Hd.nZ .none S' (.l (.l (.l (.u .nil)))) (.kn (wz h0) (.kn (wz h1) (.kn (wz h2) .nil)))) S.above
 clear S S' h h0 h1 h2
 refine .cons (.if (b:=false) (.qK (.to (.cmp (.attr (w:=.none) g (.nm (by walk_at "m")) (by walk_at "m") (by walk_at "m") (by kernel_rfl)) .none dJ) rfl)) (fun h=>nomatch h) (fun ν=>.nil)) ?_
 refine .cons (.if (b:=false) (.to (.lst (T:=ah) (xs:=[]) (.attr (w:=.ref da) g (.nm (by walk_at "m")) (by walk_at "m") (by walk_at "m") (by kernel_rfl)) oG (lK (by walk_at "m")) (by decide)) rfl) (fun h=>nomatch h) (fun ν=>.nil)) ?_
 refine .new (T:=ai cL) (y:=[]) (.list cL [] .nil rfl) (fun d1=>by walk_at "c") fun d1=>?_
 refine .cons (.append (T:=bW) (xs:=[d0]) (y:=d1) (.attr (w:=.ref ds) g (.nm (by walk_at "m")) (by walk_at "m") (by walk_at "m") (by kernel_rfl)) (by walk_at "m") (.rf (.nm (by walk_at "m"))) (by walk_at "c") (Nat.le_of_ble_eq_true rfl)) ?_
 refine .cons (.if (b:=false) (.qK (.to (.cmp (.attr (w:=.none) g (.nm (by walk_at "m")) (by walk_at "m") (by walk_at "m") (by kernel_rfl)) .none dJ) rfl)) (fun h=>nomatch h) (fun ν=>.nil)) ?_
 refine .cons (.expr (.yl (f:=126) (fs:=[.ow (own d1 (ai cL) []),.kn (held q (cM told)),.ow (own ps (ai eu) [false]),.ow (own pm (aK c ah) []),.ow (own ns (ai bW) [n0]),.ow (own ds (ai bW) ([d0]++[d1])),.ow (own d0 (ai cL) [(cj,cF)]),.kn (held x (aU dx)),.ow (own dx aR (attrsOf (.ref q) da ds ns pm ps t0)),.ow (own told (ai ah) []),.ow (own 123 (ck (tabObj #[])) ())]) g (by kernel_rfl) (by kernel_rfl) (by kernel_rfl) (.nm (by walk_at "m")) (by walk_at "m") (by walk_at "m") (by kernel_rfl) (.cons (.nm (by walk_at "m")) (.cons (.nm (by walk_at "m")) (.cons (.nm (by walk_at "m")) .nil))) (.self (tg (n:=n+1) g l hgs hT ok')) (by walk_at "c"))) ?_
 exact .leave (.take (.take .done))
end
end Mine
namespace Mine
section
variable{c:Cx}{A:Around}{L:Addr}{E E' E2:List Res}{F:List Fa}{s:Shared}{env:PySem.Env}{n:Nat}{fs gs:List Fa}{p r:Arg}{ps:List Arg}{x name:Str}{o dx:Addr}{AV:bU}{w:Value}{xp pos:Pos}{R:Rp}
theorem c8.not{e:Expr}{b:Bool}{whole:Sem Value}(h:c8 c A L E (isTrue e env (eval e env)) b E'):c8 c A L E (isTrue (.UnaryOp .Not e pos) env whole) (!b) E':=fun F s hs=>
 isTrue_not (wpAny_mono (h F s hs) (fun ν ν ⟨e,h⟩=>⟨congrArg Bool.not e,h⟩) fun ν ν x=>x)
theorem Rt.mono{X:Sem Flow}{R':Rp}(h:Rt c A L E X R)(k:∀F f s,R F f s→R' F f s):Rt c A L E X R':=fun F s hs=>wpAny_mono (h F s hs) (k F) fun ν ν x=>x
theorem Rt.mP{β:Type}{v:β→Value}{E1 E2:β→List Res}{e:Expr}{pos':Pos}{rest:List Stmt}(g:cg c)(h:∀F s,Hd c L E F s→Wp c A (eval e env) (fun v' s'=>∃b,v'=v b∧Hd c L (E1 b) F s') s)(hn:∀b,Ev c A L (E1 b) (eval (.Name x xp) env) (aD (.ref o)) (E1 b))
 (u:∀b,rm (E1 b) [(.kn (held o (aU dx)),.kn (held o (aU dx))),(.ow (own dx aR AV),.ow (own dx aR (nA AV name (v b))))] (E2 b)) (k:∀b,Rt c A L (E2 b) (execs rest env) R) (ht:autoParam (takerIn (aO c) 150 name=some none) b7) (hl:autoParam (AV.length≤100) B3)
 (hs:autoParam (swapsWith e (some (.Attribute (.Name x xp) name pos')) pos.line env=pure false) af):Rt c A L E (execs (.Assign [.Attribute (.Name x xp) name pos'] e pos::rest) env) R:=fun F s hs'=>
 wpAny_execs_cons (plainObj_wpAny_Assign_Attribute (wpAny_mono (h F s hs') (fun v s1 ⟨b,e1,h1⟩=>wpAny_mono (hn b _ s1 h1) (fun ov s2 h2=>by
  refine aB (h2.ups (u b)) fun W H' S back=>?_
  rw[S.bK (v:=ov) (.tail _ (.tail _ (.head _))),e1]
  exact S.sA g (.there .here) (.head _) ht hl fun s' S=>k b F s' (back (_::F) s' (S.perm (.swap ..))).drop) fun ν ν x=>x) fun ν ν x=>x) hs)
theorem dN.any{X:Sem Value}{α:Type}{T:Tb α}{y:α}(h:dN c A L E X T y E'):∀F s,Hd c L E F s→Wp c A X (fun v' s'=>∃b,v'= .ref b∧Hd c L (fa (.ow (own b T y))::E') F s') s:=fun F s hs=>
 wpAny_mono (h F s hs) (fun ν ν ⟨b,e,h⟩=>⟨b,e,h.own⟩) fun ν ν x=>x
theorem Rt.iN{α:Type}(T:Ty α){E1:List Res}{E2:Addr→List Res}{e:Expr}{lp ap epos:Pos}{a:Addr}{xs:List Addr}{rest:List Stmt}(h1:Ev c A L E (eval e env) (aD (.ref a)) E1)(u:∀n1,rm E1 [(.ow (own a (ai bW) xs),.ow (own a (ai bW) (xs++[n1])))] (E2 n1))(k:∀n1,Rt c A L (E2 n1) (execs rest env) R)(hsz:xs.length≤1000000)
 (he:autoParam (starEach [Expr.List [] lp] env=(false,eval (.List [] lp) env)::starEach [] env) af) (hbase:autoParam (attributeBase e "append" env (eval e env)=eval e env) af) (hfew:autoParam (((backTo pos (starEach [Expr.List [] lp] env)).all (fun x=>!x.1)&&(backToKw pos (keywordEach [] env)).all (fun x=>x.1.isSome)
   &&decide ([Expr.List [] lp].length +([]:List Keyword).length +(if([]:List Keyword).isEmpty then 0 else 1)<30))=true) af) (hline:autoParam ((ap.endLine==pos.line)=true) af)
 (hi:autoParam (interactive env=false) af) (hs:autoParam (swapsWith (.Call (.Attribute e "append" ap) [.List [] lp] [] pos) none epos.line env=pure false) af):Rt c A L E (execs (.Expr (.Call (.Attribute e "append" ap) [.List [] lp] [] pos) epos::rest) env) R:=fun F s hs'=>
 wpAny_execs_cons (jt (f9 (wpAny_mono (h1 F s hs') (fun v s1 ⟨W,H,hA,S⟩=>by
  rw[S.bK (v:=v) (.head _)]
  refine aB (Hd.ups (F:=_::F) ⟨W,H,hA,S⟩ (u 0)) fun ν0 ν1 S0 ν3=>?_
  refine⟨_,_,cS,S0.fD (.head _),spliced_more (List_ (spliced_none (S.nList T [] (fun ν ν=>.nil) (by decide) fun n1 s' S=>spliced_none ?_))) he⟩
  refine aB (Hd.ups (F:=_::_::F) ⟨W,H,hA,S⟩ (u n1)) fun ν0 ν1 S1 back=>?_
  exact S1.gB (x:=n1) .here (fun B k=>rfl) hsz fun s' S=>⟨rfl,k n1 F s' (back (_::_::F) s' S).drop.drop⟩) fun ν ν x=>x) he (hbase:=hbase) (hfew:=hfew) (hline:=hline)) hi hs)
end
end Mine
namespace Mine
section
variable{c:Cx}{A:Around}{L:Addr}{E E' E2:List Res}{F:List Fa}{s:Shared}{env:PySem.Env}{n:Nat}{R:Rp}{V:ay}{G:List Fa}
structure IK where
 (da ds d0 ns n0 pm ps:Addr) (t:Tok)
noncomputable def iL(c:Cx)(x dx:Addr)(wv:Value)(k:IK):List Fa:=[.ow (own k.ps (ai eu) [false]),.ow (own k.pm (aK c ah) []),.ow (own k.ns (ai bW) [k.n0]),.ow (own k.ds (ai bW) [k.d0]),.ow (own k.d0 (ai cL) [(cj,cF)]),.ow (own k.da (ai ah) []),.kn (held x (aU dx)),.ow (own dx aR (attrsOf wv k.da k.ds k.ns k.pm k.ps k.t))]
noncomputable def Az(c:Cx)(L:Addr)(x dx:Addr)(wv:Value):Rp:=fun F f s'=>f= .next∧∃k W,aa c L W (iL c x dx wv k++F) s'
theorem Ev.as{X:Sem Value}{w:Value}{α:Type}{T:Ty α}{y:α}(h:Ev c A L E X (aD w) E')(hr:∀B,T.rel B w y):Ev c A L E X (ar T y) E':=fun F s hs=>
 wpAny_mono (h F s hs) (fun v s' ⟨W,H,hA,S⟩=>⟨W,H,hA,(S.add (ar T y v) fun B k=>(k.at (k:=aD w v) (.head _):v=w)▸hr B).sub (.kn (.head _) (.drop (.drop .all)))⟩) fun ν ν x=>x
theorem dN.nest{e:Expr}{lp:Pos}{α:Type}{T:Tb α}{y:α}(h:dN c A L E (eval e env) T y E')(he:autoParam (starEach [e] env=(false,eval e env)::starEach [] env) af):
 ∀F s,Hd c L E F s→Wp c A (eval (.List [e] lp) env) (fun v' s'=>∃b:Addr×Addr,v'= .ref b.2∧Hd c L (fa (.ow (own b.2 (ai bW) [b.1]))::fa (.ow (own b.1 T y))::E') F s') s:=fun F s hs=>
 List_ (spliced_more (wpAny_mono (h F s hs) (fun v s1 ⟨d,e,W,H,hA,S⟩=>by
  subst e
  exact spliced_none (S.nList bW [d] (fun B k=>.cons rfl .nil) (Nat.le_of_ble_eq_true rfl) fun b s' S=>⟨(d,b),rfl,Hd.own (Hd.own ⟨W,H,hA,S.perm (.swap ..)⟩)⟩)) fun ν ν x=>x) he)
theorem Upd.eq{r r':Res}(u:Upd E r r' E')(e:r=r'):E'=E:=by
 induction u with
 |here=>rw[e]
 |there _ ih=>rw[ih e]
theorem Rt.re{X:Sem Flow}{r r':Res}(e:r=r')(u:Upd E r r' E')(k:Rt c A L E' X R):Rt c A L E X R:=by
 rwa [u.eq e] at k
theorem vZ{x dx L0:Addr}{wv:Value}{K:List Fa}{Rr:Result→Shared→Prop}{X:Sem Flow}(h:Rt c A L E X (Az c L x dx wv))(hd:Hd c L E (.ow (own L0 bC V)::(K++G)) s)(hL:sysModules<L0)(hQ:∀k s',aa c L0 V (iL c x dx wv k++G) s'→Rr (.ok (.ret .none)) s'):
 Wp c A X (fun fl s''=>Rr (.ok (.ret (match fl with | .ret v=>v|_=>.none))) s'') s:=
 wpAny_mono (h _ _ hd) (fun ν s' h=>by
  obtain⟨rfl,k,_,S⟩:=h
  exact hQ k s' (((S.perm List.perm_middle).back .here hL).sub (Sub.ia (Sub.right .all)))) fun ν ν x=>x
theorem xT{x dx:Addr}{wv:Value}{Rr:Result→Shared→Prop}(g:cg c)(S:aa c L V (.kn (held x (aU dx)):: .ow (own dx aR [])::G) s)(ok:Ok A (n+2))
 (hQ:∀k s',aa c L V (iL c x dx wv k++G) s'→Rr (.ok (.ret .none)) s'):codeAny (model c.prog c.w) A (.call (.ref 67) ⟨[.ref x,wv],[("rewrite_prefixes",.bool true)]⟩) Rr s:=by
 have hL:=S.above
 have S:=S.adds [aD .none .none,aD (.bool false) (.bool false),aD (.bool true) (.bool true),aD (.ref x) (.ref x),aD wv wv] fun B ν k hk=>by
  rcases hk with _|⟨_,_|⟨_,_|⟨_,_|⟨_,_|⟨_,h⟩⟩⟩⟩⟩ <;> first|rfl|cases h
 refine oO (args:=⟨[.ref x,wv],[("rewrite_prefixes",.bool true)]⟩) (binds:=[("self",.ref x),("write",wv),("with_comments",.bool false),("strip_text",.bool false),("rewrite_prefixes",.bool true),("qname_aware_tags",.none),("qname_aware_attrs",.none),("exclude_attrs",.none),("exclude_tags",.none)])
  (V':=[("self",some (.ref x)),("write",some wv),("with_comments",some (.bool false)),("strip_text",some (.bool false)),("rewrite_prefixes",some (.bool true)),("qname_aware_tags",some .none),("qname_aware_attrs",some .none),("exclude_attrs",some .none),("exclude_tags",some .none)]) (C:=fun ν=>[]) g S ok rfl (W.kp_binds (g.oK S) fun ν=>by kernel_rfl) (by kernel_rfl) (by decide+kernel) (by kernel_rfl) (by kernel_rfl) (fun ν=>by kernel_rfl) fun L' s' S' ok'=>?_
 have S':aa c L' _ ((.ow (own L bC V)::[.kn (aD .none .none),.kn (aD (.bool false) (.bool false)),.kn (aD (.bool true) (.bool true)),.kn (aD (.ref x) (.ref x)),.kn (aD wv wv)])++([.kn (held x (aU dx)),.ow (own dx aR [])]++G)) s':=S'
 have hd:Hd c L' [fa (.kn (held x (aU dx))),fa (.ow (own dx aR [])),loc "self" (aD (.ref x)),loc "write" (aD wv),loc "with_comments" (aD (.bool false)),loc "strip_text" (aD (.bool false)),loc "rewrite_prefixes" (aD (.bool true)),loc "qname_aware_tags" (aD .none),loc "qname_aware_attrs" (aD .none),loc "exclude_attrs" (aD .none),loc "exclude_tags" (aD .none)]
  (.ow (own L bC V)::([.kn (aD .none .none),.kn (aD (.bool false) (.bool false)),.kn (aD (.bool true) (.bool true)),.kn (aD (.ref x) (.ref x)),.kn (aD wv wv)]++G)) s':=
  Hd.owns (fs:=[.kn (held x (aU dx)),.ow (own dx aR [])]) (.start (S'.perm (List.perm_append_comm_assoc ..)) (.l (.l (.l (.l (.l (.l (.l (.l (.l .nil))))))))) (by
   have m1:∀{k},k∈[Fa.kn (aD .none .none),.kn (aD (.bool false) (.bool false)),.kn (aD (.bool true) (.bool true)),.kn (aD (.ref x) (.ref x)),.kn (aD wv wv)]→k∈[Fa.kn (held x (aU dx)),.ow (own dx aR [])]++((.ow (own L bC V)::[Fa.kn (aD .none .none),.kn (aD (.bool false) (.bool false)),.kn (aD (.bool true) (.bool true)),.kn (aD (.ref x) (.ref x)),.kn (aD wv wv)])++G):=fun h=>List.mem_append_right _ (List.mem_append_left _ (.tail _ h))
   repeat (first|exact .nil |refine .cons (m1 (by walk_at "m")) ?_)))
 clear S S'
 refine vZ ?_ hd hL hQ
 clear hd
 refine .cons (.jI g (.nm (by walk_at "m")) (.nm (by walk_at "m")) (by walk_at "c")) ?_
 refine .mP (dx:=dx) g (dN.any (.list ah [] .nil rfl)) (fun da=>.nm (by walk_at "m")) (fun da=>by walk_at "c") fun da=>?_
 refine .cons (.jI (dx:=dx) g (.nm (by walk_at "m")) (.nm (by walk_at "m")) (by walk_at "c")) ?_
 refine .cons (.jI (dx:=dx) g (.nm (by walk_at "m")) (.nm (by walk_at "m")) (by walk_at "c")) ?_
 refine .cons (.jI (dx:=dx) g (.if (b:=false) (.no (.nm (by walk_at "m"))) (fun h=>nomatch h) (fun ν=>.none)) (.nm (by walk_at "m")) (by walk_at "c")) ?_
 refine .cons (.jI (dx:=dx) g (.if (b:=false) (.no (.nm (by walk_at "m"))) (fun h=>nomatch h) (fun ν=>.none)) (.nm (by walk_at "m")) (by walk_at "c")) ?_
 refine .cons (.jI (dx:=dx) g (.nm (by walk_at "m")) (.nm (by walk_at "m")) (by walk_at "c")) ?_
 refine .cons (.if (b:=false) (.no (.nm (by walk_at "m"))) (fun h=>nomatch h) (fun ν=>.cons (.jI (dx:=dx) g .none (.nm (by walk_at "m")) (by walk_at "c")) .nil)) ?_
 refine .cons (.if (b:=false) (.no (.nm (by walk_at "m"))) (fun h=>nomatch h) (fun ν=>.cons (.jI (dx:=dx) g .none (.nm (by walk_at "m")) (by walk_at "c")) .nil)) ?_
 refine .mP (dx:=dx) g (dN.nest (.list cL [(cj,cF)] (.cons (.tup (.cons .str (.cons .str .nil)) (.cons .one)) .nil) rfl)) (fun b=>.nm (by walk_at "m")) (fun b=>by walk_at "c") fun b=>?_
 refine .mP (dx:=dx) g (dN.any (.list bW [] .nil rfl)) (fun ns=>.nm (by walk_at "m")) (fun ns=>by walk_at "c") fun ns=>?_
 refine .cons (.if (b:=false) (.to (b:=!true) (.not (.val (.nm (by walk_at "m")))) rfl) (fun h=>nomatch h) (fun ν=>.nil)) ?_
 refine .iN cL (.attr (w:=.ref ns) g (.nm (by walk_at "m")) (by walk_at "m") (by walk_at "m") (by kernel_rfl)) (fun n0=>by walk_at "c") (fun n0=>?_) (by decide)
 refine .mP (dx:=dx) g (dN.any (.dict (T:=ah))) (fun pm=>.nm (by walk_at "m")) (fun pm=>by walk_at "c") fun pm=>?_
 refine .mP (dx:=dx) g (dN.any (.list eu [false] (.cons (.as .bool fun ν=>rfl) .nil) rfl)) (fun ps=>.nm (by walk_at "m")) (fun ps=>by walk_at "c") fun ps=>?_
 refine .cons (.jI (dx:=dx) g .none (.nm (by walk_at "m")) (by walk_at "c")) ?_
 refine .cons (.jI (dx:=dx) g .bool (.nm (by walk_at "m")) (by walk_at "c")) ?_
 refine .cons (.jI (dx:=dx) g .bool (.nm (by walk_at "m")) (by walk_at "c")) ?_
 refine .mP (dx:=dx) (v:=fun t=>.int 0 t) g (fun F s ⟨W,H,hA,S⟩=>S.jj fun t s' S=>⟨t,rfl,W,H,hA,S⟩) (fun t=>.nm (by walk_at "m")) (fun t=>by walk_at "c") fun t=>?_
 refine .re (r:=fa (.ow (own dx aR _))) (r':=fa (.ow (own dx aR (attrsOf wv da b.2 ns pm ps t)))) (congrArg (fun AV=>fa (.ow (own dx aR AV))) ?e) (.there (.there (.there (.there (.there (.there (.there .here))))))) (.mono (.leave (fs:=iL c x dx wv ⟨da,b.2,b.1,ns,n0,pm,ps,t⟩) (.take (.take (.take (.take (.take (.take (.take (.take .done))))))))) fun ν ν ν h=>⟨h.1,_,h.2⟩)
 case e=>kernel_rfl
end
end Mine
namespace Mine
section
variable{c:Cx}{A:Around}{L:Addr}{E E' E1 E2:List Res}{F:List Fa}{s:Shared}{env:PySem.Env}{n:Nat}{R:Rp}
theorem Ev.four{e:Expr}{k:Nat}{p4 sp pos:Pos}{f:bk}(h:Ev c A L E (eval e env) (ar (Ty.tup (bF c)) f) E'):Ev c A L E (eval (.Subscript e (.Slice Option.none (some (.Constant (.int 4) k p4)) Option.none sp) pos) env) (ar (Ty.tup Ao) (f.1,f.2.1,f.2.2.1,f.2.2.2.1)) E':=fun F s hs=>
 Hd.slice h .no (.yes .int) hs fun v a jl jh W H s' e1 e2 hA S=>by
  obtain _|⟨_,t⟩:=jl
  ·obtain _|⟨_,t⟩:=jh
   ·cases e2
   ·cases e2
    exact iY (T:=bF c) (xs:=f) S (.tail _ (.head _)) (S.Ak (T:=Ty.dct c ao) (x:=f) (.tail _ (.head _)) (.head _) fun ν ν S=>⟨W,H,hA,S.sub (.kn (.head _) (.drop (.drop (.drop .all))))⟩)
  ·cases e1
theorem sW{x:Int×Int×Int×Int}{y:Int}:Op c A (zA .Add) [] [ar (Ty.tup Ao) x,ar (Ty.tup (Row.one ao)) y] (ar (Ty.tup yq) (x.1,x.2.1,x.2.2.1,x.2.2.2,y)):=fun ν ν ν ν ν S ha ν=>by
 refine av (aS ha) fun v w π52 h1 h2=>?_;rcases π52 with rfl
 exact S.zg h1 h2 fun ν ν S=>S
theorem oH.BF{X:Sem Value}{target:Expr}{x:pH}(h:Ev c A L E X (ar (Ty.tup yq) x) E'):oH c A L E X target ao [x.1,x.2.1,x.2.2.1,x.2.2.2.1,x.2.2.2.2] E' E':=fun F s hs=>
 wpAny_mono (h F s hs) (fun v s1 ⟨W,H,hA,S⟩=>S.uD (T:=ao) (W:=yq) (x:=x) (.head _) (fun ν ν=>sH) fun it Fi s' src S=>⟨Fi,[],src _,⟨W,H,hA,by
  rw[List.append_assoc]
  exact S.sub (Sub.ia (.drop .all))⟩,fun ν ν h=>h⟩) fun ν ν x=>x
theorem Rt.made{α:Type}{T:Ty α}{to:Addr}{xs:List α}{x id tn:Str}{k0:Nat}{op ap cp kp kvp tp pos' pos:Pos}{rest:List Stmt}{E2:Addr→List Res}(g:cg c)(ok:Ok A (n+3))(hn:Ev c A L E (eval (.Name tn tp) env) (aD (.ref to)) E)(hm:fa (.ow (own to (ai T) xs))∈E)(hid:nsIn (aO c) mainGlobals id=some (some (.ref 150)))(hp:∀a,cP x (loc x (aD (.ref a))) E (E2 a))
 (k:∀a q dx (ik:IK),Rt c A L (fa (.kn (held q (cM to)))::fa (.ow (own ik.ps (ai eu) [false]))::fa (.ow (own ik.pm (aK c ah) []))::fa (.ow (own ik.ns (ai bW) [ik.n0]))::fa (.ow (own ik.ds (ai bW) [ik.d0]))::fa (.ow (own ik.d0 (ai cL) [(cj,cF)]))::fa (.ow (own ik.da (ai ah) []))::fa (.kn (held a (aU dx)))::fa (.ow (own dx aR (attrsOf (.ref q) ik.da ik.ds ik.ns ik.pm ik.ps ik.t)))::E2 a) (execs rest env) R)
 (he:autoParam (starEach [Expr.Attribute (.Name tn tp) "append" ap] env=(false,eval (.Attribute (.Name tn tp) "append" ap) env)::starEach [] env) af) (ha:autoParam (eval (.Attribute (.Name tn tp) "append" ap) env=(do
   let o' ←eval (.Name tn tp) env
   standAt ap.atName
   let r ←holding [o'] (getAttr o' "append" true)
   letTemporaryGo (.Name tn tp) o' r
   pure r)) zW)
 (hs:autoParam (swapsWith (.Call (.Name id cp) [.Attribute (.Name tn tp) "append" ap] [⟨some "rewrite_prefixes",.Constant (.bool true) k0 kvp,kp⟩] pos) (some (.Name x pos')) op.line env=pure false) af) (hL:autoParam (env.locals=L) af) (hk:autoParam (env.scope.kind= .function) af) (hl:autoParam (env.kindOf x=some .local) b7)
 (hg:autoParam (env.globals=mainGlobals) af) (hx:autoParam (env.kindOf id=some .globalImplicit) b7) (hd:autoParam ((id==("__debug__":Str))=false) b7):
 Rt c A L E (execs (.Assign [.Name x pos'] (.Call (.Name id cp) [.Attribute (.Name tn tp) "append" ap] [⟨some "rewrite_prefixes",.Constant (.bool true) k0 kvp,kp⟩] pos) op::rest) env) R:=fun F s hs'=>by
 have hs2:=hs'
 refine aB hs2 fun ν0 ν1 ν2 S=>?_;try clear hs2
 refine wpAny_execs_cons (wpAny_Assign_Name (AD (f:=150) g S hid (by kernel_rfl) (Attribute_Name_ (wpAny_mono (hn F s hs') (fun v s1 h=>?_) fun ν ν x=>x) ha) he hg hk hx hd) hs)
 clear S
 refine aB h fun W H hA S=>?_;try clear h
 rw[S.bK (v:=v) (.head _)]
 refine S.x8 (T:=T) (xs:=xs) (hA.fact (F:=_::F) hm) fun bq s' S=>yy ⟨⟨_,_,_,S⟩,S.make g ok fun a dx s' S A' okA=>xT g S okA fun ik s' S=>⟨rfl,?_⟩⟩
 have hd:Hd c L E (.kn (aD (.ref a) (.ref a))::((.kn (held bq (cM to))::iL c a dx (.ref bq) ik)++F)) s':=⟨W,H,hA,(((S.perm List.perm_middle).sub (.kn (.head _) (.drop (Sub.ia (.drop .all))))).perm (.of_eq (List.append_assoc (Fa.kn (held bq (cM to))::iL c a dx (.ref bq) ik) F H).symm)).add _ fun ν ν=>rfl⟩
 exact hd.wQ (hp a) (fun s'' h=>k a bq dx ik F s'' h.owns) hL hk hl
end
end Mine
namespace Mine
section
variable{c:Cx}{A:Around}{L:Addr}{E E' E1 E2:List Res}{F:List Fa}{s:Shared}{env:PySem.Env}{n:Nat}{R:Rp}{p:Arg}{gs:List Fa}
theorem vq{K:List Fa}{x:Tx}:yX (ar ah x) K "str" c:=fun ν ν ν ν ν S h ν=>by obtain⟨t,rfl⟩:=S.isStr h;exact ofStr
theorem qt{paths:List Tx}{samples:List cO}{uriOf tlOf:Tx→Tx}{kf:Tx→Tx×Tx}{N:List Tx}{DL AT:List (Tx×Tx)}(g:cg c)(l:zk c)(hgs:c.gs=[])(hT:kH paths samples uriOf tlOf kf N DL AT)(ok:Ok A (n+14)):
 wM c A (fun vs=>call (.ref 201) vs) [.ow (own 123 (ck (tabObj #[])) ())] [.ow (own 123 j5 ())] [ar (Ty.list ah) paths,ar (Ty.list (Ty.tup dK)) samples] (ar ah (cE [] (toldOf (aL (paths.headD []) [101]) uriOf tlOf N DL AT))):=fun L V G s vs S h=>by
 obtain⟨v,w,rfl,h1,h2⟩:=aS h
 refine b9 (args:=⟨[v,w],[]⟩) (binds:=[("paths",v),("samples",w)]) (V':=[("paths",some v),("samples",some w),("table",none),("told",none),("path",none),("ticks",none),("cost",none),("entry",none),("values",none),("figures",none),("target",none)]) (C:=fun ν=>[]) g S ok rfl (.of_eq (by kernel_rfl)) (by kernel_rfl) (by decide+kernel) (by kernel_rfl) (by kernel_rfl) (fun ν=>by kernel_rfl) fun L' s' S' ok'=>?_
 refine Rt.yj (E:=[fa (.ow (own 123 (ck (tabObj #[])) ())),loc "paths" (ar (Ty.list ah) paths),loc "samples" (ar (Ty.list (Ty.tup dK)) samples),un "table",un "told",un "path",un "ticks",un "cost",un "entry",un "values",un "figures",un "target"])
  ?_ (Hd.nZ .none S' (.l (.l (.u (.u (.u (.u (.u (.u (.u (.u (.u .nil))))))))))) (.kn (wz h1) (.kn (wz h2) .nil))) S.above
 clear S S' h h1 h2
 refine .yw ok'.hd (.dict (T:=Ty.tup (bF c))) (.list ah [] .nil rfl) (fun ta to=>⟨_,by walk_at "c",by walk_at "c"⟩) fun ta to=>?_
 refine .cons (.for ok'.hd (.list (.nm (by walk_at "m"))) (fun done=>[fa (.ow (own ta (aK c (Ty.tup (bF c))) (tableOf done))),fa (.ow (own to (ai ah) [])),fa (.ow (own 123 (ck (tabObj #[])) ())),loc "paths" (ar (Ty.list ah) paths),loc "samples" (ar (Ty.list (Ty.tup dK)) samples),loc "table" (aD (.ref ta)),loc "told" (aD (.ref to)),un "path",un "ticks",un "cost",un "entry",un "values",un "figures",un "target"])
  (by rw[show tableOf []=[] from rfl];exact .all) fun done y rest ex=>⟨_,.tup ok'.hd (.cons (.cons .one)) (.cons (.nm (by walk_at "c")) (.cons (.nm (by walk_at "c")) (.cons (.nm (by walk_at "c")) .nil))),?_⟩) ?_
 ·obtain⟨hy0,hyl⟩:=hT.se y (by rw[ex];simp)
  obtain⟨hi1,hi2⟩:=pN hy0
  obtain⟨ht1,ht2⟩:=hT.tl done ⟨_,ex⟩
  have e2:tableOf (done++[y])=put (tableOf done) y.1 (fP ((at' (tableOf done) y.1).getD fU) (entryOf y)):=by unfold tableOf;rw[List.foldl_append];rfl
  refine .cons (.nH (ar (Ty.tup (bF c)) (entryOf y)) (.tup (.cons (.if (b:=ic y.1) (.cmp (.fH (.nm (by walk_at "m")) cC bT (.cons (.sub (.nm (by walk_at "m")) .neg (qQ (by decide) hi1 hi2)) .nil) eG) .int nE) (fun h=>.to .int (by rw[if_pos h])) (fun h=>.to .int (by rw[h];rfl))) (.cons .int (.cons (.nm (by walk_at "m")) (.cons (.nm (by walk_at "m")) (.cons (.e8 (.rG (U:=ao) (.cut (.nm (by walk_at "m")) (.yes .neg) (.yes .neg) (by exact ω1 hyl rfl)) .int)) .nil))))) (.cons (.cons (.cons (.cons .one))))) (by walk_at "c")) ?_
  refine .cons (.qg (T:=Ty.tup (bF c)) (xs:=tableOf done) (.dU g (.cons (.fH (.nm (by walk_at "m")) k9 (sM (T:=Ty.tup (bF c))) (.cons (.nm (by walk_at "m")) (.cons (.tup (x:=fU) (.cons .int (.cons .int (.cons .int (.cons .int (.cons (.e8 (.dict (T:=ao))) .nil))))) (.cons (.cons (.cons (.cons .one))))) .nil)) (xm (T:=Ty.tup (bF c)) (xs:=tableOf done) oG) (lK (by walk_at "m")) (lK (by walk_at "m"))) (.cons (.nm (by walk_at "m")) .nil)) (dP (n:=n) g (ok'.le (by first|exact ω250 rfl|exact ω251 rfl)) ?_ (by show 1≤1000;exact ω0 rfl)) (by kernel_rfl) rfl) (.nm (by walk_at "m")) (.nm (by walk_at "m")) (by walk_at "c") (by exact ω1 ht1 rfl)) (.end ?_)
  ·cases hz:at' (tableOf done) y.1 with
   |none=>exact Nat.zero_le _
   |some f=>exact ht2 _ f hz
  ·rw[e2];walk_at "k"
 refine .new (T:=aK c ah) (y:=[]) .dict (fun va=>by walk_at "c") fun va=>?_
 refine .cons (.for ok'.hd (.list (T:=ah) (.nm (by walk_at "m"))) (fun done=>[fa (.ow (own va (aK c ah) (done.map fun p=>(aL p [107],o8 ((at' (tableOf samples) p).getD fU))))),fa (.ow (own ta (aK c (Ty.tup (bF c))) (tableOf samples))),fa (.ow (own to (ai ah) [])),fa (.ow (own 123 (ck (tabObj #[])) ())),loc "paths" (ar (Ty.list ah) paths),loc "samples" (ar (Ty.list (Ty.tup dK)) samples),loc "table" (aD (.ref ta)),loc "told" (aD (.ref to)),un "path",un "ticks",un "cost",un "entry",loc "values" (aD (.ref va)),un "figures",un "target"])
  .all fun done y rest ex=>⟨_,.nm (by walk_at "c"),?_⟩) ?_
 ·obtain⟨f,hf,hsm⟩:=hT.tp y (by rw[ex];simp)
  have hyl:=hT.pe y (by rw[ex];simp)
  have hnl:∀z∈[f.1,f.2.1,f.2.2.1,f.2.2.2.1,(f.2.2.2.2.map (·.2)).sum].map bZ,z.length≤10:=by
   intro z hz
   obtain⟨i,hi,rfl⟩:=List.mem_map.mp hz
   exact fX (hsm i hi).1 (hsm i hi).2
  refine .cons (.nH (ar (Ty.tup yq) (d9 f)) (.bin (.four (.sub (.nm (by walk_at "m")) (.nm (by walk_at "m")) (jO (T:=Ty.tup (bF c)) oG hf) (lK (by walk_at "m")))) (.tup (R:=.one ao) (x:=(f.2.2.2.2.map (·.2)).sum) (.cons (.dU g (.cons (.sub (.sub (.nm (by walk_at "m")) (.nm (by walk_at "m")) (jO (T:=Ty.tup (bF c)) oG hf) (lK (by walk_at "m"))) .int (kq (j:=4) (.tail (.tail (.tail (.tail .one)))) (by show 4<5;decide))) .nil) (fT (n:=n) g (ok'.le (by first|exact ω250 rfl|exact ω251 rfl))) (by kernel_rfl) rfl) .nil) .one) sW) (by walk_at "c")) ?_
  refine .cons (.qg (T:=ah) (k:=aL y [107]) (y:=o8 f) (.fH .str g8 bT (.cons (.e8 (.to (.c9 (U:=ah) [] ok'.hd (fun C=>[un ".0",un "figure"]) bZ (fun ν=>true) (.BF (.nm (by walk_at "m"))) (by walk_at "f") (fun C=>⟨[_,_],rfl⟩) (by exact fun C HB h=>.u (.u h)) (fun C z hz=>⟨_,_,.nm (by walk_at "c"),.t0,fun ν=>.gf g (.cons (.nm (by walk_at "m")) .nil) (wJ (by have h1:=hsm z hz;have h2:=h1.1;have h3:=h1.2;lia)) (by kernel_rfl) (by kernel_rfl) (by decide),by walk_at "k"⟩) (Nat.le_of_ble_eq_true rfl)) (by rw[iw];rfl))) .nil) (xw (x:=[32]) atK (by decide) (fun z hz=>by have:=hnl z hz;exact id (ω1 this rfl)) (Nat.le_of_ble_eq_true rfl))) (.nm (by walk_at "m")) (.to (.bin (.bin .str (.nm (by walk_at "m")) (fc (by rw[sizeLine_eq];show 1+_≤_;lia))) .str (fc (by rw[sizeLine_eq];show y.length+1+2≤_;lia))) rfl) (by walk_at "c") (by rw[List.length_map];have:=hT.pl;have:=congrArg List.length ex;rw[List.length_append] at this;(expose_names;exact id (ω235 this_1 this rfl)))) (.end ?_)
  rw[nY ?_]
  ·rw[List.map_append,show[y].map (fun p=>(aL p [107],o8 ((at' (tableOf samples) p).getD fU)))=[(aL y [107],o8 f)] from by rw[List.map_cons,hf];rfl]
   walk_at "k"
  ·rw[List.map_map]
   intro hm
   obtain⟨p,hp,e⟩:=List.mem_map.mp hm
   have hnd:=hT.nd
   rw[ex] at hnd
   exact(List.nodup_append.mp hnd).2.2 p hp y (.head _) (vJ e)
 have hok:=hT.ok
 generalize(paths.map fun p=>(aL p [107],o8 ((at' (tableOf samples) p).getD fU)))=VS at hok
 obtain⟨p0,pr,hpp⟩:∃p0 pr,paths=p0::pr:=by
  cases h:paths with
  |nil=>exact absurd h hT.p0
  |cons a r=>exact⟨a,r,rfl⟩
 have hp0:paths.headD []=p0:=by rw[hpp];rfl
 rw[hp0] at hok⊢
 have hp0l:=hT.pe p0 (by rw[hpp];simp)
 refine .pre (fun F s hs=>hs.e8 (y:="values") (by walk_at "c") (by walk_at "c") (by walk_at "m")) ?_
 refine .made g (n:=n+10) ok' (T:=ah) (xs:=[]) (.nm (by walk_at "m")) (by walk_at "m") (by kernel_rfl) (fun x=>by walk_at "c") fun x q dx ik=>?_
 refine .cons (.expr (.yl (f:=120) (dx:=dx) g (by kernel_rfl) (by kernel_rfl) (by kernel_rfl) (.nm (by walk_at "m")) (by walk_at "m") (by walk_at "m") (by kernel_rfl) (.cons (.to (.bin (.bin .str (.sub (.nm (by walk_at "m")) .int (dz (xs:=paths) (x:=p0) atK (by decide) (by decide) (by rw[hpp];rfl))) (fc (by rw[sizeLine_eq];show 1+_≤_;lia))) .str (fc (by rw[sizeLine_eq];show p0.length+1+2≤_;lia))) (show _=aL p0 [101] from rfl)) (.cons (.nm (by walk_at "m")) .nil)) (.self (wu (n:=n+3) (q:=q) (told:=to) (da:=ik.da) (ds:=ik.ds) (d0:=ik.d0) (ns:=ik.ns) (n0:=ik.n0) (pm:=ik.pm) (ps:=ik.ps) (t0:=ik.t) g l hgs hok (ok'.le (by first|exact ω250 rfl|exact ω251 rfl)))) (by walk_at "c"))) ?_
 exact .p8 (.fH .str g8 (vq (K:=[.ow (own to (ai ah) (toldOf (aL p0 [101]) uriOf tlOf N DL AT))])) (.cons (.nm (.tail _ (.tail _ (.tail _ (.tail _ (.tail _ (.tail _ (.tail _ (.head _))))))))) .nil) (pQ (x:=[]) oG (by decide) (vo hok) (by show 3≤100;exact ω0 rfl)) (lK (.head _)) (lK (.head _))) (.skip (.take .done))
end
end Mine
namespace Mine
section
variable{c:Cx}{A:Around}{L:Addr}{E E' E1 E2 E3:List Res}{F G:List Fa}{s:Shared}{env:PySem.Env}{p q r:Arg}{K:List Fa}{ps:List Arg}{pos:Pos}
theorem Ev.zK{e:Expr}{rest:List Expr}{id:Str}{pp:Pos}{f:Addr}{f1 f2:Fa}{oc:Value}{od:Option Addr}{osl:Array (Option Value)}{fd:FuncData}(g:cg c)(ha:oF c A L E (spliced (backTo pos (starEach (e::rest) env))) ps E1)(ho:wM c A (fun vs=>call (.ref f) vs) [f1] [f2] ps r)(u:iW E1 [f1] E2)
 (hid:nsIn (aO c) mainGlobals id=some (some (.ref f))) (hf:(aO c).lookup f=some ⟨oc,od,.func fd,osl⟩)
 (he:autoParam (starEach (e::rest) env=(false,eval e env)::starEach rest env) af) (hg:autoParam (env.globals=mainGlobals) af) (hk:autoParam (env.scope.kind= .function) af)
 (hx:autoParam (env.kindOf id=some .globalImplicit) b7) (hd:autoParam ((id==("__debug__":Str))=false) b7):Ev c A L E (eval (.Call (.Name id pp) (e::rest) [] pos) env) r (fa f2::E2):=fun F s hs=>by
 have hs':=hs
 refine aB hs fun W H hA S=>?_;try clear hs
 refine Mine.dU g S hid hf (wpAny_mono (ha F s hs') (fun vs s' h=>?_) fun ν ν x=>x) he hg hk hx hd
 refine bL h fun X h1 ν2 h2=>?_;try clear h
 have h2':=h2
 refine aB h2 fun W H hA S=>?_;try clear h2
 exact⟨⟨_,_,_,S⟩,ho.run u h2' h1⟩
theorem Op.use{V:ay}{f:List Value→Sem Value}{vs:List Value}{Q:Value→Shared→Prop}(o:Op c A f [] ps p)(S:aa c L V G s)(ha:dj ps vs G)(hQ:∀r s',aa c L V (.kn (p r)::G) s'→Q r s'):Wp c A (f vs) Q s:=
 wpAny_mono (o _ _ _ _ _ S ha fun ν h=>nomatch h) (fun r s' S=>hQ r s' S) fun ν ν x=>x
theorem y9{α:Type}[DecidableEq α]{T:Ty α}{m:Nat}(hT:g9 T m){xs ys:List α}(hu:A.units+(m+1)<cLine):Op c A (cop .NotEq) [] [ar (Ty.list T) xs,ar (Ty.list T) ys] (aD (.bool (!decide (xs=ys)))):=fun ν ν ν ν ν S ha ν=>by
 refine av (aS ha) fun v w π52 h1 h2=>?_;rcases π52 with rfl
 exact(S.Aa hT (.inl h1) (.inl h2) hu).2 c.prog c.w _ _ (S.add _ fun ν ν=>rfl)
theorem yK{α:Type}[DecidableEq α]{R:Row α}{m:Nat}(hR:kj R m){x y:α}(hu:A.units+(m+1)<cLine):Op c A (cop .NotEq) [] [ar (Ty.tup R) x,ar (Ty.tup R) y] (aD (.bool (!decide (x=y)))):=fun ν ν ν ν ν S ha ν=>by
 refine av (aS ha) fun v w π52 h1 h2=>?_;rcases π52 with rfl
 exact(S.BV hR h1 h2 hu).2 c.prog c.w _ _ (S.add _ fun ν ν=>rfl)
theorem yU{a b:Int}:Op c A (cop .NotEq) [] [ar ao a,ar ao b] (aD (.bool (a !=b))):=Op.qs fun S=>ne_int (S.add _ fun ν ν=>rfl)
theorem uq{xs:List Tx}{y:Tx}{j:Nat}(hj:xs[j]?=some y)(hno:∀m,m<j→xs[m]?≠some y)(hsz:xs.length≤1000):Op c A (fun vs=>call (.builtin "list.index") vs) [] [ar (Ty.list ah) xs,ar ah y] (ar ao j):=fun ν ν ν ν ν S ha ν=>by
 refine av (aS ha) fun v w π52 h1 h2=>?_;rcases π52 with rfl
 obtain⟨t,rfl⟩:=S.isStr h2
 exact S.xR (.inl h1) hj hno hsz fun t s' S=>S.sY
theorem Ev.cmp{e1 e2:Expr}{op:CmpOp}(h1:Ev c A L E (eval e1 env) p E1)(h2:Ev c A L E1 (eval e2 env) q E2)(h:Op c A (cop op) [] [p,q] r)(hm:autoParam (behindInMarks op e2=false) zW):Ev c A L E (eval (.Compare e1 [op] [e2] pos) env) r E2:=fun F s hs=>
 wpAny_Compare1 (Ev.two h1 h2 hs fun v w ν ha hs=>h.run (vs:=[v,w]) (fun ν h=>nomatch h) hs ha) hm
theorem Ev.cast{X:Sem Value}(h:Ev c A L E X p E')(e:p=q):Ev c A L E X q E':=e▸h
theorem c8.BP{x y:Expr}{b1 b2:Bool}{whole:Sem Value}(h1:c8 c A L E (isTrue x env (eval x env)) b1 E)(h2:c8 c A L E (isTrue y env (eval y env)) b2 E):c8 c A L E (isTrue (.BoolOp .And [x,y] pos) env whole) (b1&&b2) E:=by
 cases b1 with
 |false=>exact h1.qK
 |true=>exact h1.yN h2
theorem c8.BS{x:Expr}{rest:List Expr}{b:Bool}{whole:Sem Value}(h1:c8 c A L E (isTrue x env (eval x env)) false E1)(h2:c8 c A L E1 (isTrue (.BoolOp .Or rest pos) env whole) b E2):c8 c A L E (isTrue (.BoolOp .Or (x::rest) pos) env whole) b E2:=fun F s hs=>
 isTrue_or (wpAny_mono (h1 F s hs) (fun r s1 ⟨e,g1⟩=>by
  subst e
  exact tu (h2 F s1 g1)) fun ν ν x=>x)
theorem c8.Cf{whole:Sem Value}:c8 c A L E (isTrue (.BoolOp .Or [] pos) env whole) false E:=fun ν ν hs=>isTrue_or_nil ⟨rfl,hs⟩
theorem dN.listItems{e:Expr}{pp ap ip:Pos}{β:Type}{T:Ty β}{xs:List (Tx×β)}(g:cg c)(hh:A.handled=none)(h:Ev c A L E (eval e env) (ar (Ty.dct c T) xs) E')
 (hsz:xs.length≤1000) (hn:nsIn (aO c) mainGlobals "list"=some none)
 (hbase:autoParam (attributeBase e "items" env (eval e env)=eval e env) af) (hline:autoParam ((ap.endLine==ip.line)=true) af)
 (he:autoParam (starEach [Expr.Call (.Attribute e "items" ap) [] [] ip] env=(false,eval (.Call (.Attribute e "items" ap) [] [] ip) env)::starEach [] env) af)
 (hg:autoParam (env.globals=mainGlobals) af) (hb:autoParam (env.builtins=builtinsNs) af) (hk:autoParam (env.scope.kind= .function) af) (hx:autoParam (env.kindOf "list"=some .globalImplicit) b7):
 dN c A L E (eval (.Call (.Name "list" pp) [.Call (.Attribute e "items" ap) [] [] ip] [] pos) env) (ai (bY ah T)) xs E':=fun F s hs'=>by
 have hs2:=hs'
 refine aB hs' fun ν0 ν1 ν2 S=>?_;try clear hs'
 refine Mine.gf (b:="list") (S.bi g (v:=.type "list") hn (by kernel_rfl) (by decide) ⟨rfl,spliced_more (k6 (wpAny_mono (h F s hs2) (fun v s1 ⟨W,H,hA,S⟩=>⟨_,_,fG,S.g7 (.head _),S.qW (.head _) fun ad iv s' e S=>spliced_none ?_⟩) fun ν ν x=>x) hbase hline) he⟩ hg hb hk hx (by kernel_rfl)) he
 subst e
 exact S.qY hh (.head _) (.tail _ (.head _)) hsz fun a s' S=>⟨a,rfl,W,H,hA,S.sub (.own .here (.drop (.drop .all)))⟩
theorem tK(l:List Tx)(x:Tx):(l.filter fun y=>(y !=x)&&(cut x none (some (y.length:Int))==y)).map (fun y=>y)=l.filter fun h=>decide (h≠x)&&decide (cut x none (some h.length)=h):=by
 rw[List.map_id']
 refine List.filter_congr fun y ν=>?_
 rw[Bool.eq_iff_iff]
 simp
theorem zH{l:List Tx}{x:Tx}(h:x∈l):l[l.idxOf x]?=some x:=by
 rw[List.getElem?_eq_getElem (List.idxOf_lt_length_iff.mpr h)]
 exact congrArg some (List.getElem_idxOf _)
theorem wY{l:List Tx}{x:Tx}:∀m,m<l.idxOf x→l[m]?≠some x:=fun m hm q=>by
 obtain⟨hml,q⟩:=List.getElem?_eq_some_iff.mp q
 have h5:=List.not_of_lt_findIdx (p:=(·==x)) (xs:=l) (i:=m) hm
 simp[q] at h5
theorem vX{c0:Cx}{n:Nat}{v:Value}{xs:List Int}{oc:Value}{od:Option Addr}{osl:Array (Option Value)}{name qual:Str}{params:Arguments}{body:List Stmt}{scope:Scope}{dV kV doc pm cdv ct cd:Value}{an:Option Addr}{fn:Addr}
 {uriOf tlOf:Tx→Tx} {kf:Tx→Tx×Tx} {N:List Tx} {DL AT:List (Tx×Tx)} {text:Tx} {parts:List Tx} {lines:List Line} {told:List Told} {st:RS} {order:List Tx} {Q:Flow→Shared→Prop}
 (ho:(aO c).lookup 233=some ⟨oc,od,.func (fnOf name qual params body scope dV kV doc pm an cdv ct),osl⟩)
 (hc:c={c0 with tk:=1}) (g:cg c) (l:zk c) (hgs:c.gs=[]) (hlen:xs.length≤63) (hT:rO ([128,80,34,208,85,3]++cut xs none (some 9)) uriOf tlOf kf N DL AT text parts lines told st order)
 (S:aa c0 L [("script",some v),("paths",none),("samples",none),("text",none),("calls",none),("ends",none),("path",none),("sums",none)] (.ow (own (L+1) bB none):: .ow (own 123 (ck (tabObj #[])) ()):: .kn (is (Ty.list ao) v xs)::G) s)
 (ok:Ok A (n+20)) (hQ:∀V s',aa c L V (.ow (own 123 j5 ())::G) s'→Q (.ret (.bool true)) s'):
 Wp c A (execs body (envOfC qual scope L fn cd)) Q s:=by
 have h1:(aO c).lookup 233=some ⟨_,_,.func (fnOf _ _ _ _ _ _ _ _ _ _ _ _),_⟩:=rfl
 have h2:=h1.symm.trans ho
 injection h2 with h2
 injection h2 with _ _ h3 _
 injection h3 with h3
 obtain rfl:qual=_:=(congrArg FuncData.qualname h3).symm
 obtain rfl:scope=_:=(congrArg FuncData.scope h3).symm
 have h4:=congrArg FuncData.body h3
 have h5:FuncBody.stmts body=_:=h4.symm
 injection h5 with h5
 subst h5
 clear h1 h3 h4 ho
 have hL:=S.above
 have hTg:=hT.tag
 obtain⟨nums,hnums⟩:∃nums,nums=[128,80,34,208,85,3]++cut xs none (some 9):=⟨_,rfl⟩
 rw[←hnums] at hT hTg
 refine wpAny_execs_cons (Assign_Tuple (zh hc (f:=196) g S (by kernel_rfl) rfl (spliced_more (wpAny_BinOp (List_ (spliced_more (wpAny_Constant_int ?_)))))))
 have S:=S.begun
 rw[←hc] at S
 refine(spliced_more (S.jj fun i2 s' S=>spliced_more (S.jj fun i3 s' S=>spliced_more (S.jj fun i4 s' S=>spliced_more (S.jj fun i5 s' S=>spliced_more (S.jj fun i6 s' S=>spliced_none ?_))))))
 refine S.nList ao [128,80,34,208,85,3] (fun B k=>.cons ⟨_,rfl⟩ (.cons ⟨_,rfl⟩ (.cons ⟨_,rfl⟩ (.cons ⟨_,rfl⟩ (.cons ⟨_,rfl⟩ (.cons ⟨_,rfl⟩ .nil)))))) (Nat.le_of_ble_eq_true rfl) fun a1 s' S=>t7 (S.nm (by walk_at "m") (aa.slice (yo (yE (S.jj fun t1 s' S=>⟨_,_,_,S,fun sl s' S=>?_⟩)))))
 refine fm (T:=ao) (xs:=xs) S (by walk_at "m") (S.oY (T:=ao) (xs:=xs) (lo:=none) (hi:=some 9) (by walk_at "m") (by walk_at "m") .none (.int _ _) (by exact ω1 hlen rfl) fun a2 s' S=>?_)
 have hcl:(cut xs none (some 9)).length≤63:=Nat.le_trans (cU ..) hlen
 refine S.Ar (T:=ao) (xs:=[128,80,34,208,85,3]) (ys:=cut xs none (some 9)) (by walk_at "m") (by walk_at "m") (by show 6+_≤_;exact ω10 hcl rfl) fun a3 s' S=>spliced_none ⟨⟨_,_,_,S⟩,?_⟩
 rw[←hnums] at S
 have S:=S.freeze .here
 have hnl:nums.length≤100:=by rw[hnums,List.length_append];show 6+_≤_;exact ω10 hcl rfl
 refine(k8 (n:=n+10) g (ok.le (by first|exact ω250 rfl|exact ω251 rfl)) hnl).use (vs:=[.ref a3]) S ⟨(by walk_at "m":Fa.kn (is (Ty.list ao) (.ref a3) nums)∈_),trivial⟩ fun v1 s' S=>?_
 refine S.Bm (T:=Ty.list ah) (U:=Ty.list (Ty.tup dK)) (x:=au nums) ok.hd (.head _) fun vp vs s' S=>?_
 obtain⟨ps,hps⟩:∃ps,ps=(au nums).1:=⟨_,rfl⟩
 obtain⟨ss,hss⟩:∃ss,ss=(au nums).2:=⟨_,rfl⟩
 rw[←hps,←hss] at S
 have S:=S.sub (G':=.ow (own 123 (ck (tabObj #[])) ()):: .kn (is (Ty.list ah) vp ps):: .kn (is (Ty.list (Ty.tup dK)) vs ss):: .ow (own (L+1) bB none)::G) (by walk_at "s")
 refine lF (wpAny_assign_Name (S.st (by walk_at "c") fun s' S=>lF (wpAny_assign_Name (S.st (by walk_at "c") fun s' S=>uX ?_))))
 have hst:Hd c L [fa (.ow (own 123 (ck (tabObj #[])) ())),un "script",loc "paths" (ar (Ty.list ah) ps),loc "samples" (ar (Ty.list (Ty.tup dK)) ss),un "text",un "calls",un "ends",un "path",un "sums",jE (L+1)] (.kn (ar (Ty.list ah) ps vp):: .kn (ar (Ty.list (Ty.tup dK)) ss vs)::G) _:=
  .jf (X:=[.ow (own 123 (ck (tabObj #[])) ()),.ow (own (L+1) bB none)]) (S.perm ((List.perm_append_comm_assoc [_,_] [_] _).cons _)) (.f (.u (.l (.l (.u (.u (.u (.u (.u (.cu .nil)))))))))) (.ow (.kn (.head _) (.kn (.tail _ (.head _)) (.ow .nil))))
 refine wpAny_mono ((?_:Rt c _ L _ _ (p8 c L [.ow (own 123 j5 ())] (aD (.bool true)))) _ _ hst) (fun f s' ⟨v,W,e,S⟩=>by
  rw[e,S.bK (.head _)]
  exact hQ _ _ (S.sub (.drop (.own .here (.drop (.drop .all)))))) fun ν ν x=>x
 clear hst S
 rw[←hps,←hss] at hTg
 have hpn:ps.Nodup:=hTg.nd
 have hpl:ps.length≤20:=hTg.pl
 have hp2:2≤ps.length:=hps▸hT.two
 have hop:order.Perm ps:=hps▸hT.o1
 have hol:order.length=ps.length:=hop.length_eq
 have hoe:∀h∈order,h.length≤100:=fun h hh=>hTg.pe h (hop.mem_iff.mp hh)
 have hr1:=hT.r1
 have htx:cE [] (toldOf (aL (ps.headD []) [101]) uriOf tlOf N DL AT)=text:=by rw[hps];exact hT.txt.symm
 refine .cons (.set (.to (.zK (f:=201) g (.cons (.nm (by walk_at "m")) (.cons (.nm (by walk_at "m")) .nil)) (qt (n:=n+6) g l hgs hTg (ok.le (by first|exact ω250 rfl|exact ω251 rfl))) (by walk_at "c") (by kernel_rfl) rfl) htx) (by walk_at "c")) ?_
 refine .cons (.unpack (.dU g (.cons (.dU g (.cons (.nm (by walk_at "m")) .nil) (oV (n:=n+10) g (ok.le (by first|exact ω250 rfl|exact ω251 rfl)) hT.r1 hT.r2 hT.r3 hT.r4 hT.r5 hT.r6 hT.r7 hT.r8) (by kernel_rfl) rfl) .nil) (hT.tld▸lU (n:=n+10) g (ok.le (by first|exact ω250 rfl|exact ω251 rfl)) hT.p1 hT.p2 hT.p3) (by kernel_rfl) rfl) (.tup ok.hd (.cons .one) (.cons (.nm (by walk_at "c")) (.cons (.nm (by walk_at "c")) .nil)))) ?_
 refine .cons (.yT (.e8 (.bR g (.cons (.nm (by walk_at "m")) .nil) (m9 (xs:=ps) (ys:=order) zf fM atK hpn hp2 (by exact ω2 hpl rfl) (Ok.cl (n:=n+19) ok) hop hT.o2) (by kernel_rfl) (by kernel_rfl) (by decide))) (ca:=L+1) rfl (by walk_at "c") jc) ?_
 refine .cons (.if (b:=false) (.to (.cmp (.nm (by walk_at "m")) (.e8 (.c9 (T:=ah) (U:=Ty.tup fL) [("order",L+1)] ok.hd (fun C=>[un ".0",jE (C+1),eW (L+1) (ar (Ty.list ah) order)]) (fun p=>(p,order.filter fun h=>decide (h≠p)&&decide (cut p none (some h.length)=h))) (fun ν=>true) (.list (T:=ah) (xs:=order) (.ce (ca:=L+1) rfl (by walk_at "m"))) (by walk_at "f") (fun C=>⟨[_,_],rfl⟩) (by exact fun C HB h=>.u (.cu h)) (fun C x hx=>?_) (by exact ω6 hol hpl rfl))) (y9 (rS (gu (eqStr (n:=1)) (pI (uA (eqStr (n:=0)))))) (Ok.cl (n:=n+19) ok))) (by rw[iw,←hT.q1];simp)) (fun h=>nomatch h) (fun ν=>.nil)) ?_
 ·have hxl:=hoe x hx
  refine⟨_,_,.ce (ca:=C+1) rfl (by walk_at "c") jc,.t0,fun ν=>.tup (.cons (.ce (ca:=C+1) rfl (by walk_at "m")) (.cons (.to (.e8 (.c9 (T:=ah) (U:=ah) [("path",C+1)] ok.hd (fun C2=>[un ".0",un "head",eW (C+1) (ar ah x)]) (fun y=>y) (fun y=>(y !=x)&&(cut x none (some (y.length:Int))==y)) (.list (T:=ah) (xs:=order) (.ce (ca:=L+1) rfl (by walk_at "m"))) (by walk_at "f") (fun C2=>⟨[_,_],rfl⟩) (by exact fun C2 HB h=>.u (.u h)) (fun C2 y hy=>?_) (by exact ω6 hol hpl ν))) (tK order x)) .nil)) (.cons .one),by walk_at "k"⟩
  have hyl:=hoe y hy
  exact⟨_,_,.nm (by walk_at "c"),.t1 (.BP (.cmp (.nm (by walk_at "m")) (.ce (ca:=C+1) rfl (by walk_at "m")) ni) (.cmp (.cut (.ce (ca:=C+1) rfl (by walk_at "m")) .no (.yes (.bR g (.cons (.nm (by walk_at "m")) .nil) (n9 (by exact ω1 (hoe y hy) ν)) (by kernel_rfl) (by kernel_rfl) (by decide))) (by exact ω1 (hoe x hx) ν)) (.nm (by walk_at "m")) ee)),fun ν=>.nm (by walk_at "m"),by walk_at "k"⟩
 refine .cons (.for ok.hd (.Be (.list (T:=Ty.tup (lW c)) (xs:=st.2.1) (.nm (by walk_at "m")))) (fun ν=>[fa (.ow (own 123 j5 ())),un "script",loc "paths" (ar (Ty.list ah) ps),loc "samples" (ar (Ty.list (Ty.tup dK)) ss),loc "text" (ar ah text),un "calls",un "ends",un "path",un "sums",eW (L+1) (ar (Ty.list ah) order)]) (by walk_at "k") fun done y rest ex=>⟨_,.tup ok.hd (.cons .one) (.cons (.nm (by walk_at "c")) (.cons (.nm (by walk_at "c")) .nil)),?_⟩) ?_
 ·refine ny (hT.q2 y (by rw[ex];simp)) fun hyl hyd hyw=>?_
  rw[←hss] at hyw
  exact .cons (.if (b:=false) (.to (.cmp (.tup (.cons (.four (.nm (by walk_at "m"))) (.cons (.e8 (.listItems g ok.hd (.sub (.nm (by walk_at "m")) .int (kq (j:=4) (.tail (.tail (.tail (.tail .one)))) (by show 4<5;decide))) hyd (by kernel_rfl))) (.cons (.dU g (.cons (.sub (.nm (by walk_at "m")) .int (kq (j:=4) (.tail (.tail (.tail (.tail .one)))) (by show 4<5;decide))) .nil) (fT (n:=n) g (ok.le (by first|exact ω250 rfl|exact ω251 rfl))) (by kernel_rfl) rfl) .nil))) (.cons (.cons .one))) (.dU g (.cons (.nm (by walk_at "m")) (.cons (.ce (ca:=L+1) rfl (by walk_at "m")) (.cons (.nm (by walk_at "m")) .nil))) (lS (n:=n+10) g (ok.le (by first|exact ω250 rfl|exact ω251 rfl)) hyl (by exact ω6 hol hpl rfl) (by have:=hTg.sl;exact id (ω1 this rfl)) hoe (fun p hp=>(hTg.se p hp).symm)) (by kernel_rfl) rfl) (yK (m:=3) (R:=rJ) (gu (rS (gu (l9 (n:=2)) (gu l9 (gu l9 (pI l9))))) (gu (uA (rS (gu (eqStr (n:=1)) (pI l9)))) (pI l9))) (Ok.cl (n:=n+19) ok))) (by rw[hyw];simp)) (fun h=>nomatch h) (fun ν=>.nil)) (.end (by walk_at "k"))
 obtain⟨p0,pr,hp0⟩:∃p0 pr,ps=p0::pr:=by
  cases h:ps with
  |nil=>rw[h] at hp2;simp at hp2
  |cons a r=>exact⟨a,r,rfl⟩
 obtain⟨rest,ht1⟩:=hT.t1
 rw[←hps,show ps.headD []=p0 from by rw[hp0];rfl] at ht1
 obtain⟨j,hj⟩:∃j,j=order.idxOf p0:=⟨_,rfl⟩
 rw[←hj] at ht1
 have hp0m:p0∈order:=hop.mem_iff.mpr (by rw[hp0];simp)
 have hjl:j<order.length:=by rw[hj];exact List.idxOf_lt_length_iff.mpr hp0m
 have hnj:=fX (n:=(j:Int)) (by exact ω19 j) (by lia)
 have hj1:order[j]?=some p0:=by rw[hj];exact zH hp0m
 refine .cons (.if (b:=false) (.BS (.to (.cmp (.sub (.e8 (.fH (.nm (by walk_at "m")) cB bT (.cons .str .nil) (gw (y:=[32]) (by simp) (by exact ω1 hr1 rfl) (by have:=hT.t0;exact id (ω1 this rfl))))) .int (dz (T:=ah) (xs:=aJ text [32]) (x:=[60,110]++bZ (j:Int)++[58,101]) atK (by decide) (by decide) (by rw[ht1];rfl))) (.bin (.bin .str (.gf g (.cons (.fH (.ce (ca:=L+1) rfl (by walk_at "m")) nT vL (.cons (.sub (.nm (by walk_at "m")) .int (dz (T:=ah) (xs:=ps) (x:=p0) atK (by decide) (by decide) (by rw[hp0];rfl))) .nil) (uq hj1 (hj▸wY) (by exact ω6 hol hpl rfl))) .nil) (wJ (by exact ω18 hjl hol hpl rfl)) (by kernel_rfl) (by kernel_rfl) (by decide)) (fc (by rw[sizeLine_eq];show 2+_≤_;exact ω10 hnj rfl))) .str (fc (by rw[sizeLine_eq];simp;exact ω1 hnj rfl))) ni) (bne_self_eq_false ..))
  (.BS (.to (.cmp (.cut (.nm (by walk_at "m")) (.yes .neg) .no (by exact ω1 hr1 rfl)) (.str (y:=[34,62])) ni) (by rw[show cut text (some (-2)) none=[34,62] from hT.t2];rfl)) (.BS (.to (.cmp (.fH (.nm (by walk_at "m")) cC bT (.cons (.str (y:=[60])) .nil) eG) .int yU) (by rw[hT.t3];rfl)) .Cf))) (fun h=>nomatch h) (fun ν=>.nil)) ?_
 exact .p8 (.cast (.cmp (.fH (.nm (by walk_at "m")) cC bT (.cons (.str (y:=[38])) .nil) eG) (.bin (.fH (.nm (by walk_at "m")) cC bT (.cons (.str (y:=iI)) .nil) eG) (.fH (.nm (by walk_at "m")) cC bT (.cons (.str (y:=bP)) .nil) eG) fJ) nE) (by rw[hT.t4];simp)) (by walk_at "c")
end
end Mine
namespace Mine
noncomputable def Lf:Tx→Tx→Prop
 |a::x,b::y=>a<b∨(a=b∧Lf x y)
 |_,_=>False
theorem Lf.ext:∀{x y p q:Tx},Lf x y→x<+:p→y<+:q→Lf p q
 | [],_,_,_,h,_,_=>h.elim
 |_::_,[],_,_,h,_,_=>h.elim
 |a::x,b::y,[],_,_,h1,_=>by have:=List.prefix_nil.mp h1;cases this
 |a::x,b::y,_::_,[],_,_,h2=>by have:=List.prefix_nil.mp h2;cases this
 |a::x,b::y,c::p,d::q,h,h1,h2=>by
  obtain⟨rfl,k1⟩:=List.cons_prefix_cons.mp h1
  obtain⟨rfl,k2⟩:=List.cons_prefix_cons.mp h2
  rcases h with h|⟨e,h⟩
  ·exact .inl h
  ·exact .inr ⟨e,h.ext k1 k2⟩
theorem Lf.tr:∀{x y z:Tx},Lf x y→Lf y z→Lf x z
 | [],_,_,h,_=>h.elim
 |_::_,[],_,h,_=>h.elim
 |_::_,_::_,[],_,h=>h.elim
 |a::x,b::y,c::z,h,k=>by
  rcases h with h|⟨rfl,h⟩
  ·rcases k with k|⟨rfl,k⟩
   ·exact .inl (Nat.lt_trans h k)
   ·exact .inl h
  ·rcases k with k|⟨rfl,k⟩
   ·exact .inl k
   ·exact .inr ⟨rfl,h.tr k⟩
theorem Lf.A0:∀{x:Tx},¬Lf x x
 | [],h=>h
 |a::x,h=>by
  rcases h with h|⟨_,h⟩
  ·exact Nat.lt_irrefl _ h
  ·exact h.A0
theorem Lf.rK{x y:Tx}(h:Lf x y):¬x<+:y∧¬y<+:x:=
 ⟨fun q=>(h.ext q (List.prefix_refl _)).A0,fun q=>(h.ext (List.prefix_refl _) q).A0⟩
theorem Lf.oJ{x y:Tx}(h:Lf x y):¬Lf y x:=fun k=>(h.tr k).A0
theorem four:∀(x y:Tx),x<+:y∨y<+:x∨Lf x y∨Lf y x
 | [],_=>.inl (List.nil_prefix)
 |_::_,[]=>.inr (.inl List.nil_prefix)
 |a::x,b::y=>by
  rcases Nat.lt_trichotomy a b with h|rfl|h
  ·exact .inr (.inr (.inl (.inl h)))
  ·rcases four x y with h|h|h|h
   ·exact .inl (List.cons_prefix_cons.mpr ⟨rfl,h⟩)
   ·exact .inr (.inl (List.cons_prefix_cons.mpr ⟨rfl,h⟩))
   ·exact .inr (.inr (.inl (.inr ⟨rfl,h⟩)))
   ·exact .inr (.inr (.inr (.inr ⟨rfl,h⟩)))
  ·exact .inr (.inr (.inr (.inl h)))
noncomputable def Bg(x y:Tx):Prop:=x<+:y∧x≠y
theorem lt_iff:∀{x y:Tx},x<y↔Bg x y∨Lf x y
 | [],[]=>by simp[Bg,Lf]
 | [],_::_=>by simp[Bg,Lf]
 |_::_,[]=>by simp[Bg,Lf]
 |a::x,b::y=>by
  rw[List.cons_lt_cons_iff,lt_iff (x:=x) (y:=y)]
  unfold Bg
  rw[List.cons_prefix_cons]
  constructor
  ·rintro(h|⟨rfl,⟨h1,h2⟩|h⟩)
   ·exact .inr (.inl h)
   ·exact .inl ⟨⟨rfl,h1⟩,fun q=>h2 (List.cons.inj q).2⟩
   ·exact .inr (.inr ⟨rfl,h⟩)
  ·rintro(⟨⟨rfl,h1⟩,h2⟩|h|⟨rfl,h⟩)
   ·exact .inr ⟨rfl,.inl ⟨h1,fun q=>h2 (by rw[q])⟩⟩
   ·exact .inl h
   ·exact .inr ⟨rfl,.inr h⟩
noncomputable def Po(x y:Tx):Prop:=Bg y x∨Lf x y
theorem Lf.app{x y:Tx}(p q:Tx)(h:Lf x y):Lf (x++p) (y++q):=h.ext (List.prefix_append ..) (List.prefix_append ..)
theorem Po.lf{x y p q:Tx}(hx:∀a∈x,a<125)(h:Po x y):Lf (x++125::p) (y++125::q):=by
 rcases h with⟨⟨r,rfl⟩,h⟩|h
 ·cases r with
  |nil=>simp at h
  |cons a r=>
   have h1:=hx a (by simp)
   clear hx h
   induction y with
   |nil=>exact .inl h1
   |cons b y ih=>exact .inr ⟨rfl,ih⟩
 ·exact h.app ..
theorem AL{x y:Tx}(h:x≠y):Bg x y∨Bg y x∨Lf x y∨Lf y x:=by
 rcases four x y with q|q|q|q
 ·exact .inl ⟨q,h⟩
 ·exact .inr (.inl ⟨q,h.symm⟩)
 ·exact .inr (.inr (.inl q))
 ·exact .inr (.inr (.inr q))
theorem Bg.pq{x y:Tx}(h:Bg x y):¬Bg y x:=fun k=>h.2 (h.1.eq_of_length (Nat.le_antisymm h.1.length_le k.1.length_le))
theorem Bg.kE{x y:Tx}(h:Bg x y):¬Lf x y∧¬Lf y x:=⟨fun k=>k.rK.1 h.1,fun k=>k.rK.2 h.1⟩
theorem i8{x y:Tx}(h:x<y):¬y<x:=by
 have h1:=fM.oJ x y (by unfold eO;exact decide_eq_true h)
 unfold eO at h1
 exact of_decide_eq_false h1
theorem gp{x:Tx}:¬x<x:=fun h=>i8 h h
theorem conv{e h x:Tx}(h1:e<h)(h2:h=x∨h<x)(h3:Bg e x):Bg e h:=by
 rcases lt_iff.mp h1 with q|q
 ·exact q
 ·exfalso
  rcases h2 with rfl|h2
  ·exact h3.kE.1 q
  ·rcases lt_iff.mp h2 with r|r
   ·exact h3.kE.1 (q.ext (List.prefix_refl _) r.1)
   ·exact h3.kE.1 (q.tr r)
structure qw(fg:Tx→bk)(FS:List Tx→bk):Prop where
 one:∀p,FS [p]=fg p
 add:∀l m,fP (FS l) (FS m)=FS (l++m)
noncomputable abbrev uN:=Tx×List Tx
noncomputable def iA(FS:List Tx→bk)(b:List uN):List (Tx×bk):=b.map fun p=>(p.1,FS (p.1::p.2))
noncomputable def c6:List uN→List Tx
 | []=>[]
 |b::r=>c6 r++b.1::b.2
noncomputable def bg:Tx→Tx→Bool:=fun e x=>e.isPrefixOf x
noncomputable def zc:Tx→Tx→Bool:=fun h p=>decide (h≠p)&&h.isPrefixOf p
theorem rH{h p:Tx}:zc h p=true↔Bg h p:=by
 unfold zc Bg
 rw[Bool.and_eq_true,decide_eq_true_eq,List.isPrefixOf_iff_prefix,and_comm]
theorem eZ{e x:Tx}:bg e x=true↔e<+:x:=List.isPrefixOf_iff_prefix
structure Inv(FS:List Tx→bk)(O P Od Or pre:List Tx)(bs:List uN)(st:RS):Prop where
 o:O=Od++Or
 d:Od=pre++c6 bs
 pre:∀x∈pre,x∈P
 low:∀b∈bs,b.1∉P∧∀x∈b.2,x∈P
 sub:∀x∈P,x∈Od
 calls:st.1=Od.map fun p=>(p,O.filter fun h=>zc h p)
 ends : st.2.1 = P.map fun p => (p, FS (O.filter (bg p)))
 stk:st.2.2=iA FS bs
theorem iS{x:Tx}:∀{bs:List uN},x∈c6 bs↔∃b∈bs,x=b.1∨x∈b.2
 | []=>by simp[c6]
 |b::r=>by
  show x∈c6 r++b.1::b.2↔_
  rw[List.mem_append,iS,List.mem_cons]
  simp only[List.mem_cons,exists_eq_or_imp]
  rw[or_comm]
theorem heads{P pre:List Tx}(hp:∀x∈pre,x∈P):∀{bs:List uN},(∀b∈bs,b.1∉P∧∀x∈b.2,x∈P)→(bs.reverse.map (·.1))=(pre++c6 bs).filter fun x=>decide (x∉P)
 | [],_=>by
   symm
   show(pre++[]).filter _=[]
   rw[List.append_nil,List.filter_eq_nil_iff]
   intro x hx
   simpa using hp x hx
 |b::r,h=>by
  have ih:=heads hp (bs:=r) fun c hc=>h c (.tail _ hc)
  have hb:=h b (.head _)
  rw[List.reverse_cons,List.map_append,ih]
  show _=(pre++(c6 r++b.1::b.2)).filter _
  have h0:b.2.filter (fun x=>decide (x∉P))=[]:=List.filter_eq_nil_iff.mpr fun x hx=>by simpa using hb.2 x hx
  rw[←List.append_assoc,List.filter_append (pre++c6 r),List.filter_cons,if_pos (by simpa using hb.1),h0]
  rfl
structure kX(O E:List Tx):Prop where
 o:O.Pairwise fun x y=>x<y
 e:E.Pairwise fun x y=>Po x y
 perm:E.Perm O
theorem qm{α:Type}{r:α→α→Prop}{l m:List α}{x:α}(h:(l++x::m).Pairwise r):(∀y∈l,r y x)∧∀y∈m,r x y:=by
 rw[List.pairwise_append] at h
 exact⟨fun y hy=>h.2.2 y hy x (.head _),(List.pairwise_cons.mp h.2.1).1⟩
theorem Po.ne{x y:Tx}(h:Po x y):x≠y:=by
 intro υ0;obtain rfl:=υ0
 rcases h with h|h
 ·exact h.2 rfl
 ·exact h.A0
theorem Po.oJ{x y:Tx}(h:Po x y):¬Po y x:=by
 rintro(k|k)
 ·rcases h with h|h
  ·exact h.pq k
  ·exact k.kE.1 h
 ·rcases h with h|h
  ·exact h.kE.1 k
  ·exact h.oJ k
theorem kX.ended{O P R:List Tx}{e x:Tx}(h:kX O (P++e::R))(hx:x∈O):x∈P↔Po x e:=by
 have h1:=qm h.e
 constructor
 ·exact h1.1 x
 ·intro q
  have hm:=h.perm.mem_iff.mpr hx
  rcases List.mem_append.mp hm with m|m
  ·exact m
  ·rcases List.mem_cons.mp m with rfl|m
   ·exact absurd rfl q.ne
   ·exact absurd q (h1.2 x m).oJ
theorem cI{l m:List Tx}{x y:Tx}(h:(l++m).Pairwise fun x y:Tx=>x<y)(hx:x∈l)(hy:y∈m):x<y:=(List.pairwise_append.mp h).2.2 x hx y hy
theorem rT{fg:Tx→bk}{FS:List Tx→bk}(hF:qw fg FS){t1:Tx→Told}(ht:∀p,t1 p=((t1 p).1,p,fg p)){O P R Od Or pre:List Tx}{e o:Tx}{bs:List uN}{st:RS}(hB:kX O (P++e::R))
 (hI:Inv FS O P Od (o::Or) pre bs st) (he:o=e∨o<e):∃st',mQ (O.map t1) st=some st'∧Inv FS O P (Od++[o]) Or pre ((o,[])::bs) st':=by
 have hpw:=hB.o
 rw[hI.o] at hpw
 have hlen:st.1.length=Od.length:=by rw[hI.calls,List.length_map]
 have hget:(O.map t1)[st.1.length]?=some (t1 o):=by rw[hlen,List.getElem?_map,hI.o,List.getElem?_append_right (Nat.le_refl _),Nat.sub_self];rfl
 have hoO:o∈O:=by rw[hI.o];simp
 have hoP:o∉P:=fun q=>gp (cI hpw (hI.sub o q) (.head _))
 have key:∀h∈Od,(h∉P)↔Bg h o:=by
  intro h hh
  have hho:h<o:=cI hpw hh (.head _)
  have hhO:h∈O:=by rw[hI.o];exact List.mem_append_left _ hh
  rw[hB.ended hhO]
  constructor
  ·intro hn
   rcases lt_iff.mp hho with q|q
   ·exact q
   ·refine absurd (.inr ?_) hn
    rcases he with rfl|he
    ·exact q
    ·rcases lt_iff.mp he with r|r
     ·exact q.ext (List.prefix_refl _) r.1
     ·exact q.tr r
  ·rintro q (r|r)
   ·--e begins h,h begins o
    have heo:Bg e o:=⟨r.1.trans q.1,fun z=>by subst z;exact q.pq r⟩
    rcases he with rfl|he
    ·exact heo.2 rfl
    ·exact i8 he (lt_iff.mpr (.inl heo))
   ·exact hoP ((hB.ended hoO).mpr (.inr (r.ext q.1 (List.prefix_refl _))))
 have hheads:(iA FS bs).reverse.map (·.1)=O.filter fun h=>zc h o:=by
  have h1:=heads hI.pre hI.low
  rw[←hI.d] at h1
  have h2:(iA FS bs).reverse.map (·.1)=bs.reverse.map (·.1):=by
   unfold iA
   rw[←List.map_reverse,List.map_map];rfl
  rw[h2,h1,hI.o,List.filter_append,List.filter_eq_nil_iff (l:=o::Or) |>.mpr,List.append_nil]
  ·refine List.filter_congr fun h hh=>?_
   rw[Bool.eq_iff_iff,decide_eq_true_eq,rH]
   exact key h hh
  ·intro x hx q
   have q:=rH.mp q
   have h3:x<o:=lt_iff.mpr (.inl q)
   rcases List.mem_cons.mp hx with rfl|hx
   ·exact q.2 rfl
   ·have:=List.pairwise_cons.mp (List.pairwise_append.mp hpw).2.1
    exact i8 h3 (this.1 x hx)
 refine⟨(st.1++[((t1 o).2.1,st.2.2.reverse.map (·.1))],st.2.1,((t1 o).2.1,(t1 o).2.2)::st.2.2),by unfold mQ;rw[hget];rfl,?_⟩
 rw[ht o]
 exact{
  o:=by rw[hI.o,List.append_assoc];rfl
  d:=by
   show _=pre++(c6 bs++[o])
   rw[hI.d,List.append_assoc]
  pre:=hI.pre
  low:=fun b hb=>by
   rcases List.mem_cons.mp hb with rfl|hb
   ·exact⟨hoP,fun x hx=>nomatch hx⟩
   ·exact hI.low b hb
  sub:=fun x hx=>List.mem_append_left _ (hI.sub x hx)
  calls:=by
   show st.1++[(o,st.2.2.reverse.map (·.1))]=_
   rw[List.map_append,hI.calls,hI.stk,hheads];rfl
  ends := hI.ends
  stk:=by
   show(o,fg o)::st.2.2=iA FS ((o,[])::bs)
   rw[hI.stk,←hF.one o];rfl}
theorem mR{fg:Tx→bk}{FS:List Tx→bk}(hF:qw fg FS){t1:Tx→Told}(ht:∀p,t1 p=((t1 p).1,p,fg p)){O P R pre:List Tx}{e:Tx}(hB:kX O (P++e::R)):
 ∀{m Od Or:List Tx} {bs:List uN} {st:RS},Inv FS O P Od (m++e::Or) pre bs st→(∀o∈m,o<e)→∃bs' st',fF (O.map t1) (m.length+1) st=some st'∧Inv FS O P (Od++m++[e]) Or pre ((e,[])::bs') st'
 | [],Od,Or,bs,st,hI,_=>by
   refine aj (rT hF ht hB hI (.inl rfl)) fun st1 e1 I1=>?_
   refine⟨bs,st1,?_,by rw[List.append_nil];exact I1⟩
   show(mQ _ st).bind (fF _ 0)=_
   rw[e1];rfl
 |o::m,Od,Or,bs,st,hI,hm=>by
  refine aj (rT hF ht hB hI (.inr (hm o (.head _)))) fun st1 e1 I1=>?_
  refine aB (mR hF ht hB I1 fun x hx=>hm x (.tail _ hx)) fun bs2 st2 e2 I2=>?_
  refine⟨bs2,st2,?_,by rw[List.append_assoc Od] at I2;exact I2⟩
  show(mQ _ st).bind (fF _ (m.length+1))=_
  rw[e1];exact e2
theorem uy{fg:Tx→bk}{FS:List Tx→bk}(hF:qw fg FS){O P R Od Or pre:List Tx}{e:Tx}{t:List Tx}{bs:List uN}{st:RS}(hB:kX O (P++e::R))
 (hI:Inv FS O P Od Or pre ((e,t)::bs) st) (hf:O.filter (bg e)=e::t):∃st' pre' bs',uQ e st=some st'∧Inv FS O (P++[e]) Od Or pre' bs' st':=by
 have hne:∀x,x∈P→x∈P++[e]:=fun x hx=>List.mem_append_left _ hx
 have hs:st.2.2=(e,FS (e::t))::iA FS bs:=hI.stk
 have hends:st.2.1++[(e,FS (e::t))]=(P++[e]).map fun p=>(p,FS (O.filter (bg p))):=by
  rw[List.map_append,hI.ends]
  show _=_++[(e,FS (O.filter (bg e)))]
  rw[hf]
 have hnd:Od.Nodup:=by
  have h1:O.Nodup:=hB.o.imp fun{x y} (h:x<y) q=>by subst q;exact gp h
  rw[hI.o] at h1
  exact(List.nodup_append.mp h1).1
 have hsub:∀x∈P++[e],x∈Od:=fun x hx=>by
  rcases List.mem_append.mp hx with h|h
  ·exact hI.sub x h
  ·rw[List.mem_singleton.mp h,hI.d]
   exact List.mem_append_right _ (iS.mpr ⟨_,.head _,.inl rfl⟩)
 have het:∀x∈e::t,x∈P++[e]:=fun x hx=>by
  rcases List.mem_cons.mp hx with rfl|hx
  ·exact List.mem_append_right _ (.head _)
  ·exact hne x ((hI.low _ (.head _)).2 x hx)
 have hother:∀b∈bs,b.1∉P++[e]:=fun b hb q=>by
  rcases List.mem_append.mp q with h|h
  ·exact(hI.low b (.tail _ hb)).1 h
  ·have h:=List.mem_singleton.mp h
   rw[hI.d] at hnd
   have h2:=(List.nodup_append.mp hnd).2.1
   have h3:(c6 bs++e::t).Nodup:=h2
   have h4:b.1∈c6 bs:=iS.mpr ⟨b,hb,.inl rfl⟩
   exact(List.nodup_append.mp h3).2.2 _ h4 e (.head _) h
 have hpop:uQ e st=some (st.1,st.2.1++[(e,FS (e::t))],bump (FS (e::t)) (iA FS bs)):=by
  unfold uQ
  rw[hs]
  exact if_pos rfl
 cases bs with
 |nil=>
  refine⟨_,pre++e::t,[],hpop,?_⟩
  exact{
   o:=hI.o
   d:=by rw[hI.d];show pre++([]++e::t)=pre++e::t++[];simp
   pre:=fun x hx=>by
    rcases List.mem_append.mp hx with h|h
    ·exact hne x (hI.pre x h)
    ·exact het x h
   low:=fun b hb=>nomatch hb
   sub:=hsub
   calls:=hI.calls
   ends := hends
   stk:=rfl}
 |cons b r=>
  refine⟨_,pre,(b.1,b.2++e::t)::r,hpop,?_⟩
  exact{
   o:=hI.o
   d:=by
    rw[hI.d]
    show pre++((c6 r++b.1::b.2)++e::t)=pre++(c6 r++b.1::(b.2++e::t))
    simp
   pre:=fun x hx=>hne x (hI.pre x hx)
   low:=fun x hx=>by
    rcases List.mem_cons.mp hx with rfl|hx
    ·refine⟨hother b (.head _),fun y hy=>?_⟩
     rcases List.mem_append.mp hy with h|h
     ·exact hne y ((hI.low b (.tail _ (.head _))).2 y h)
     ·exact het y h
    ·exact⟨hother x (.tail _ hx),fun y hy=>hne y ((hI.low x (.tail _ (.tail _ hx))).2 y hy)⟩
   sub:=hsub
   calls:=hI.calls
   ends := hends
   stk:=by
    show(b.1,fP (FS (b.1::b.2)) (FS (e::t)))::iA FS r=iA FS ((b.1,b.2++e::t)::r)
    rw[hF.add];rfl}
theorem v8{FS:List Tx→bk}{O P R Od Or pre:List Tx}{e:Tx}{bs:List uN}{st:RS}(hB:kX O (P++e::R))(hI:Inv FS O P Od Or pre bs st)(he:e∈Od)
 (hlast:∃x d',Od=d'++[x]∧(x∈P∨x=e)):∃t r,bs=(e,t)::r∧O.filter (bg e)=e::t:=by
 have hpw:=hB.o
 rw[hI.o] at hpw
 have heP:e∉P:=fun q=>absurd rfl ((qm hB.e).1 e q).ne
 refine aB hlast fun x d' hx hxP=>?_;try clear hlast
 have hpd:Od.Pairwise fun x y=>x<y:=(List.pairwise_append.mp hpw).1
 have hle:∀y∈Od,y=x∨y<x:=fun y hy=>by
  rw[hx] at hy hpd
  rcases List.mem_append.mp hy with h|h
  ·exact .inr (cI hpd h (.head _))
  ·exact .inl (List.mem_singleton.mp h)
 have hOd:∀y∈Od,y∈O:=fun y hy=>by rw[hI.o];exact List.mem_append_left _ hy
 have after:∀y∈Od,e<y→Bg e y:=fun y hy hey=>by
  have hxe:x≠e:=by
   intro υ0;obtain rfl:=υ0
   rcases hle y hy with rfl|h
   ·exact gp hey
   ·exact i8 hey h
  have hxP:=hxP.resolve_right hxe
  have hlt:e<x:=by
   rcases hle y hy with rfl|h
   ·exact hey
   ·exact List.lt_trans hey h
  have hpo:=(hB.ended (hOd x (hI.sub x hxP))).mp hxP
  have hbg:Bg e x:=by
   rcases hpo with h|h
   ·exact h
   ·exact absurd (lt_iff.mpr (.inr h)) (i8 hlt)
  exact conv hey (hle y hy) hbg
 cases bs with
 |nil=>
  exfalso
  rw[hI.d] at he
  have he:e∈pre++[]:=he
  rw[List.append_nil] at he
  exact heP (hI.pre e he)
 |cons b r=>
  have hb:Od=(pre++c6 r)++b.1::b.2:=by
   rw[hI.d]
   show pre++(c6 r++b.1::b.2)=_
   simp
  have hbO:b.1∈Od:=by rw[hb];simp
  have hbe:b.1=e:=by
   rw[hb] at he
   rcases List.mem_append.mp he with h|h
   ·exfalso
    have h1:e<b.1:=cI (hb▸hpd) h (.head _)
    have h2:=after b.1 hbO h1
    exact(hI.low b (.head _)).1 ((hB.ended (hOd _ hbO)).mpr (.inl h2))
   ·rcases List.mem_cons.mp h with h|h
    ·exact h.symm
    ·exact absurd ((hI.low b (.head _)).2 e h) heP
  obtain⟨b1,t⟩:=b
  obtain rfl:b1=e:=hbe
  refine⟨t,r,rfl,?_⟩
  have hb:Od=(pre++c6 r)++b1::t:=hb
  have hpd':=hb▸hpd
  rw[hI.o,hb,List.filter_append,List.filter_append]
  have f1:(pre++c6 r).filter (bg b1)=[]:=List.filter_eq_nil_iff.mpr fun y hy q=>by
   have h1:y<b1:=cI hpd' hy (.head _)
   have h2:=eZ.mp q
   refine i8 h1 (lt_iff.mpr (.inl ⟨h2,?_⟩))
   intro υ0;obtain rfl:=υ0
   exact gp h1
  have f2:(b1::t).filter (bg b1)=b1::t:=List.filter_eq_self.mpr fun y hy=>by
   rcases List.mem_cons.mp hy with rfl|hy'
   ·exact eZ.mpr (List.prefix_refl _)
   ·have h1:=(List.pairwise_cons.mp (List.pairwise_append.mp hpd').2.1).1 y hy'
    exact eZ.mpr (after y (by rw[hb];exact List.mem_append_right _ hy) h1).1
  have f3:Or.filter (bg b1)=[]:=List.filter_eq_nil_iff.mpr fun y hy q=>by
   have h2:=eZ.mp q
   have h1:b1<y:=cI hpw he hy
   have hyO:y∈O:=by rw[hI.o];exact List.mem_append_right _ hy
   have h3:y∈P:=(hB.ended hyO).mpr (.inl ⟨h2,by intro υ0;obtain rfl:=υ0;exact gp h1⟩)
   exact gp (cI hpw (hI.sub y h3) hy)
  rw[f1,f2,f3,List.append_nil];rfl
theorem yc{fg:Tx→bk}{FS:List Tx→bk}(hF:qw fg FS){t1:Tx→Told}{O P R Od Or pre:List Tx}{e:Tx}{bs:List uN}{st:RS}(ht:∀p,t1 p=(((O.idxOf p:Nat):Int),p,fg p))(hB:kX O (P++e::R))
 (hI:Inv FS O P Od Or pre bs st) (hlast:Od=[]∨∃x d',Od=d'++[x]∧x∈P):
 ∃Od' Or' pre' bs' st',pW (O.map t1) st (t1 e)=some st'∧Inv FS O (P++[e]) Od' Or' pre' bs' st'∧∃x d',Od'=d'++[x]∧x∈P++[e]:=by
 have ht':∀p,t1 p=((t1 p).1,p,fg p):=fun p=>by rw[ht p]
 have hpw:=hB.o
 have heO:e∈O:=hB.perm.mem_iff.mp (by simp)
 have hlen:st.1.length=Od.length:=by rw[hI.calls,List.length_map]
 have hnd:O.Nodup:=hB.o.imp fun{x y} (h:x<y) q=>by subst q;exact gp h
 by_cases he:e∈Od
 ·have hn0:Od≠[]:=fun q=>by rw[q] at he;cases he
  refine aB (hlast.resolve_left hn0) fun x d' hx hxP=>?_
  refine aB (v8 hB hI he ⟨x,d',hx,.inl hxP⟩) fun t r π42 hf=>?_;rcases π42 with rfl
  refine gJ (uy hF hB hI hf) fun st' pre' bs' e1 I1=>?_
  refine⟨Od,Or,pre',bs',st',?_,I1,x,d',hx,List.mem_append_left _ hxP⟩
  have hidx:O.idxOf e<Od.length:=by
   rw[hI.o,List.idxOf_append,if_pos he]
   exact List.idxOf_lt_length_iff.mpr he
  have h0:((t1 e).1 +1).toNat -st.1.length=0:=by rw[ht e,hlen];show((O.idxOf e:Int)+1).toNat -Od.length=0;exact ω24 hidx
  unfold pW
  rw[h0,ht e]
  exact e1
 ·have heOr:e∈Or:=by
   rw[hI.o] at heO
   exact(List.mem_append.mp heO).resolve_left he
  refine fZ (List.append_of_mem heOr) fun m Or' hm=>?_
  have hO2:O=Od++(m++e::Or'):=by rw[hI.o,hm]
  have hme:∀o∈m,o<e:=fun o ho=>by
   have h1:=hpw
   rw[hO2,←List.append_assoc] at h1
   exact cI h1 (List.mem_append_right _ ho) (.head _)
  have hI':=hI
  rw[hm] at hI'
  refine aB (mR hF ht' hB hI' hme) fun bs2 st2 e2 I2=>?_
  refine aB (v8 hB I2 (by simp) ⟨e,_,rfl,.inr rfl⟩) fun t r hbs hf=>?_
  obtain⟨hbs1,rfl⟩:=List.cons.inj hbs
  have ht0:[]=t:=congrArg Prod.snd hbs1
  subst ht0
  refine gJ (uy hF hB I2 hf) fun st' pre' bs' e3 I3=>?_
  refine⟨_,_,pre',bs',st',?_,I3,e,_,rfl,List.mem_append_right _ (.head _)⟩
  have hidx:O.idxOf e=Od.length+m.length:=by
   have h1:e∉Od++m:=fun q=>by
    have h2:=hnd
    rw[hO2,←List.append_assoc] at h2
    exact(List.nodup_append.mp h2).2.2 e q e (.head _) rfl
   rw[hO2,←List.append_assoc,List.idxOf_append,if_neg h1,List.idxOf_cons_self,List.length_append]
   lia
  have h0:((t1 e).1 +1).toNat -st.1.length=m.length+1:=by rw[ht e,hlen];show((O.idxOf e:Int)+1).toNat -Od.length=_;exact ω23 hidx
  unfold pW
  rw[h0,e2,ht e]
  exact e3
theorem uR{fg:Tx→bk}{FS:List Tx→bk}(hF:qw fg FS){t1:Tx→Told}{O:List Tx}(ht:∀p,t1 p=(((O.idxOf p:Nat):Int),p,fg p)):
 ∀{R P Od Or pre:List Tx} {bs:List uN} {st:RS},kX O (P++R)→Inv FS O P Od Or pre bs st→(Od=[]∨∃x d',Od=d'++[x]∧x∈P)→
 ∃st',gE (O.map t1) (R.map t1) st=some st'∧st'.1=(O.map fun p=>(p,O.filter fun h=>zc h p))∧st'.2.1=(P++R).map fun p=>(p,FS (O.filter (bg p)))
 | [],P,Od,Or,pre,bs,st,hB,hI,hl=>by
   refine⟨st,rfl,?_,by rw[List.append_nil];exact hI.ends⟩
   rw[hI.calls]
   have hOr:Or=[]:=by
    cases Or with
    |nil=>rfl
    |cons x r=>
     exfalso
     have hx:x∈P:=by
      have h1:=hB.perm.mem_iff.mpr (show x∈O by rw[hI.o];simp)
      rwa [List.append_nil] at h1
     have h2:=hB.o
     rw[hI.o] at h2
     exact gp (cI h2 (hI.sub x hx) (.head _))
   have hO:=hI.o
   rw[hOr,List.append_nil] at hO
   rw[hO]
 |e::R,P,Od,Or,pre,bs,st,hB,hI,hl=>by
  refine Bj (yc hF ht hB hI hl) fun Od' Or' pre' bs' st1 e1 I1 hl1=>?_
  have hB1:kX O ((P++[e])++R):=by rw[List.append_assoc];exact hB
  refine bL (uR hF ht hB1 I1 (.inr hl1)) fun st2 e2 h1 h2=>?_
  refine⟨st2,?_,h1,by rw[h2,List.append_assoc];rfl⟩
  show(pW _ st (t1 e)).bind _=_
  rw[e1];exact e2
theorem sQ{fg:Tx→bk}{FS:List Tx→bk}(hF:qw fg FS){t1:Tx→Told}{O E:List Tx}(ht:∀p,t1 p=(((O.idxOf p:Nat):Int),p,fg p))(hB:kX O E):
 ∃st',gE (O.map t1) (E.map t1) ([],[],[])=some st'∧st'.1=(O.map fun p=>(p,O.filter fun h=>zc h p))∧st'.2.1=E.map fun p=>(p,FS (O.filter (bg p))):=
 uR hF ht (P:=[]) (Od:=[]) (Or:=O) (pre:=[]) (bs:=[]) hB
  {o:=rfl,d:=rfl,pre:=(fun ν h=>nomatch h),low:=(fun ν h=>nomatch h),sub:=(fun ν h=>nomatch h),calls:=rfl,ends:=rfl,stk:=rfl} (.inl rfl)
end Mine
namespace Mine
theorem eK{α:Type}(x:List α)(n:Nat):cut x none (some (n:Int))=x.take n:=by
 unfold cut
 have h:=clipAt_cast x.length (n:Int)
 show(x.drop 0).take (clipAt x.length (n:Int)-0)=_
 rw[List.drop_zero,Nat.sub_zero]
 have e:clipAt x.length (n:Int)=min n x.length:=by
  rw[if_neg (by exact fun a=>ω233 a)] at h
  exact ω40 h
 rw[e,←List.take_eq_take_min]
theorem o5(e x:Tx):below e x=bg e x:=by
 unfold below bg
 rw[eK,Bool.eq_iff_iff,decide_eq_true_eq,List.isPrefixOf_iff_prefix,List.prefix_iff_eq_take,eq_comm]
noncomputable def keysOf(xs:List Tx):List Tx:=xs.foldl aW []
theorem jY{us:List Tx}{u x:Tx}:x∈aW us u↔x∈us∨x=u:=by
 unfold aW
 split
 ·rename_i h
  exact⟨.inl,fun q=>q.elim id fun q=>q▸h⟩
 ·simp
theorem fu{us:List Tx}{u:Tx}(h:us.Nodup):(aW us u).Nodup:=by
 unfold aW
 split
 ·exact h
 ·rename_i hn
  exact List.nodup_append.mpr ⟨h,List.nodup_cons.mpr ⟨by simp,.nil⟩,fun a ha b hb q=>hn (by rw[List.mem_singleton.mp hb] at q;exact q▸ha)⟩
theorem nj{us:List Tx}{u:Tx}(h:u∈us):aW us u=us:=if_pos h
theorem iQ{x:Tx}:∀{xs us:List Tx},x∈xs.foldl aW us↔x∈us∨x∈xs
 | [],us=>by simp
 |a::xs,us=>by
  rw[List.foldl_cons,iQ,jY,List.mem_cons,or_assoc]
theorem jz:∀{xs us:List Tx},us.Nodup→(xs.foldl aW us).Nodup
 | [],_,h=>h
 |_::xs,_,h=>jz (xs:=xs) (fu h)
theorem fQ{x:Tx}{xs:List Tx}:x∈keysOf xs↔x∈xs:=by
 unfold keysOf
 rw[iQ];simp
theorem keys_nodup{xs:List Tx}:(keysOf xs).Nodup:=jz .nil
theorem snoc_ind{α:Type}{P:List α→Prop}(h0:P [])(h1:∀l x,P l→P (l++[x]))(l:List α):P l:=by
 rw[←List.reverse_reverse l]
 induction l.reverse with
 |nil=>exact h0
 |cons x r ih=>rw[List.reverse_cons];exact h1 _ _ ih
theorem iK{xs:List Tx}{x:Tx}:keysOf (xs++[x])=aW (keysOf xs) x:=List.foldl_append ..
theorem qO(us:List Tx)(xs:List Tx):(keysOf xs).foldl aW us=xs.foldl aW us:=by
 refine snoc_ind (P:=fun xs=>(keysOf xs).foldl aW us=xs.foldl aW us) rfl (fun l x ih=>?_) xs
 rw[iK,List.foldl_append]
 show _=aW (l.foldl aW us) x
 by_cases h:x∈keysOf l
 ·rw[nj h,ih,nj]
  exact iQ.mpr (.inr (fQ.mp h))
 ·unfold aW at*
  rw[if_neg h,List.foldl_append,ih];rfl
theorem pC(xs:List Tx):bX xs=keysOf xs:=by
 refine snoc_ind (P:=fun xs=>bX xs=keysOf xs) rfl (fun l x ih=>?_) xs
 have hn:numbered (l++[x])=numbered l++[((l.length:Int),x)]:=by
  unfold numbered
  rw[List.length_append,show l.length+[x].length =l.length+1 from rfl,List.range_succ,List.map_append,List.zip_append (by simp)]
  rfl
 have hc:∀p∈numbered l,dS (l++[x]) p=dS l p:=by
  intro p hp
  obtain⟨i,hi⟩:=List.getElem?_of_mem hp
  unfold numbered at hi
  rw[List.getElem?_zip_eq_some] at hi
  obtain⟨h1,h2⟩:=hi
  have hil:i<l.length:=(List.getElem?_eq_some_iff.mp h2).1
  have hpi:p.1=(i:Int):=by
   rw[List.getElem?_map,List.getElem?_range hil] at h1
   exact(Option.some.inj h1).symm
  unfold dS
  rw[hpi,eK,eK,List.take_append_of_le_length (by exact ω167 hil rfl Nat.le.refl)]
 unfold bX at ih⊢
 rw[hn,List.filter_append,List.map_append,List.filter_congr hc,ih,iK]
 have hx:dS (l++[x]) ((l.length:Int),x)= !decide (x∈l):=by
  unfold dS
  show(!decide (x∈cut (l++[x]) none (some (l.length:Int))))=_
  rw[eK,List.take_left]
 rw[List.filter_cons,hx]
 unfold aW
 by_cases h:x∈l
 ·rw[if_pos (fQ.mpr h),decide_eq_true h]
  show _++((if false=true then _ else[]):List (Int×Tx)).map _=_
  rw[if_neg Bool.false_ne_true]
  simp
 ·rw[if_neg (fun q=>h (fQ.mp q)),decide_eq_false h]
  show _++((if true=true then _ else[]):List (Int×Tx)).map _=_
  rw[if_pos rfl];rfl
noncomputable abbrev Dc:=List (Tx×Int)
noncomputable def valOf(d:Dc)(k:Tx):Int:=((d.filter fun p=>decide (p.1=k)).map (·.2)).sum
theorem dI{p:Tx×Int}{d:Dc}{k:Tx}:valOf (p::d) k=(if p.1=k then p.2 else 0)+valOf d k:=by
 unfold valOf
 rw[List.filter_cons]
 by_cases h:p.1=k
 ·rw[if_pos (decide_eq_true h),if_pos h];rfl
 ·rw[if_neg (by simpa using h),if_neg h];simp
theorem lq{d:Dc}{k:Tx}(h:k∉d.map (·.1)):valOf d k=0:=by
 unfold valOf
 rw[List.filter_eq_nil_iff.mpr]
 ·rfl
 ·intro p hp
  simpa using fun e:p.1=k=>h (List.mem_map.mpr ⟨p,hp,e⟩)
theorem n6:∀{d:Dc} {k:Tx},(d.map (·.1)).Nodup→(at' d k).getD 0=valOf d k∧(at' d k=none↔k∉d.map (·.1))
 | [],_,_=>⟨rfl,by simp[at']⟩
 |p::d,k,h=>by
  have h1:=List.nodup_cons.mp h
  obtain⟨i1,i2⟩:=n6 (d:=d) (k:=k) h1.2
  rw[dI]
  unfold at' at*
  rw[List.find?_cons]
  by_cases e:p.1=k
  ·rw[decide_eq_true e,if_pos e,lq (by rw[←e];exact h1.1)]
   exact⟨(Int.add_zero _).symm,by simp[e]⟩
  ·rw[decide_eq_false e,if_neg e,Int.zero_add]
   refine⟨i1,i2.trans ?_⟩
   rw[List.map_cons,List.mem_cons,not_or]
   exact⟨fun q=>⟨fun z=>e z.symm,q⟩,fun q=>q.2⟩
theorem vH:∀{d e:Dc},(d.map (·.1)).Nodup→d.map (·.1)=e.map (·.1)→(∀k,valOf d k=valOf e k)→d=e
 | [],[],_,_,_=>rfl
 | [],_::_,_,h,_=>by simp at h
 |_::_,[],_,h,_=>by simp at h
 |p::d,q::e,hn,hk,hv=>by
  obtain⟨h1,h2⟩:=List.cons.inj (show p.1::d.map (·.1)=q.1::e.map (·.1) from hk)
  have hn1:=List.nodup_cons.mp (show(p.1::d.map (·.1)).Nodup from hn)
  have h3:=hv p.1
  rw[dI,dI,if_pos rfl,if_pos h1.symm,lq hn1.1,lq (by rw[←h2];exact hn1.1)] at h3
  have h4:p=q:=Prod.ext h1 (by lia)
  subst h4
  rw[vH hn1.2 h2 fun k=>by have:=hv k;rw[dI,dI] at this;exact ω181 this]
theorem qf{β:Type}{d:List (Tx×β)}{k:Tx}{v:β}:(put d k v).map (·.1)=aW (d.map (·.1)) k:=by
 unfold put aW
 have e:(d.any (fun p=>decide (p.1=k))=true)↔k∈d.map (·.1):=by
  rw[List.any_eq_true,List.mem_map]
  simp only[decide_eq_true_eq]
 by_cases h:k∈d.map (·.1)
 ·rw[if_pos (e.mpr h),if_pos h,List.map_map]
  refine List.map_congr_left fun p ν=>?_
  show(if p.1=k then(p.1,v) else p).1 =p.1
  split <;> rfl
 ·rw[if_neg fun q=>h (e.mp q),if_neg h,List.map_append];rfl
theorem uP{β:Type}{d:List (Tx×β)}{k j:Tx}{v:β}:at' (put d k v) j=if j=k then some v else at' d j:=by
 unfold put at'
 split
 ·rename_i h
  induction d with
  |nil=>simp at h
  |cons p d ih=>
   rw[List.map_cons,List.find?_cons,List.find?_cons]
   by_cases e:p.1=k
   ·rw[if_pos e]
    by_cases ej:j=k
    ·rw[if_pos ej,show decide ((p.1,v).1 =j)=true from decide_eq_true (e.trans ej.symm)];rfl
    ·rw[if_neg ej,show decide ((p.1,v).1 =j)=false from decide_eq_false fun q=>ej (q.symm.trans e)]
     clear ih h
     show((d.map _).find? _).map _=(d.find? _).map _
     congr 1
     induction d with
     |nil=>rfl
     |cons q d ih=>
      rw[List.map_cons,List.find?_cons,List.find?_cons]
      by_cases eq:q.1=k
      ·rw[if_pos eq,show decide ((q.1,v).1 =j)=false from decide_eq_false fun z=>ej (z.symm.trans eq)]
       exact ih
      ·rw[if_neg eq]
       cases decide (q.1=j) with
       |true=>rfl
       |false=>exact ih
   ·rw[if_neg e]
    have h':(d.any fun p=>decide (p.1=k))=true:=by
     rw[List.any_cons,decide_eq_false e,Bool.false_or] at h
     exact h
    by_cases ej:p.1=j
    ·rw[show decide (p.1=j)=true from decide_eq_true ej,if_neg fun q=>e (ej.trans q)]
    ·rw[show decide (p.1=j)=false from decide_eq_false ej]
     exact ih h'
 ·rename_i h
  rw[List.find?_append]
  by_cases e:j=k
  ·subst e
   rw[if_pos rfl,List.find?_eq_none.mpr]
   ·simp
   ·intro p hp q
    exact h (List.any_eq_true.mpr ⟨p,hp,q⟩)
  ·rw[if_neg e]
   have:([(k,v)]:List (Tx×β)).find? (fun p=>decide (p.1=j))=none:=by
    simp;exact fun q=>e q.symm
   rw[this,Option.or_none]
theorem x9{d:Dc}{k j:Tx}{v:Int}(h:(d.map (·.1)).Nodup):valOf (put d k v) j=if j=k then v else valOf d j:=by
 have h2:((put d k v).map (·.1)).Nodup:=by rw[qf];exact fu h
 rw[←(n6 h2).1,uP,←(n6 h).1]
 split <;> rfl
theorem m7{d:Dc}{p:Tx×Int}:(cW d p).map (·.1)=aW (d.map (·.1)) p.1:=qf
theorem uC{d:Dc}{p:Tx×Int}{j:Tx}(h:(d.map (·.1)).Nodup):valOf (cW d p) j=valOf d j+if p.1=j then p.2 else 0:=by
 unfold cW
 rw[x9 h]
 have h1:=n6 (k:=p.1) h
 by_cases e:j=p.1
 ·subst e
  rw[if_pos rfl,if_pos rfl,←h1.1]
  cases at' d p.1 with
  |none=>show p.2=0+p.2;lia
  |some v=>rfl
 ·rw[if_neg e,if_neg (Ne.symm e),Int.add_zero]
theorem mZ:∀{es d:Dc},(es.foldl cW d).map (·.1)=(es.map (·.1)).foldl aW (d.map (·.1))
 | [],_=>rfl
 |p::es,d=>by
  rw[List.foldl_cons,mZ,m7];rfl
theorem qd{j:Tx}:∀{es d:Dc},(d.map (·.1)).Nodup→valOf (es.foldl cW d) j=valOf d j+valOf es j
 | [],d,_=>(Int.add_zero _).symm
 |p::es,d,h=>by
  rw[List.foldl_cons,qd (by rw[m7];exact fu h),uC h,dI]
  lia
theorem rF:∀{es d:Dc},((d++es).map (·.1)).Nodup→es.foldl (fun acc p=>put acc p.1 p.2) d=d++es
 | [],d,_=>(List.append_nil d).symm
 |p::es,d,h=>by
  have h1:p.1∉d.map (·.1):=fun q=>by
   rw[List.map_append] at h
   exact(List.nodup_append.mp h).2.2 _ q p.1 (.head _) rfl
  rw[List.foldl_cons,nY h1,rF (by rw[List.append_assoc];exact h),List.append_assoc];rfl
theorem oj{d e:Dc}(h:(d.map (·.1)).Nodup):gm d e=e.foldl cW d:=by
 unfold gm
 rw[rF (d:=[]) h];rfl
section
variable(ss:List cO)
noncomputable def qM(p:Tx):List cO:=ss.filter fun s=>decide (s.1=p)
noncomputable def b8(g:cO→Int)(p:Tx):Int:=((qM ss p).map g).sum
noncomputable def gU(s:cO):Int:=if ic s.1=true then 1 else 0
noncomputable def gr(_:cO):Int:=1
noncomputable def j7(s:cO):Int:=s.2.1
noncomputable def j0(s:cO):Int:=s.2.2
noncomputable def dw(g:cO→Int)(l:List Tx):Int:=(l.map (b8 ss g)).sum
noncomputable def bM(l:List Tx):Dc:=(keysOf (l.map aV)).map fun k=>(k,dw ss gr (l.filter fun p=>decide (aV p=k)))
noncomputable def nN(l:List Tx):bk:=(dw ss gU l,dw ss gr l,dw ss j7 l,dw ss j0 l,bM ss l)
noncomputable def dO(p:Tx):bk:=(b8 ss gU p,b8 ss gr p,b8 ss j7 p,b8 ss j0 p,[(aV p,b8 ss gr p)])
theorem cD(l:List Tx):(bM ss l).map (·.1)=keysOf (l.map aV):=by
 unfold bM
 rw[List.map_map]
 exact(List.map_congr_left fun ν ν=>rfl).trans (List.map_id _)
theorem rM{f:Tx→Int}{k:Tx}:∀{K:List Tx},K.Nodup→valOf (K.map fun k=>(k,f k)) k=if k∈K then f k else 0
 | [],_=>rfl
 |a::K,h=>by
  have h1:=List.nodup_cons.mp h
  rw[List.map_cons,dI,rM h1.2]
  by_cases e:a=k
  ·subst e
   show(if a=a then f a else 0)+_=_
   rw[if_pos rfl,if_neg h1.1,if_pos (.head _),Int.add_zero]
  ·show(if a=k then f a else 0)+_=_
   rw[if_neg e,Int.zero_add]
   by_cases e2:k∈K
   ·rw[if_pos e2,if_pos (.tail _ e2)]
   ·rw[if_neg e2,if_neg fun q=>(List.mem_cons.mp q).elim (fun z=>e z.symm) e2]
theorem g6(l:List Tx)(k:Tx):valOf (bM ss l) k=dw ss gr (l.filter fun p=>decide (aV p=k)):=by
 unfold bM
 rw[rM keys_nodup]
 split
 ·rfl
 ·rename_i h
  rw[List.filter_eq_nil_iff.mpr]
  ·rfl
  ·intro p hp
   simpa using fun e:aV p=k=>h (fQ.mpr (List.mem_map.mpr ⟨p,hp,e⟩))
theorem ru(g:cO→Int)(l m:List Tx):dw ss g (l++m)=dw ss g l+dw ss g m:=by
 unfold dw
 rw[List.map_append,List.sum_append]
theorem ie(g:cO→Int)(p:Tx):dw ss g [p]=b8 ss g p:=by
 unfold dw
 simp
theorem xK:qw (dO ss) (nN ss) where
 one:=fun p=>by
  unfold nN dO
  rw[ie,ie,ie,ie]
  have:bM ss [p]=[(aV p,b8 ss gr p)]:=by
   show[(aV p,dw ss gr ([p].filter fun q=>decide (aV q=aV p)))]=_
   rw[List.filter_cons,if_pos (by simp),List.filter_nil,ie]
  rw[this]
 add:=fun l m=>by
  unfold nN fP
  have hk:((bM ss l).map (·.1)).Nodup:=by rw[cD];exact keys_nodup
  have hd:gm (bM ss l) (bM ss m)=bM ss (l++m):=by
   rw[oj hk]
   have e1:((bM ss m).foldl cW (bM ss l)).map (·.1)=(bM ss (l++m)).map (·.1):=by
    rw[mZ,cD,cD,cD,qO,List.map_append]
    unfold keysOf
    rw[List.foldl_append]
   refine vH (by rw[e1,cD];exact keys_nodup) e1 fun k=>?_
   rw[qd hk,g6,g6,g6,List.filter_append,ru]
  simp only[ru]
  rw[hd]
  simp only[Int.add_comm]
theorem rz{b:Tx}{v:Int}:∀{K:List Tx},K.Nodup→(K.map fun k=>if b=k then v else 0).sum =if b∈K then v else 0
 | [],_=>rfl
 |a::K,h=>by
  have h1:=List.nodup_cons.mp h
  rw[List.map_cons,List.sum_cons,rz h1.2]
  by_cases e:b=a
  ·subst e
   rw[if_pos rfl,if_neg h1.1,if_pos (.head _),Int.add_zero]
  ·rw[if_neg e,Int.zero_add]
   by_cases e2:b∈K
   ·rw[if_pos e2,if_pos (.tail _ e2)]
   ·rw[if_neg e2,if_neg fun q=>(List.mem_cons.mp q).elim e e2]
theorem sum_add{β:Type}{f g:β→Int}:∀{K:List β},(K.map fun k=>f k+g k).sum =(K.map f).sum +(K.map g).sum
 | []=>rfl
 |a::K=>by
  rw[List.map_cons,List.map_cons,List.map_cons,List.sum_cons,List.sum_cons,List.sum_cons,sum_add]
  lia
theorem twice{α:Type}{f:α→Tx}{g:α→Int}{K:List Tx}(hK:K.Nodup):∀{l:List α},
 (K.map fun k=>((l.filter fun a=>decide (f a=k)).map g).sum).sum =((l.filter fun a=>decide (f a∈K)).map g).sum
 | []=>by
   show(K.map fun ν=>(0:Int)).sum =0
   clear hK
   induction K with
   |nil=>rfl
   |cons a K ih=>rw[List.map_cons,List.sum_cons,ih];rfl
 |a::l=>by
  have h1:(K.map fun k=>(((a::l).filter fun a=>decide (f a=k)).map g).sum)=K.map fun k=>(if f a=k then g a else 0)+((l.filter fun a=>decide (f a=k)).map g).sum:=by
   refine List.map_congr_left fun k ν=>?_
   rw[List.filter_cons]
   by_cases e:f a=k
   ·rw[if_pos (decide_eq_true e),if_pos e];rfl
   ·rw[if_neg (by simpa using e),if_neg e,Int.zero_add]
  rw[h1,sum_add,rz hK,twice hK,List.filter_cons]
  by_cases e:f a∈K
  ·rw[if_pos e,if_pos (decide_eq_true e)];rfl
  ·rw[if_neg e,if_neg (by simpa using e),Int.zero_add]
theorem kI{g:cO→Int}{l:List Tx}(hl:l.Nodup):dw ss g l=((ss.filter fun s=>decide (s.1∈l)).map g).sum:=by
 exact twice hl
theorem rV{α:Type}{q:α→Bool}:∀{l:List α},((l.filter q).length :Int)=(l.map fun a=>if q a=true then(1:Int) else 0).sum
 | []=>rfl
 |a::l=>by
  rw[List.filter_cons,List.map_cons,List.sum_cons,←rV]
  by_cases e:q a=true
  ·rw[if_pos e,if_pos e,List.length_cons];lia
  ·rw[if_neg e,if_neg e];lia
theorem ku{α:Type}:∀{l:List α},((l.length:Nat):Int)=(l.map fun ν=>(1:Int)).sum
 | []=>rfl
 |a::l=>by
  rw[List.map_cons,List.sum_cons,←ku,List.length_cons];lia
theorem sS{O:List Tx}(hO:O.Nodup)(hs:∀s∈ss,s.1∈O)(e:Tx):
 dF e O ss=(((nN ss (O.filter (bg e))).1,(nN ss (O.filter (bg e))).2.1,(nN ss (O.filter (bg e))).2.2.1,(nN ss (O.filter (bg e))).2.2.2.1),(nN ss (O.filter (bg e))).2.2.2.2,((nN ss (O.filter (bg e))).2.2.2.2.map (·.2)).sum):=by
 have hb:below e=bg e:=funext fun x=>o5 e x
 obtain⟨l,hl⟩:∃l,l=O.filter (bg e):=⟨_,rfl⟩
 have hln:l.Nodup:=by rw[hl];exact hO.filter _
 have hw:aX e ss=ss.filter fun s=>decide (s.1∈l):=by
  unfold aX
  rw[hb]
  refine List.filter_congr fun s h=>?_
  rw[Bool.eq_iff_iff,decide_eq_true_eq,hl,List.mem_filter]
  exact⟨fun q=>⟨hs s h,q⟩,fun q=>q.2⟩
 have t (g:cO→Int):dw ss g l=((aX e ss).map g).sum:=by rw[kI ss hln,hw]
 have h1:(((aX e ss).filter fun p=>ic p.1).length :Int)=dw ss gU l:=by rw[rV,t];rfl
 have h2:((aX e ss).length :Int)=dw ss gr l:=by rw[ku,t];rfl
 have h3:((aX e ss).map (·.2.1)).sum =dw ss j7 l:=by rw[t];rfl
 have h4:((aX e ss).map (·.2.2)).sum =dw ss j0 l:=by rw[t];rfl
 have h5:((bX ((O.filter (below e)).map aV)).map fun name=>(name,calledBy (aX e ss) name))=bM ss l:=by
  rw[pC,hb,←hl]
  refine List.map_congr_left fun k ν=>?_
  congr 1
  unfold calledBy
  rw[ku,kI ss (hln.filter _),hw,List.filter_filter]
  congr 2
  refine List.filter_congr fun s ν=>?_
  rw[Bool.eq_iff_iff,Bool.and_eq_true,decide_eq_true_eq,decide_eq_true_eq,decide_eq_true_eq,List.mem_filter,decide_eq_true_eq,and_comm]
 have h6:((bM ss l).map (·.2)).sum =dw ss gr l:=by
  unfold bM
  rw[List.map_map]
  show((keysOf (l.map aV)).map fun k=>((l.filter fun p=>decide (aV p=k)).map (b8 ss gr)).sum).sum =_
  rw[twice keys_nodup,List.filter_eq_self.mpr]
  ·rfl
  ·intro p hp
   exact decide_eq_true (fQ.mpr (List.mem_map.mpr ⟨p,hp,rfl⟩))
 unfold dF
 rw[h1,h2,h3,h4,h5]
 rw[←hl]
 show _=((dw ss gU l,dw ss gr l,dw ss j7 l,dw ss j0 l),bM ss l,((bM ss l).map (·.2)).sum)
 rw[h6]
end
theorem vI{ss:List cO}{s:cO}{p:Tx}:qM (ss++[s]) p=qM ss p++if s.1=p then[s] else[]:=by
 unfold qM
 rw[List.filter_append,List.filter_cons]
 by_cases e:s.1=p
 ·rw[if_pos (decide_eq_true e),if_pos e];rfl
 ·rw[if_neg (by simpa using e),if_neg e];rfl
theorem mH{ss:List cO}{s:cO}{g:cO→Int}{p:Tx}:b8 (ss++[s]) g p=b8 ss g p+if s.1=p then g s else 0:=by
 unfold b8
 rw[vI,List.map_append,List.sum_append]
 by_cases e:s.1=p
 ·rw[if_pos e,if_pos e];simp
 ·rw[if_neg e,if_neg e];simp
theorem kg{ss:List cO}{s:cO}:tableOf (ss++[s])=iM (tableOf ss) s:=List.foldl_append ..
theorem vW{k:Tx}{a b:Int}:gm [(k,a)] [(k,b)]=[(k,a+b)]:=by
 rw[oj (d:=[(k,a)]) (by simp)]
 show cW [(k,a)] (k,b)=_
 unfold cW at' put
 simp
theorem vE{k:Tx}{b:Int}:gm [] [(k,b)]=[(k,b)]:=by
 rw[oj (d:=[]) (by simp)]
 rfl
theorem pO(ss:List cO):∀p,at' (tableOf ss) p=if p∈ss.map (·.1) then some (dO ss p) else none:=by
 refine snoc_ind (P:=fun ss:List cO=>∀p,at' (tableOf ss) p=if p∈ss.map (·.1) then some (dO ss p) else none) (fun p=>rfl) (fun l s ih p=>?_) ss
 rw[kg]
 unfold iM
 rw[uP]
 have hm:(p∈(l++[s]).map (·.1))↔(p∈l.map (·.1)∨p=s.1):=by
  rw[List.map_append,List.mem_append]
  exact or_congr Iff.rfl List.mem_singleton
 by_cases e:p=s.1
 ·rw[if_pos e,if_pos (hm.mpr (.inr e))]
  subst e
  congr 1
  have hsum (g:cO→Int):b8 (l++[s]) g s.1=b8 l g s.1+g s:=by rw[mH,if_pos rfl]
  have hR:dO (l++[s]) s.1=(b8 l gU s.1+gU s,b8 l gr s.1+1,b8 l j7 s.1+s.2.1,b8 l j0 s.1+s.2.2,[(aV s.1,b8 l gr s.1+1)]):=by
   unfold dO
   rw[hsum,hsum,hsum,hsum];rfl
  rw[ih,hR]
  by_cases h:s.1∈l.map (·.1)
  ·rw[if_pos h]
   show fP (dO l s.1) (entryOf s)=_
   unfold fP dO entryOf
   simp only[vW,gU,Int.add_comm]
  ·rw[if_neg h]
   show fP fU (entryOf s)=_
   have h0 (g:cO→Int):b8 l g s.1=0:=by
    unfold b8 qM
    rw[List.filter_eq_nil_iff.mpr]
    ·rfl
    ·intro q hq
     simpa using fun z:q.1=s.1=>h (List.mem_map.mpr ⟨q,hq,z⟩)
   rw[h0,h0,h0,h0]
   unfold fP fU entryOf
   simp only[vE,Int.add_zero,Int.zero_add]
   rfl
 ·rw[if_neg e,ih]
  have hg:dO (l++[s]) p=dO l p:=by
   have hsum (g:cO→Int):b8 (l++[s]) g p=b8 l g p:=by rw[mH,if_neg (Ne.symm e),Int.add_zero]
   unfold dO
   rw[hsum,hsum,hsum,hsum]
  by_cases h:p∈l.map (·.1)
  ·rw[if_pos h,if_pos (hm.mpr (.inl h)),hg]
  ·rw[if_neg h,if_neg fun q=>(hm.mp q).elim h e]
theorem sU(ss:List cO):(tableOf ss).length≤ss.length:=by
 refine snoc_ind (P:=fun ss:List cO=>(tableOf ss).length≤ss.length) (Nat.le_refl _) (fun l s ih=>?_) ss
 rw[kg]
 have:=kD (tableOf l) s.1 (fP ((at' (tableOf l) s.1).getD fU) (entryOf s))
 rw[List.length_append]
 exact ω80 ih this
theorem rN(ss:List cO)(p:Tx):d9 (dO ss p)=(b8 ss gU p,b8 ss gr p,b8 ss j7 p,b8 ss j0 p,b8 ss gr p):=by
 unfold d9 dO
 simp
theorem xV(ss:List cO)(p:Tx)(n:Int):(Line.ln n p (d9 (dO ss p))).told =some (n,p,dO ss p):=by
 rw[rN];rfl
theorem gD{ss:List cO}{g:cO→Int}{p:Tx}(h:∀s∈ss,0≤g s∧g s≤1000)(hl:ss.length≤100):Small (b8 ss g p):=by
 have h1:∀l:List cO,(∀s∈l,0≤g s∧g s≤1000)→0≤(l.map g).sum∧(l.map g).sum≤1000*l.length:=by
  intro l hl
  induction l with
  |nil=>exact⟨Int.le_refl _,Int.le_refl _⟩
  |cons a l ih=>
   obtain⟨i1,i2⟩:=ih fun s hs=>hl s (.tail _ hs)
   obtain⟨j1,j2⟩:=hl a (.head _)
   rw[List.map_cons,List.sum_cons,List.length_cons]
   exact⟨by exact ω215 i1 j1,by exact ω139 i2 j2⟩
 obtain⟨i1,i2⟩:=h1 (qM ss p) fun s hs=>h s ((List.mem_filter.mp hs).1)
 have h2:(qM ss p).length≤ss.length:=List.length_filter_le ..
 exact⟨i1,by unfold b8;exact ω142 hl i2 h2 rfl⟩
end Mine
namespace Mine
noncomputable def wR(c:Nat):Tx:=if c=38 then bP else if c=60 then iI else[c]
noncomputable def eT(x:Tx):Tx:=x.flatMap wR
theorem rD(x:Tx):iz x=subst1 38 bP x:=by
 unfold iz d8
 rw[zP,yH]
 by_cases h:38∈x
 ·rw[if_pos (decide_eq_true h)]
 ·rw[if_neg (by simpa using h),c5 h]
theorem eX(x:Tx):bD x=eT x:=by
 have h1:bD x=subst1 60 iI (iz x):=by
  unfold bD d8
  rw[zP,yH]
  by_cases h:60∈iz x
  ·rw[if_pos (decide_eq_true h)]
  ·rw[if_neg (by simpa using h),c5 h]
 rw[h1,rD]
 unfold subst1 eT
 rw[List.flatMap_assoc]
 congr 1
 funext c
 unfold wR
 by_cases h:c=38
 ·rw[if_pos h,if_pos h];rfl
 ·rw[if_neg h,if_neg h]
  show(if c=60 then iI else[c])++[]=_
  rw[List.append_nil]
theorem gY(x y:Tx):eT (x++y)=eT x++eT y:=List.flatMap_append ..
theorem lB{x:Tx}(h:∀c∈x,c≠38∧c≠60):eT x=x:=by
 induction x with
 |nil=>rfl
 |cons a x ih=>
  obtain⟨h1,h2⟩:=h a (.head _)
  show wR a++eT x=_
  rw[ih fun c hc=>h c (.tail _ hc)]
  unfold wR
  rw[if_neg h1,if_neg h2];rfl
theorem xN(c:Nat):(wR c).length≤5:=by
 unfold wR
 split
 ·decide
 ·split
  ·decide
  ·exact Nat.le_of_ble_eq_true rfl
theorem u6(x:Tx):(eT x).length≤5*x.length:=by
 induction x with
 |nil=>exact Nat.le_refl _
 |cons a x ih=>
  show(wR a++eT x).length≤_
  have:=xN a
  rw[List.length_append,List.length_cons]
  exact ω91 ih this
theorem sub_len(x z:Tx)(c k:Nat)(h1:z.length≤k)(h2:1≤k):(subst1 c z x).length≤k*x.length:=by
 induction x with
 |nil=>exact Nat.le_refl _
 |cons a x ih=>
  show((if a=c then z else[a])++subst1 c z x).length≤_
  rw[List.length_append,List.length_cons,Nat.mul_succ]
  have:(if a=c then z else[a]).length≤k:=by
   split
   ·exact h1
   ·exact h2
  exact ω130 ih this
theorem wh{x:Tx}{a:Nat}(h:a∈eT x):a∈x∨a∈bP∨a∈iI:=by
 refine aj (List.mem_flatMap.mp h) fun c hc ha=>?_
 unfold wR at ha
 split at ha
 ·exact .inr (.inl ha)
 ·split at ha
  ·exact .inr (.inr ha)
  ·rw[List.mem_singleton.mp ha];exact .inl hc
theorem jP{P:Tx→Prop}(h0:P [])(h1:∀x,P x→P (38::x))(h2:∀x,P x→P (60::x))(h3:∀c x,c≠38→c≠60→P x→P (c::x)):∀x,P x
 | []=>h0
 |c::x=>by
  have ih:=jP h0 h1 h2 h3 x
  by_cases e:c=38
  ·subst e;exact h1 x ih
  ·by_cases e2:c=60
   ·subst e2;exact h2 x ih
   ·exact h3 c x e e2 ih
theorem zy{c:Nat}{x:Tx}(h:c≠38)(h2:c≠60):eT (c::x)=c::eT x:=by
 show wR c++eT x=_
 unfold wR
 rw[if_neg h,if_neg h2];rfl
theorem vR{x:Tx}:eT (38::x)=38::97::109::112::59::eT x:=rfl
theorem wm{x:Tx}:eT (60::x)=38::108::116::59::eT x:=rfl
theorem oA{a c:Nat}{y r:Tx}(h:c≠a):¬(a::y).isPrefixOf (c::r)=true:=by
 rw[List.isPrefixOf_iff_prefix,List.cons_prefix_cons]
 exact fun q=>h q.1.symm
theorem vQ{c:Nat}{r:Tx}(h:c≠38):¬iI.isPrefixOf (c::r)=true:=oA h
theorem q9{c:Nat}{r:Tx}(h:c≠38):¬bP.isPrefixOf (c::r)=true:=oA h
theorem Bp(x:Tx):fB iI [60] 0 (eT x)=subst1 38 bP x:=by
 refine jP (P:=fun x=>fB iI [60] 0 (eT x)=subst1 38 bP x) rfl ?_ ?_ ?_ x
 ·intro x ih
  rw[vR]
  show 38::97::109::112::59::fB iI [60] 0 (eT x)=_
  rw[ih];rfl
 ·intro x ih
  rw[wm]
  show 60::fB iI [60] 0 (eT x)=_
  rw[ih];rfl
 ·intro c x h1 h2 ih
  rw[zy h1 h2]
  show(if _ then _ else _)=(if c=38 then bP else[c])++subst1 38 bP x
  rw[if_neg (vQ h1),if_neg h1,ih];rfl
theorem A1(x:Tx):fB bP [38] 0 (subst1 38 bP x)=x:=by
 induction x with
 |nil=>rfl
 |cons c x ih=>
  show fB bP [38] 0 ((if c=38 then bP else[c])++subst1 38 bP x)=_
  by_cases h:c=38
  ·rw[if_pos h]
   show 38::fB bP [38] 0 (subst1 38 bP x)=_
   rw[ih,h]
  ·rw[if_neg h]
   show(if bP.isPrefixOf (c::subst1 38 bP x)=true then _ else c::fB bP [38] 0 (subst1 38 bP x))=_
   rw[if_neg (q9 h),ih]
theorem mj(x:Tx):plainT (bD x)=x∧dR (bD x) iI [60]=subst1 38 bP x:=by
 have h1:dR (bD x) iI [60]=subst1 38 bP x:=by rw[rC (by decide),eX,Bp]
 unfold plainT
 rw[h1,rC (by decide),A1]
 exact⟨rfl,rfl⟩
theorem Bl(x:Tx):cJ [60] 0 (eT x)=0:=by
 refine jP (P:=fun x=>cJ [60] 0 (eT x)=0) rfl (fun x ih=>?_) (fun x ih=>?_) (fun c x h1 h2 ih=>?_) x
 ·rw[vR];exact ih
 ·rw[wm];exact ih
 ·rw[zy h1 h2]
  show(if _ then _ else _)=_
  rw[if_neg (oA h2),ih]
theorem refs(x:Tx):cJ [38] 0 (eT x)=cJ iI 0 (eT x)+cJ bP 0 (eT x):=by
 refine jP (P:=fun x=>cJ [38] 0 (eT x)=cJ iI 0 (eT x)+cJ bP 0 (eT x)) rfl (fun x ih=>?_) (fun x ih=>?_) (fun c x h1 h2 ih=>?_) x
 ·rw[vR]
  show 1+cJ [38] 0 (eT x)=cJ iI 0 (eT x)+(1+cJ bP 0 (eT x))
  lia
 ·rw[wm]
  show 1+cJ [38] 0 (eT x)=(1+cJ iI 0 (eT x))+cJ bP 0 (eT x)
  lia
 ·rw[zy h1 h2]
  show(if _ then _ else _)=(if _ then _ else _)+(if _ then _ else _)
  rw[if_neg (oA h1),if_neg (vQ h1),if_neg (q9 h1),ih]
theorem marks(x:Tx):cnt (60::eT x) [60]=1∧cnt (60::eT x) [38]=cnt (60::eT x) iI+cnt (60::eT x) bP:=by
 rw[nq (by decide),nq (by decide),nq (by decide),nq (by decide)]
 constructor
 ·show((1+cJ [60] 0 (eT x):Nat):Int)=1
  rw[Bl];rfl
 ·show((cJ [38] 0 (eT x):Nat):Int)=((cJ iI 0 (eT x):Nat):Int)+((cJ bP 0 (eT x):Nat):Int)
  rw[refs];exact rfl
theorem vP{v:Tx}(hl:v.length≤200)(h:∀a∈v,a≠34∧a≠9∧a≠10∧a≠13):rL v:=by
 have hm (c:Nat) (h1:c∉v) (h2:c∉bP) (h3:c∉iI):d8 (bD v) [c]=false:=by
  unfold d8
  rw[zP,eX]
  exact decide_eq_false fun q=>(wh q).elim h1 fun q=>q.elim h2 h3
 have e1:=u6 v
 have e2:=sub_len v bP 38 5 (by decide) (by decide)
 exact{
  len:=by exact ω1 hl rfl
  e1:=by rw[rD];exact ω13 hl e2 rfl
  e2:=by rw[eX];exact ω13 hl e1 rfl
  n1:=hm 34 (fun q=>(h 34 q).1 rfl) (by decide) (by decide)
  n2:=hm 9 (fun q=>(h 9 q).2.1 rfl) (by decide) (by decide)
  n3:=hm 10 (fun q=>(h 10 q).2.2.1 rfl) (by decide) (by decide)
  n4:=hm 13 (fun q=>(h 13 q).2.2.2 rfl) (by decide) (by decide)}
theorem uM(x:Tx)(a:Nat):cut (x++[a]) none (some (-1))=x:=by
 have h:=clipAt_cast (x++[a]).length (-1)
 show((x++[a]).drop 0).take (clipAt (x++[a]).length (-1)-0)=_
 rw[List.length_append] at h⊢
 have e:clipAt (x.length+[a].length) (-1)=x.length:=by
  have h1:[a].length =1:=rfl
  rw[if_pos (by exact Int.NonNeg.mk (0+0)),h1] at h
  rw[h1]
  exact ω109 h
 rw[e,List.drop_zero,Nat.sub_zero,List.take_left]
theorem w5(x:Tx)(a b:Nat):cut (x++[a,b]) (some (-2)) none=[a,b]:=by
 have h:=clipAt_cast (x++[a,b]).length (-2)
 show((x++[a,b]).drop (clipAt (x++[a,b]).length (-2))).take ((x++[a,b]).length -clipAt (x++[a,b]).length (-2))=_
 have h1:(x++[a,b]).length =x.length+2:=by simp
 have e:clipAt (x++[a,b]).length (-2)=x.length:=by
  rw[if_pos (by exact Int.NonNeg.mk (0+Nat.succ 0))] at h
  exact ω105 h h1
 rw[e,List.drop_left,h1,Nat.add_sub_cancel_left];rfl
theorem rX(x:Tx)(a:Nat):cut (a::x) (some 1) none=x:=by
 have h:=clipAt_cast (a::x).length 1
 show((a::x).drop (clipAt (a::x).length 1)).take ((a::x).length -clipAt (a::x).length 1)=_
 have e:clipAt (a::x).length 1=1:=by
  rw[if_neg (by exact ω221 Nat.le.refl rfl),List.length_cons] at h
  exact ω104 h rfl (Nat.succ_pos _)
 rw[e]
 show x.take (x.length+1-1)=x
 rw[Nat.add_sub_cancel,List.take_length]
noncomputable def cz(h:Tx):List (Tx×Tx)→List Tx
 | []=>[h++[62]]
 |p::r=>(h++[32]++p.1++[61])::bD p.2::cz [] r
theorem mW{h:Tx}{l:List (Tx×Tx)}:cz h l≠[]:=by cases l <;> exact List.cons_ne_nil _ _
theorem kL:∀{l:List (Tx×Tx)} {h:Tx},glue [34] (cz h l)=h++(l.map bf).flatten ++[62]
 | [],h=>by
   show h++[62]=h++[]++[62]
   rw[List.append_nil]
 |p::r,h=>by
  show glue [34] ((h++[32]++p.1++[61])::bD p.2::cz [] r)=_
  rw[iT (List.cons_ne_nil _ _),iT mW,kL,List.map_cons,List.flatten_cons]
  unfold bf
  simp
theorem mL:∀{l:List (Tx×Tx)} {h:Tx},(cz h l).length =2*l.length+1
 | [],_=>rfl
 |_::r,_=>by
  show(cz [] r).length +1+1=_
  rw[mL,List.length_cons];exact rfl
theorem mE:∀{l:List (Tx×Tx)} {h:Tx} {i:Nat} {p:Tx×Tx},l[i]?=some p→(cz h l)[2*i]?=some ((if i=0 then h else[])++[32]++p.1++[61])∧(cz h l)[2*i+1]?=some (bD p.2)
 | [],_,_,_,e=>by cases e
 |q::r,h,0,p,e=>by
  cases e
  exact⟨rfl,rfl⟩
 |q::r,h,i+1,p,e=>by
  obtain⟨h1,h2⟩:=mE (h:=[]) (show r[i]?=some p from e)
  have h3:(if i=0 then([]:Tx) else[])=[]:=by split <;> rfl
  rw[h3] at h1
  exact⟨h1,h2⟩
theorem iB:∀{l:List (Tx×Tx)} {h:Tx},34∉h→(∀p∈l,34∉p.1∧34∉bD p.2)→∀x∈cz h l,34∉x
 | [],h,hh,_,x,hx=>by
   rw[List.mem_singleton.mp hx]
   simp[hh]
 |p::r,h,hh,hp,x,hx=>by
  obtain⟨h1,h2⟩:=hp p (.head _)
  rcases List.mem_cons.mp hx with rfl|hx
  ·simp[hh,h1]
  ·rcases List.mem_cons.mp hx with rfl|hx
   ·exact h2
   ·exact iB (h:=[]) (by simp) (fun q hq=>hp q (.tail _ hq)) x hx
theorem jo{c:Nat}{a b:Tx}(h:c∉a):aJ (a++c::b) [c]=a::aJ b [c]:=by
 have h1:a++c::b=glue [c] (a::aJ b [c]):=by
  rw[iT (jb _ _),dB,List.append_assoc];rfl
 rw[h1]
 exact cZ (List.cons_ne_nil _ _) fun p hp=>by
  rcases List.mem_cons.mp hp with rfl|hp
  ·exact h
  ·exact dW b c p hp
theorem split_len{c:Nat}:∀{l:List Tx},l≠[]→(∀p∈l,c∉p)→(glue [c] l).count c+1=l.length
 | [],h,_=>absurd rfl h
 | [a],_,h=>by
   show a.count c+1=1
   rw[List.count_eq_zero_of_not_mem (h a (.head _))]
 |a::b::r,_,h=>by
  have ih:=split_len (c:=c) (l:=b::r) (List.cons_ne_nil _ _) fun p hp=>h p (.tail _ hp)
  show(a++[c]++glue [c] (b::r)).count c+1=_
  rw[List.count_append,List.count_append,List.count_eq_zero_of_not_mem (h a (.head _)),List.count_singleton_self,List.length_cons]
  lia
theorem gX(x:Tx)(c:Nat):(aJ x [c]).length =x.count c+1:=by
 rw[←split_len (jb x [c]) (dW x c),dB]
theorem named{h pf lo:Tx}(h0:32∉h)(h1:32∉pf)(h2:32∉lo)(h3:58∉pf)(h4:58∉lo)(l1:pf.length≤100)(l2:lo.length≤100):Named (h++[32]++(pf++[58]++lo)++[61]) pf lo:=by
 refine⟨(pf++[58]++lo)++[61],?_,?_,?_,l1,l2⟩
 ·rw[show h++[32]++(pf++[58]++lo)++[61]=h++32::((pf++[58]++lo)++[61]) from by simp,jo h0]
  rw[show aJ ((pf++[58]++lo)++[61]) [32]=[(pf++[58]++lo)++[61]] from cZ (l:=[(pf++[58]++lo)++[61]]) (List.cons_ne_nil _ _) fun p hp=>by
   rw[List.mem_singleton.mp hp]
   simp[h1,h2]]
  rfl
 ·rw[uM]
  exact cZ (l:=[pf,lo]) (List.cons_ne_nil _ _) fun p hp=>by
   rcases List.mem_cons.mp hp with rfl|hp
   ·exact h3
   ·rw[List.mem_singleton.mp hp];exact h4
 ·simp only[List.length_append,List.length_cons,List.length_nil]
  exact ω186 l1 l2 rfl
end Mine
namespace Mine
theorem ji{α:Type}{f:α→α→Bool}(hO:Ord f){l:List α}(hn:l.Nodup):∃m:List α,m.Perm l∧m.Pairwise fun x y=>f x y=true:=by
 have hp:=List.mergeSort_perm l (fun x y=>!f y x)
 refine⟨l.mergeSort (fun x y=>!f y x),hp,?_⟩
 have h1:=List.pairwise_mergeSort (le:=fun x y=>!f y x) (fun a b c h1 h2=>?_) (fun a b=>?_) l
 ·have h2:=hp.nodup_iff.mpr hn
  refine(h1.and h2).imp fun{x y} h=>?_
  have h3:f y x=false:=by simpa using h.1
  exact hO.tot y x h.2.symm h3
 ·have h1:f b a=false:=by simpa using h1
  have h2:f c b=false:=by simpa using h2
  cases hc:f c a with
  |false=>rfl
  |true=>
   exfalso
   by_cases e:b=a
   ·subst e;rw[hc] at h2;cases h2
   ·have h3:=hO.tr c a b hc (hO.tot b a e h1)
    rw[h3] at h2;cases h2
 ·show(!f b a|| !f a b)=true
  cases h:f b a with
  |false=>rfl
  |true=>rw[hO.oJ _ _ h];rfl
noncomputable def Sg(p:Tx):Prop:=∀a∈p,a=38∨a=60∨a=97∨a=124
structure BO(ps:List Tx)(ss:List cO):Prop where
 nd:ps.Nodup
 two:2≤ps.length
 hi:ps.length≤20
 len:∀p∈ps,p.length≤5
 ne:∀p∈ps,p≠[]
 sg:∀p∈ps,Sg p
 sl:ss.length≤20
 mem:∀s∈ss,s.1∈ps
 cov:∀p∈ps,p∈ss.map (·.1)
 fig:∀s∈ss,(0≤s.2.1∧s.2.1≤1000)∧0≤s.2.2∧s.2.2≤1000
theorem yD{p:Tx}(h:Sg p):∀a∈p,a<125:=fun a ha=>by have:=h a ha;lia
noncomputable def cA(q:Tx):Tx:=(q.drop 1).take (q.length-3)
noncomputable def qV(q:Tx):Tx:=q.drop (q.length-1)
noncomputable def kF(q:Tx):Tx×Tx:=(q.take (q.length-2),q.drop (q.length-1))
theorem d7(p:Tx)(c:Nat):aL p [c]=123::(p++[125,c]):=by unfold aL;simp
theorem jR(p:Tx)(c:Nat):(aL p [c]).length =p.length+3:=by rw[d7];simp
theorem gy(p:Tx)(c:Nat):cA (aL p [c])=p:=by
 unfold cA
 rw[jR,Nat.add_sub_cancel,d7,List.drop_succ_cons,List.drop_zero,List.take_left]
theorem qF(p:Tx)(c:Nat):qV (aL p [c])=[c]:=by
 unfold qV
 rw[jR,d7,show p.length+3-1=(123::(p++[125])).length from by simp,show 123::(p++[125,c])=(123::(p++[125]))++[c] from by simp,List.drop_left]
theorem fz(p:Tx)(c:Nat):kF (aL p [c])=(123::p,[c]):=by
 have h:=qF p c
 unfold qV at h
 unfold kF
 rw[h,jR,d7,show p.length+3-2=(123::p).length from by simp,show 123::(p++[125,c])=(123::p)++[125,c] from by simp,List.take_left]
theorem kM{p q:Tx}{c d:Nat}(h:aL p [c]=aL q [d]):p=q∧c=d:=by
 have h1:=congrArg kF h
 rw[fz,fz] at h1
 have h2:=congrArg Prod.fst h1
 have h3:=congrArg Prod.snd h1
 exact⟨(List.cons.inj h2).2,(List.cons.inj h3).1⟩
theorem xP{p:Tx}{c:Nat}(hs:Sg p)(hl:p.length≤5)(hn:p≠[])(hc:c≠125):wA (aL p [c]) (cA (aL p [c])) (qV (aL p [c])) (kF (aL p [c])):=by
 have h125:125∉p:=fun q=>Nat.lt_irrefl _ (yD hs 125 q)
 have e2:aL p [c]=(123::p)++125::[c]:=by rw[d7];simp
 rw[gy,qF,fz]
 exact{
  b:=by
   rw[show cut (aL p [c]) none (some 1)=(aL p [c]).take 1 from eK _ 1,d7];rfl
  sp:=by
   rw[d7,rX,show p++[125,c]=p++125::[c] from rfl]
   exact q6 fun q=>hc (List.mem_singleton.mp q).symm
  len:=by rw[jR];lia
  ux:=fun q=>by
   have:cj.length=36:=by decide+kernel
   rw[q] at hl
   lia
  u0:=hn
  ul:=by exact ω1 hl rfl
  tl:=by show 1≤100;exact ω0 rfl
  key:=by
   rw[e2]
   exact tQ fun q=>by
    rcases List.mem_cons.mp q with h|h
    ·lia
    ·exact h125 h}
theorem eH{i a:Nat}(h:a∈bz i):a=110∨(48≤a∧a≤57):=by
 rcases List.mem_cons.mp h with h|h
 ·exact .inl h
 ·exact .inr (jx a h)
theorem uz{i j:Nat}(h:bz i=bz j):i=j:=pU (List.cons.inj h).2
theorem gZ(us:List Tx):(ak us).Pairwise fun p r=>p.2≠r.2:=by
 unfold ak
 rw[List.pairwise_iff_getElem]
 intro i j hi hj hij
 rw[List.getElem_map,List.getElem_map,List.getElem_zipIdx,List.getElem_zipIdx]
 exact fun q=>by
  have h1:=uz q
  lia
theorem wH{us:List Tx}{p:Tx×Tx}(h:p∈ak us):∃i,us[i]?=some p.1∧p.2=bz i:=by
 obtain⟨i,hi⟩:=List.getElem?_of_mem h
 unfold ak at hi
 rw[List.getElem?_map,List.getElem?_zipIdx,Option.map_map] at hi
 cases h1:us[i]? with
 |none=>rw[h1] at hi;cases hi
 |some u=>
  rw[h1] at hi
  have hi:=Option.some.inj hi
  subst hi
  exact⟨i,h1,by show bz (0+i)=bz i;rw[Nat.zero_add]⟩
theorem w4{us:List Tx}{i:Nat}{u:Tx}(h:us[i]?=some u):(u,bz i)∈ak us:=by
 refine List.mem_map.mpr ⟨(u,i),?_,rfl⟩
 rw[List.mem_iff_getElem?]
 exact⟨i,by rw[List.getElem?_zipIdx,h];show some (u,0+i)=_;rw[Nat.zero_add]⟩
theorem o6{us:List Tx}{u:Tx}(h:u∉us):aW us u=us++[u]:=if_neg h
theorem lA{f:Tx→Tx}:∀{l m us:List Tx},bw f us (l++m)=bw f (bw f us l) m
 | [],_,_=>rfl
 |_::l,m,us=>lA (l:=l)
theorem j6{f:Tx→Tx}:∀{l us:List Tx},∃r,bw f us l=us++r
 | [],us=>⟨[],(List.append_nil us).symm⟩
 |q::l,us=>by
  obtain⟨r,h⟩:=j6 (f:=f) (l:=l) (us:=aW us (f q))
  show∃r,bw f (aW us (f q)) l=us++r
  rw[h]
  unfold aW
  split
  ·exact⟨r,rfl⟩
  ·exact⟨f q::r,by rw[List.append_assoc];rfl⟩
noncomputable def gN(p0 p:Tx):List Tx:=if p=p0 then[aL p [101],aL p [107]] else[aL p [107]]
theorem jm{p0:Tx}:∀{l us:List Tx},(us++l).Nodup→bw cA us (l.flatMap (gN p0))=us++l
 | [],us,_=>(List.append_nil us).symm
 |p::l,us,h=>by
  have hp:p∉us:=fun q=>(List.nodup_append.mp h).2.2 p q p (.head _) rfl
  have h2:bw cA us (gN p0 p)=us++[p]:=by
   unfold gN
   by_cases e:p=p0
   ·rw[if_pos e]
    show aW (aW us (cA (aL p [101]))) (cA (aL p [107]))=_
    rw[gy,gy,o6 hp,nj (by simp)]
   ·rw[if_neg e]
    show aW us (cA (aL p [107]))=_
    rw[gy,o6 hp]
  rw[List.flatMap_cons,lA,h2,jm (by rw[List.append_assoc];exact h),List.append_assoc];rfl
theorem lI{uriOf tlOf:Tx→Tx}{k:Tx}:∀{l us:List Tx},k∈l→∃l1 l2,l=l1++k::l2∧at' (br uriOf tlOf us l) k=some (jJ (bw uriOf us l1) (uriOf k) (tlOf k))
 | [],_,h=>nomatch h
 |q::r,us,h=>by
  by_cases e:q=k
  ·subst e
   refine⟨[],r,rfl,?_⟩
   show at' ((q,jJ us (uriOf q) (tlOf q))::br uriOf tlOf (aW us (uriOf q)) r) q=_
   unfold at'
   rw[List.find?_cons,decide_eq_true rfl];rfl
  ·refine aB (lI (uriOf:=uriOf) (tlOf:=tlOf) (l:=r) (us:=aW us (uriOf q)) ((List.mem_cons.mp h).resolve_left fun z=>e z.symm)) fun l1 l2 h1 h2=>?_
   refine⟨q::l1,l2,by rw[h1];rfl,?_⟩
   show at' ((q,jJ us (uriOf q) (tlOf q))::br uriOf tlOf (aW us (uriOf q)) r) k=_
   unfold at' at h2⊢
   rw[List.find?_cons,show decide ((q,jJ us (uriOf q) (tlOf q)).1 =k)=false from decide_eq_false e]
   exact h2
theorem sf{p0 p:Tx}{O:List Tx}{c:Nat}(hO:O.Nodup)(hm:aL p [c]∈O.flatMap (gN p0)):iG cA qV (O.flatMap (gN p0)) (aL p [c])=bz (O.idxOf p)++[58]++[c]:=by
 refine aB (lI (uriOf:=cA) (tlOf:=qV) (us:=[]) hm) fun l1 l2 h1 h2=>?_
 unfold iG
 rw[h2]
 show bz ((aW (bw cA [] l1) (cA (aL p [c]))).idxOf (cA (aL p [c])))++[58]++qV (aL p [c])=_
 rw[gy,qF]
 have h3:bw cA [] (O.flatMap (gN p0))=O:=jm hO
 rw[h1,lA] at h3
 have h4:bw cA (bw cA [] l1) (aL p [c]::l2)=bw cA (aW (bw cA [] l1) p) l2:=by
  show bw cA (aW (bw cA [] l1) (cA (aL p [c]))) l2=_
  rw[gy]
 obtain⟨r,h5⟩:=j6 (f:=cA) (l:=l2) (us:=aW (bw cA [] l1) p)
 rw[h4,h5] at h3
 rw[←h3,List.idxOf_append,if_pos (jY.mpr (.inr rfl))]
noncomputable def xZ(p q:Tx):Bool:=eO (aL p [107]) (aL q [107])
theorem uf:Ord xZ where
 tr:=fun x y z h1 h2=>fM.tr _ _ _ h1 h2
 tot:=fun x y h h1=>fM.tot _ _ (fun q=>h (kM q).1) h1
 oJ:=fun x y h=>fM.oJ _ _ h
theorem Ay{p q:Tx}(hp:Sg p)(hq:Sg q)(h:xZ p q=true):Po p q:=by
 have hne:p≠q:=by
  intro υ0;obtain rfl:=υ0
  have:=uf.oJ _ _ h
  rw[h] at this;cases this
 have back:¬Po q p:=fun k=>by
  have h1:Lf (aL q [107]) (aL p [107]):=by
   rw[d7,d7]
   exact .inr ⟨rfl,k.lf (yD hq)⟩
  have h2:aL q [107]<aL p [107]:=lt_iff.mpr (.inr h1)
  have h3:=uf.oJ _ _ h
  unfold xZ eO at h3
  exact of_decide_eq_false h3 h2
 rcases AL hne with k|k|k|k
 ·exact absurd (.inl k) back
 ·exact .inl k
 ·exact .inr k
 ·exact absurd (.inr k) back
theorem sJ{z:Int}(h:Small z):∃n:Nat,z=n∧n<10^10:=⟨z.toNat,by have:=h.1;exact id (ω172 this),by have:=h.1;have:=h.2;exact id (ω120 h)⟩
theorem cH{z:Int}(h:Small z):(∀a∈bZ z,48≤a∧a≤57)∧(bZ z).length≤10:=by
 refine⟨?_,fX h.1 h.2⟩
 refine aj (sJ h) fun n π31 ν2=>?_;rcases π31 with rfl
 exact jx
theorem oS{a:Nat}{z:Tx}:∀{l:List Tx},a∈glue z l→a∈z∨∃p∈l,a∈p
 | [],h=>nomatch h
 | [p],h=>.inr ⟨p,.head _,h⟩
 |p::q::r,h=>by
  have h:a∈p++z++glue z (q::r):=h
  rcases List.mem_append.mp h with h|h
  ·rcases List.mem_append.mp h with h|h
   ·exact .inr ⟨p,.head _,h⟩
   ·exact .inl h
  ·rcases oS h with h|⟨x,hx,h⟩
   ·exact .inl h
   ·exact .inr ⟨x,.tail _ hx,h⟩
theorem pS{z:Tx}{b:Nat}:∀{l:List Tx},(∀p∈l,p.length≤b)→(glue z l).length≤l.length*(b+z.length)
 | [],_=>Nat.zero_le _
 | [p],h=>by
   have:=h p (.head _)
   show p.length≤1*_
   lia
 |p::q::r,h=>by
  have h1:=h p (.head _)
  have ih:=pS (z:=z) (l:=q::r) fun x hx=>h x (.tail _ hx)
  show(p++z++glue z (q::r)).length≤((q::r).length +1)*_
  rw[List.length_append,List.length_append,Nat.succ_mul]
  exact ω90 ih h1
noncomputable def qI(f:pH):Prop:=Small f.1∧Small f.2.1∧Small f.2.2.1∧Small f.2.2.2.1∧Small f.2.2.2.2
theorem qD{f:pH}(h:qI f):∀p∈fS f,(∀a∈p,48≤a∧a≤57)∧p.length≤10:=by
 refine kO h fun h1 h2 h3 h4 h5=>?_;try clear h
 intro p hp
 unfold fS at hp
 simp only[List.mem_cons,List.not_mem_nil,or_false] at hp
 rcases hp with rfl|rfl|rfl|rfl|rfl
 ·exact cH h1
 ·exact cH h2
 ·exact cH h3
 ·exact cH h4
 ·exact cH h5
theorem yY{f:pH}(h:qI f):(∀a∈cE [32] (fS f),a=32∨(48≤a∧a≤57))∧(cE [32] (fS f)).length≤55∧aJ (cE [32] (fS f)) [32]=fS f:=by
 have h1:=qD h
 rw[jZ]
 refine⟨fun a ha=>?_,?_,?_⟩
 ·rcases oS ha with h|⟨p,hp,h⟩
  ·exact .inl (List.mem_singleton.mp h)
  ·exact .inr ((h1 p hp).1 a h)
 ·exact pS (b:=10) fun p hp=>(h1 p hp).2
 ·exact cZ (List.cons_ne_nil _ _) fun p hp q=>by
   have:=(h1 p hp).1 32 q
   lia
end Mine
namespace Mine
structure Cfg(ps:List Tx)(ss:List cO)(p0:Tx)(O E:List Tx)(DL:List (Tx×Tx)):Prop where
 k:BO ps ss
 hd:∃r,ps=p0::r
 o:O.Perm ps
 os:O.Pairwise fun x y=>eO x y=true
 e:E.Perm ps
 es:E.Pairwise fun x y=>xZ x y=true
 d:DL.Perm ((ak O).map fun p=>(cG++p.2,p.1))
 ds:DL.Pairwise fun x y=>bJ x y=true
noncomputable def Vl(ss:List cO)(p:Tx):Tx:=o8 ((at' (tableOf ss) p).getD fU)
theorem jM{α β γ:Type}{f:α→β}{g:β→Option γ}{h:α→γ}(e:∀a,g (f a)=some (h a)):∀l:List α,(l.map f).filterMap g=l.map h
 | []=>rfl
 |a::l=>by rw[List.map_cons,List.filterMap_cons,e a,jM e l,List.map_cons]
theorem jL{α β γ:Type}{f:α→β}{g:β→Option γ}(e:∀a,g (f a)=none):∀l:List α,(l.map f).filterMap g=[]
 | []=>rfl
 |a::l=>by rw[List.map_cons,List.filterMap_cons,e a,jL e l]
section
variable{ps:List Tx}{ss:List cO}{p0:Tx}{O E:List Tx}{DL:List (Tx×Tx)}
theorem Cfg.Bk(C:Cfg ps ss p0 O E DL):p0∈ps:=by obtain⟨r,h⟩:=C.hd;rw[h];exact .head _
theorem Cfg.oN(C:Cfg ps ss p0 O E DL):O.Nodup:=C.o.nodup_iff.mpr C.k.nd
theorem Cfg.eN(C:Cfg ps ss p0 O E DL):E.Nodup:=C.e.nodup_iff.mpr C.k.nd
theorem Cfg.ol(C:Cfg ps ss p0 O E DL):O.length=ps.length:=C.o.length_eq
theorem Cfg.el(C:Cfg ps ss p0 O E DL):E.length=ps.length:=C.e.length_eq
theorem Cfg.dl(C:Cfg ps ss p0 O E DL):DL.length=ps.length:=by rw[C.d.length_eq,List.length_map,aT,C.ol]
theorem Cfg.idx(C:Cfg ps ss p0 O E DL){p:Tx}(hp:p∈ps):O.idxOf p<O.length∧O[O.idxOf p]?=some p:=by
 have h:=List.idxOf_lt_length_iff.mpr (C.o.mem_iff.mpr hp)
 exact⟨h,by rw[List.getElem?_eq_getElem h];exact congrArg some (List.getElem_idxOf _)⟩
theorem Cfg.idl(C:Cfg ps ss p0 O E DL){p:Tx}(hp:p∈ps):O.idxOf p≤20:=by
 have h1:=(C.idx hp).1
 have h2:=C.ol
 have h3:=C.k.hi
 exact id (ω167 h1 h2 h3)
theorem Cfg.dm(C:Cfg ps ss p0 O E DL){q:Tx×Tx}(hq:q∈DL):∃i,i<20∧O[i]?=some q.2∧q.1=cG++bz i∧q.2∈ps:=by
 refine aj (List.mem_map.mp (C.d.mem_iff.mp hq)) fun p hp π32=>?_;rcases π32 with rfl
 refine aj (wH hp) fun i h1 h2=>?_
 have h3:=(List.getElem?_eq_some_iff.mp h1).1
 have h4:=C.ol
 have h5:=C.k.hi
 exact⟨i,by exact ω166 h3 h4 h5,h1,by rw[h2],C.o.mem_iff.mp (List.mem_of_getElem? h1)⟩
theorem Cfg.tab(C:Cfg ps ss p0 O E DL){p:Tx}(hp:p∈ps):at' (tableOf ss) p=some (dO ss p):=by rw[pO,if_pos (C.k.cov p hp)]
theorem Cfg.small(C:Cfg ps ss p0 O E DL)(p:Tx):qI (d9 (dO ss p)):=by
 have hl:=C.k.sl
 have h1:Small (b8 ss gU p):=gD (fun s hs=>by unfold gU;split <;> decide) (by exact ω1 hl rfl)
 have h2:Small (b8 ss gr p):=gD (fun s hs=>by unfold gr;decide) (by exact ω1 hl rfl)
 have h3:Small (b8 ss j7 p):=gD (fun s hs=>(C.k.fig s hs).1) (by exact ω1 hl rfl)
 have h4:Small (b8 ss j0 p):=gD (fun s hs=>(C.k.fig s hs).2) (by exact ω1 hl rfl)
 rw[rN]
 exact⟨h1,h2,h3,h4,h2⟩
theorem Cfg.val(C:Cfg ps ss p0 O E DL){p:Tx}(hp:p∈ps):(∀a∈Vl ss p,a=32∨(48≤a∧a≤57))∧(Vl ss p).length≤55∧aJ (Vl ss p) [32]=fS (d9 (dO ss p))∧bD (Vl ss p)=Vl ss p:=by
 have h:=yY (C.small p)
 have e:Vl ss p=cE [32] (fS (d9 (dO ss p))):=by
  unfold Vl o8
  rw[C.tab hp];rfl
 rw[e]
 refine⟨h.1,h.2.1,h.2.2,?_⟩
 rw[eX]
 exact lB fun a ha=>⟨ω245 (h.1 a ha) rfl,ω245 (h.1 a ha) rfl⟩
theorem Cfg.zZ(C:Cfg ps ss p0 O E DL):jC (aL p0 [101]) (ps.map fun p=>(aL p [107],Vl ss p)) cA qV kF (O.flatMap (gN p0)) DL (E.map fun p=>(aL p [107],Vl ss p)):=by
 have hk:(ps.map fun p=>(aL p [107],Vl ss p)).map (·.1)=ps.map fun p=>aL p [107]:=by rw[List.map_map];rfl
 have hmem:∀q∈aL p0 [101]::ps.map (fun p=>aL p [107]),∃p c,p∈ps∧q=aL p [c]∧(c=101∨c=107):=by
  intro q hq
  rcases List.mem_cons.mp hq with rfl|hq
  ·exact⟨p0,101,C.Bk,rfl,.inl rfl⟩
  ·refine aj (List.mem_map.mp hq) fun p hp π32=>?_;rcases π32 with rfl
   exact⟨p,107,hp,rfl,.inr rfl⟩
 have hnd:(aL p0 [101]::ps.map fun p=>aL p [107]).Nodup:=by
  refine List.nodup_cons.mpr ⟨fun q=>?_,jT C.k.nd fun x ν y ν e=>(kM e).1⟩
  refine aj (List.mem_map.mp q) fun p ν1 e=>?_
  have:=(kM e).2
  lia
 have hus:=jm (p0:=p0) (us:=[]) (l:=O) C.oN
 exact{
  nd:=by rw[hk];exact hnd
  lo:=by rw[List.length_map];exact C.k.two
  hi:=by rw[List.length_map];exact C.k.hi
  each:=fun q hq=>by
   rw[hk] at hq
   refine av (hmem q hq) fun p c hp π53 hc=>?_;rcases π53 with rfl
   exact xP (C.k.sg p hp) (C.k.len p hp) (C.k.ne p hp) (by lia)
  inj:=fun x hx y hy e=>by
   rw[hk] at hx hy
   refine av (hmem x hx) fun p c ν2 π53 ν4=>?_;rcases π53 with rfl
   refine av (hmem y hy) fun q d ν2 π53 ν4=>?_;rcases π53 with rfl
   rw[fz,fz] at e
   obtain⟨e1,e2⟩:=Prod.mk.inj e
   rw[(List.cons.inj e1).2,(List.cons.inj e2).1]
  perm:=by
   rw[hk]
   refine(C.o.flatMap_right (gN p0)).trans ?_
   obtain⟨r,hr⟩:=C.hd
   have h1:p0∉r:=(List.nodup_cons.mp (hr▸C.k.nd)).1
   rw[hr,List.flatMap_cons,List.map_cons]
   have h2:r.flatMap (gN p0)=r.map fun p=>aL p [107]:=by
    clear hr
    induction r with
    |nil=>rfl
    |cons a r ih=>
     rw[List.flatMap_cons,List.map_cons,ih fun q=>h1 (.tail _ q)]
     unfold gN
     rw[if_neg fun q=>h1 (by rw[q];exact .head _)];rfl
   rw[h2]
   unfold gN
   rw[if_pos rfl]
   exact List.Perm.refl _
  srt:=by
   rw[List.pairwise_flatMap]
   refine⟨fun p ν=>?_,C.os.imp fun{p q} hpq x hx y hy=>?_⟩
   ·unfold gN
    split
    ·refine List.pairwise_cons.mpr ⟨fun y hy=>?_,List.pairwise_singleton _ _⟩
     rw[List.mem_singleton.mp hy,fz,fz]
     unfold bJ
     rw[if_pos rfl];rfl
    ·exact List.pairwise_singleton _ _
   ·have hx':∃c,x=aL p [c]:=by
     unfold gN at hx
     split at hx
     ·rcases List.mem_cons.mp hx with h|h
      ·exact⟨_,h⟩
      ·exact⟨_,List.mem_singleton.mp h⟩
     ·exact⟨_,List.mem_singleton.mp hx⟩
    have hy':∃c,y=aL q [c]:=by
     unfold gN at hy
     split at hy
     ·rcases List.mem_cons.mp hy with h|h
      ·exact⟨_,h⟩
      ·exact⟨_,List.mem_singleton.mp h⟩
     ·exact⟨_,List.mem_singleton.mp hy⟩
    obtain⟨c,rfl⟩:=hx'
    obtain⟨d,rfl⟩:=hy'
    rw[fz,fz]
    unfold bJ
    rw[if_neg fun q=>ng hpq (List.cons.inj q).2]
    unfold eO at hpq⊢
    exact decide_eq_true (List.cons_lt_cons_iff.mpr (.inr ⟨rfl,of_decide_eq_true hpq⟩))
  us2:=by
   rw[hus]
   have:=C.ol
   have:=C.k.two
   show 2≤O.length
   (expose_names;exact ω200 this_1 this)
  dpw:=fun us ν=>gZ us
  dp:=by rw[hus];exact C.d
  ds:=C.ds
  ap:=C.e.map _
  as:=by
   rw[List.pairwise_map]
   refine C.es.imp fun{p q} h=>?_
   unfold bJ
   rw[if_neg fun e=>by
    have h2:=ng (show eO (aL p [107]) (aL q [107])=true from h)
    exact h2 e]
   exact h
  esc:=fun q hq=>by
   rcases List.mem_append.mp hq with hq|hq
   ·refine iy (C.dm hq) fun i ν1 ν2 ν3 hm=>?_
    have h1:=C.k.len _ hm
    exact vP (by exact ω1 h1 rfl) fun a ha=>have h:=C.k.sg _ hm a ha;⟨ω246 h rfl,ω246 h rfl,ω246 h rfl,ω246 h rfl⟩
   ·refine aj (List.mem_map.mp hq) fun p hp π32=>?_;rcases π32 with rfl
    have h1:=C.val (C.e.mem_iff.mp hp)
    exact vP (by have:=h1.2.1;show(Vl ss p).length≤200;exact ω1 this rfl) fun a ha=>have h:=h1.1 a ha;⟨ω245 h rfl,ω245 h rfl,ω245 h rfl,ω245 h rfl⟩
  space:=by
   unfold at'
   rw[List.find?_eq_none.mpr]
   ·rfl
   ·intro q hq e
    refine aj (List.mem_map.mp hq) fun p ν1 π32=>?_;rcases π32 with rfl
    have e:aL p [107]=nt:=of_decide_eq_true e
    have h1:nt.getLast?=some 101:=by decide+kernel
    rw[←e,d7,show 123::(p++[125,107])=(123::(p++[125]))++[107] from by simp,List.getLast?_append] at h1
    cases h1}
theorem Cfg.zu(C:Cfg ps ss p0 O E DL):kH ps ss cA qV kF (O.flatMap (gN p0)) DL (E.map fun p=>(aL p [107],Vl ss p)):=by
 have hp0:ps.headD []=p0:=by obtain⟨r,h⟩:=C.hd;rw[h];rfl
 exact{
  p0:=by obtain⟨r,h⟩:=C.hd;rw[h];exact List.cons_ne_nil _ _
  nd:=C.k.nd
  pl:=C.k.hi
  sl:=by have:=C.k.sl;exact id (ω1 this rfl)
  pe:=fun p hp=>by have:=C.k.len p hp;exact id (ω1 this rfl)
  se:=fun s hs=>⟨C.k.ne _ (C.k.mem s hs),by have:=C.k.len _ (C.k.mem s hs);exact id (ω1 this rfl)⟩
  tl:=fun ss' ⟨r,hr⟩=>by
   have h1:=sU ss'
   have h2:=C.k.sl
   rw[hr,List.length_append] at h2
   refine⟨by exact ω234 h1 h2 rfl,fun k f hf=>?_⟩
   rw[pO] at hf
   split at hf
   ·cases hf
    exact Nat.le_of_ble_eq_true rfl
   ·cases hf
  tp:=fun p hp=>by
   refine⟨_,C.tab hp,?_⟩
   refine kO (C.small p) fun h1 h2 h3 h4 h5=>?_
   intro z hz
   simp only[List.mem_cons,List.not_mem_nil,or_false] at hz
   rcases hz with rfl|rfl|rfl|rfl|rfl
   ·exact h1
   ·exact h2
   ·exact h3
   ·exact h4
   ·exact h5
  ok:=by rw[hp0];exact C.zZ}
noncomputable def bl(p0:Tx)(O:List Tx):Tx:=60::(bz (O.idxOf p0)++[58,101])
noncomputable def aP(ss:List cO)(O E:List Tx)(DL:List (Tx×Tx)):List (Tx×Tx):=DL++E.map fun p=>(bz (O.idxOf p)++[58]++[107],Vl ss p)
theorem Cfg.text(C:Cfg ps ss p0 O E DL):cE [] (toldOf (aL p0 [101]) cA qV (O.flatMap (gN p0)) DL (E.map fun p=>(aL p [107],Vl ss p)))=bl p0 O++((aP ss O E DL).map bf).flatten ++[62]:=by
 have h0:aL p0 [101]∈O.flatMap (gN p0):=List.mem_flatMap.mpr ⟨p0,C.o.mem_iff.mpr C.Bk,by unfold gN;rw[if_pos rfl];exact .head _⟩
 have h1:∀p∈E,aL p [107]∈O.flatMap (gN p0):=fun p hp=>List.mem_flatMap.mpr ⟨p,C.o.mem_iff.mpr (C.e.mem_iff.mp hp),by
  unfold gN
  split
  ·exact .tail _ (.head _)
  ·exact .head _⟩
 have h2:(E.map fun p=>(aL p [107],Vl ss p)).map (fun p=>(iG cA qV (O.flatMap (gN p0)) p.1,p.2))=E.map fun p=>(bz (O.idxOf p)++[58]++[107],Vl ss p):=by
  rw[List.map_map]
  refine List.map_congr_left fun p hp=>?_
  show(iG cA qV (O.flatMap (gN p0)) (aL p [107]),Vl ss p)=_
  rw[sf C.oN (h1 p hp)]
 rw[jZ,iU]
 unfold toldOf
 rw[h2,sf C.oN h0,jZ,iU]
 unfold bl aP
 simp
theorem name_mem{i a:Nat}(h:a∈cG++bz i):48≤a∧a≠60:=by
 rcases List.mem_append.mp h with h|h
 ·exact(by decide:∀x∈cG,48≤x∧x≠60) a h
 ·exact ω240 (eH h)
theorem kY{i c a:Nat}(hc:97≤c)(h:a∈bz i++[58]++[c]):48≤a∧a≠60:=by
 rcases List.mem_append.mp h with h|h
 ·rcases List.mem_append.mp h with h|h
  ·exact ω240 (eH h)
  ·exact List.mem_singleton.mp h▸by decide
 ·have:=List.mem_singleton.mp h
  lia
theorem Cfg.lines(C:Cfg ps ss p0 O E DL){q:Tx×Tx}(hq:q∈aP ss O E DL):(∀a∈q.1,48≤a∧a≠60)∧q.1.length≤30∧(∀a∈bD q.2,a≠34)∧(bD q.2).length≤60∧(bD q.2).count 32≤5:=by
 rcases List.mem_append.mp hq with hq|hq
 ·refine iy (C.dm hq) fun i hi ν2 h1 hm=>?_
  have hs:=C.k.sg _ hm
  have hl:=C.k.len _ hm
  have hn:=bV (i:=i) (by exact ω3 hi rfl)
  have he:∀a∈bD q.2,a≠34∧a≠32:=fun a ha=>by
   rw[eX] at ha
   rcases wh ha with h|h|h
   ·exact⟨ω246 (hs a h) rfl,ω246 (hs a h) rfl⟩
   ·exact⟨ω244 h rfl,ω244 h rfl⟩
   ·exact⟨ω244 h rfl,ω244 h rfl⟩
  have h2:=u6 q.2
  refine⟨fun a ha=>name_mem (i:=i) (by rw[←h1];exact ha),?_,fun a ha=>(he a ha).1,by rw[eX];exact ω13 hl h2 rfl,?_⟩
  ·rw[h1,List.length_append]
   show 6+_≤_
   exact ω10 hn rfl
  ·rw[List.count_eq_zero_of_not_mem fun h=>(he 32 h).2 rfl];exact ω0 rfl
 ·refine aj (List.mem_map.mp hq) fun p hp π32=>?_;rcases π32 with rfl
  have hp:=C.e.mem_iff.mp hp
  refine j9 (C.val hp) fun v1 v2 v3 v4=>?_
  have hn:=bV (i:=O.idxOf p) (by have:=C.idl hp;exact id (ω1 this rfl))
  refine⟨fun a ha=>kY (c:=107) (by exact ω0 rfl) ha,?_,?_,?_,?_⟩
  ·show(bz (O.idxOf p)++[58]++[107]).length≤30
   simp only[List.length_append,List.length_cons,List.length_nil]
   lia
  ·show∀a∈bD (Vl ss p),a≠34
   rw[v4]
   exact fun a ha=>ω245 (v1 a ha) rfl
  ·show(bD (Vl ss p)).length≤60
   rw[v4];exact ω1 v2 rfl
  ·show(bD (Vl ss p)).count 32≤5
   have h1:=gX (Vl ss p) 32
   rw[v4]
   rw[v3] at h1
   have:(fS (d9 (dO ss p))).length =5:=rfl
   lia
theorem head_mem{p0:Tx}{O:List Tx}{a:Nat}(h:a∈bl p0 O):a=60∨(48≤a∧a≠60):=by
 rcases List.mem_cons.mp h with h|h
 ·exact .inl h
 ·exact .inr (kY (i:=O.idxOf p0) (c:=101) (by exact ω0 rfl) (by rw[List.append_assoc];exact h))
theorem Cfg.split(C:Cfg ps ss p0 O E DL):aJ (bl p0 O++((aP ss O E DL).map bf).flatten ++[62]) [34]=cz (bl p0 O) (aP ss O E DL):=by
 rw[←kL]
 refine cZ mW (iB (fun h=>?_) fun q hq=>?_)
 ·have:=head_mem h;lia
 ·refine j9 (C.lines hq) fun h1 ν1 h3 ν3=>?_
  exact⟨fun h=>by have:=h1 34 h;lia,fun h=>h3 34 h rfl⟩
theorem rA{α β:Type}{f:α→List β}{b:Nat}:∀{l:List α},(∀x∈l,(f x).length≤b)→(l.map f).flatten.length≤l.length*b
 | [],_=>Nat.zero_le _
 |a::l,h=>by
  have h1:=h a (.head _)
  have ih:=rA (f:=f) (b:=b) (l:=l) fun x hx=>h x (.tail _ hx)
  rw[List.map_cons,List.flatten_cons,List.length_append,List.length_cons,Nat.succ_mul]
  exact id (ω71 ih h1)
theorem count_le{α:Type}{f:α→Tx}{b c:Nat}:∀{l:List α},(∀x∈l,(f x).count c≤b)→(l.map f).flatten.count c≤l.length*b
 | [],_=>Nat.zero_le _
 |a::l,h=>by
  have h1:=h a (.head _)
  have ih:=count_le (f:=f) (b:=b) (c:=c) (l:=l) fun x hx=>h x (.tail _ hx)
  rw[List.map_cons,List.flatten_cons,List.count_append,List.length_cons,Nat.succ_mul]
  exact id (ω71 ih h1)
theorem Cfg.ll(C:Cfg ps ss p0 O E DL):(aP ss O E DL).length =2*ps.length:=by
 unfold aP
 rw[List.length_append,List.length_map,C.dl,C.el];lia
theorem Cfg.hl(C:Cfg ps ss p0 O E DL):(bl p0 O).length≤20:=by
 have hn:=bV (i:=O.idxOf p0) (by have:=C.idl C.Bk;exact id (ω1 this rfl))
 unfold bl
 simp only[List.length_append,List.length_cons,List.length_nil]
 lia
theorem Cfg.size(C:Cfg ps ss p0 O E DL):(bl p0 O++((aP ss O E DL).map bf).flatten ++[62]).length≤100000:=by
 have h1:=C.hl
 have h2:=C.ll
 have h3:=C.k.hi
 have h4:=rA (f:=bf) (b:=200) (l:=aP ss O E DL) fun q hq=>by
  refine kO (C.lines hq) fun ν0 l1 ν2 l2 ν4=>?_
  unfold bf
  simp only[List.length_append,List.length_cons,List.length_nil]
  exact ω141 l1 l2 rfl
 simp only[List.length_append,List.length_cons,List.length_nil]
 lia
theorem Cfg.yJ(C:Cfg ps ss p0 O E DL):(aJ (bl p0 O++((aP ss O E DL).map bf).flatten ++[62]) [32]).length≤1000:=by
 have h2:=C.ll
 have h3:=C.k.hi
 have h1:(bl p0 O).count 32=0:=List.count_eq_zero_of_not_mem fun h=>by have:=head_mem h;lia
 have h4:=count_le (f:=bf) (b:=6) (c:=32) (l:=aP ss O E DL) fun q hq=>by
  refine kO (C.lines hq) fun l0 ν1 ν2 ν3 l5=>?_
  have e1:q.1.count 32=0:=List.count_eq_zero_of_not_mem fun h=>by have:=l0 32 h;lia
  unfold bf
  simp only[List.count_append,e1]
  have e2:([]:Tx).count 32=0:=rfl
  have e3:([32]:Tx).count 32=1:=rfl
  have e4:([61,34]:Tx).count 32=0:=rfl
  have e5:([34]:Tx).count 32=0:=rfl
  lia
 rw[gX,List.count_append,List.count_append,h1]
 have e6:([62]:Tx).count 32=0:=rfl
 lia
theorem Cfg.first(C:Cfg ps ss p0 O E DL):∃rest,aJ (bl p0 O++((aP ss O E DL).map bf).flatten ++[62]) [32]=bl p0 O::rest:=by
 have h0:32∉bl p0 O:=fun h=>by have:=head_mem h;lia
 have h2:=C.ll
 have h3:=C.k.two
 cases hl:aP ss O E DL with
 |nil=>
  rw[hl] at h2
  simp only[List.length_nil] at h2
  exact ω163 h2 h3
 |cons q r=>
  refine⟨aJ (q.1++[61,34]++bD q.2++[34]++(r.map bf).flatten ++[62]) [32],?_⟩
  rw[show bl p0 O++((q::r).map bf).flatten ++[62]=bl p0 O++32::(q.1++[61,34]++bD q.2++[34]++(r.map bf).flatten ++[62]) from by
   rw[List.map_cons,List.flatten_cons]
   unfold bf
   simp]
  exact jo h0
theorem Cfg.last(C:Cfg ps ss p0 O E DL):cut (bl p0 O++((aP ss O E DL).map bf).flatten ++[62]) (some (-2)) none=[34,62]:=by
 have h2:=C.ll
 have h3:=C.k.two
 rcases List.eq_nil_or_concat (aP ss O E DL) with hl|⟨r,q,hl⟩
 ·rw[hl] at h2
  simp only[List.length_nil] at h2
  exact ω163 h2 h3
 ·rw[hl,show bl p0 O++((r.concat q).map bf).flatten ++[62]=(bl p0 O++(r.map bf).flatten ++([32]++q.1++[61,34]++bD q.2))++[34,62] from by
   rw[List.concat_eq_append,List.map_append,List.flatten_append]
   unfold bf
   simp]
  exact w5 ..
noncomputable def oB(p:Tx×Tx):Tx:=[32]++p.1++[61,34]++p.2++[34]
theorem pT:∀{l:List (Tx×Tx)},(∀q∈l,∀a∈q.1,48≤a∧a≠60)→(l.map bf).flatten =eT (l.map oB).flatten
 | [],_=>rfl
 |q::r,h=>by
  rw[List.map_cons,List.flatten_cons,List.map_cons,List.flatten_cons,gY,←pT fun x hx=>h x (.tail _ hx)]
  congr 1
  unfold bf oB
  rw[gY,gY,gY,gY,lB (x:=q.1) fun a ha=>by have:=h q (.head _) a ha;lia,eX]
  rfl
theorem Cfg.marks(C:Cfg ps ss p0 O E DL):cnt (bl p0 O++((aP ss O E DL).map bf).flatten ++[62]) [60]=1∧cnt (bl p0 O++((aP ss O E DL).map bf).flatten ++[62]) [38]=cnt (bl p0 O++((aP ss O E DL).map bf).flatten ++[62]) iI+cnt (bl p0 O++((aP ss O E DL).map bf).flatten ++[62]) bP:=by
 have e:bl p0 O++((aP ss O E DL).map bf).flatten ++[62]=60::eT (bz (O.idxOf p0)++[58,101]++((aP ss O E DL).map oB).flatten ++[62]):=by
  rw[gY,gY,←pT fun q hq=>(C.lines hq).1,lB (x:=bz (O.idxOf p0)++[58,101]) fun a ha=>by
   have:=kY (i:=O.idxOf p0) (c:=101) (by exact ω0 rfl) (by rw[List.append_assoc];exact ha)
   lia]
  rfl
 rw[e]
 exact Mine.marks _
noncomputable def uH(q:Tx×Tx):Line:=.ns (q.1.drop 6) q.2
noncomputable def u7(ss:List cO)(O:List Tx)(p:Tx):Line:=.ln ((O.idxOf p:Nat):Int) p (d9 (dO ss p))
noncomputable def linesOf(ss:List cO)(O E:List Tx)(DL:List (Tx×Tx)):List Line:=DL.map uH++E.map (u7 ss O)
noncomputable def l6(ss:List cO)(O:List Tx)(p:Tx):Told:=(((O.idxOf p:Nat):Int),p,dO ss p)
noncomputable def cV(DL:List (Tx×Tx)):List (Tx×Tx):=DL.map fun q=>(q.1.drop 6,q.2)
theorem kK:(linesOf ss O E DL).filterMap Line.known=cV DL:=by
 unfold linesOf
 rw[List.filterMap_append,jM (f:=uH) (g:=Line.known) (h:=fun q=>(q.1.drop 6,q.2)) (fun ν=>rfl),jL (f:=u7 ss O) (g:=Line.known) (fun ν=>rfl),List.append_nil];rfl
theorem rZ:(linesOf ss O E DL).filterMap Line.told=E.map (l6 ss O):=by
 unfold linesOf
 rw[List.filterMap_append,jL (f:=uH) (g:=Line.told) (fun ν=>rfl),jM (f:=u7 ss O) (g:=Line.told) (h:=l6 ss O) (fun p=>xV ss p _),List.nil_append]
theorem nW{i:Nat}(h:DL.length≤i):((linesOf ss O E DL).take i).filterMap Line.known=cV DL:=by
 unfold linesOf
 rw[List.take_append,List.filterMap_append,List.take_of_length_le (by rw[List.length_map];exact h),List.length_map,jM (f:=uH) (g:=Line.known) (h:=fun q=>(q.1.drop 6,q.2)) (fun ν=>rfl),←List.map_take,jL (f:=u7 ss O) (g:=Line.known) (fun ν=>rfl),List.append_nil];rfl
theorem Cfg.m6(C:Cfg ps ss p0 O E DL):(cV DL).Perm ((ak O).map fun p=>(p.2,p.1)):=by
 have h:=C.d.map fun q:Tx×Tx=>(q.1.drop 6,q.2)
 rw[List.map_map] at h
 exact h
theorem kZ{k v:Tx}:∀{K:List (Tx×Tx)},(K.map (·.1)).Nodup→(k,v)∈K→K.filter (fun p=>decide (p.1=k))=[(k,v)]
 | [],_,h=>nomatch h
 |q::K,hn,h=>by
  have hn:=List.nodup_cons.mp (show(q.1::K.map (·.1)).Nodup from hn)
  rw[List.filter_cons]
  rcases List.mem_cons.mp h with e|h
  ·subst e
   rw[if_pos (decide_eq_true rfl),List.filter_eq_nil_iff.mpr]
   intro p hp q
   exact hn.1 (List.mem_map.mpr ⟨p,hp,of_decide_eq_true q⟩)
  ·rw[if_neg fun e=>hn.1 (List.mem_map.mpr ⟨_,h,(of_decide_eq_true e).symm⟩)]
   exact kZ hn.2 h
theorem Cfg.bI(C:Cfg ps ss p0 O E DL){p:Tx}(hp:p∈ps):(((cV DL).filter fun q=>decide (q.1=bz (O.idxOf p))).map (·.2)).getLast? =some p:=by
 have h1:(((ak O).map fun p=>(p.2,p.1)).map (·.1)).Nodup:=by
  rw[List.map_map]
  show((ak O).map fun p=>p.2).Nodup
  unfold List.Nodup
  rw[List.pairwise_map]
  exact gZ O
 have h2:((cV DL).map (·.1)).Nodup:=((C.m6.map (·.1)).nodup_iff).mpr h1
 have h3:(bz (O.idxOf p),p)∈cV DL:=C.m6.mem_iff.mpr (List.mem_map.mpr ⟨_,w4 (C.idx hp).2,rfl⟩)
 rw[kZ h2 h3];rfl
theorem Cfg.oQ(C:Cfg ps ss p0 O E DL):(cV DL).Pairwise fun x y=>bJ x y=true:=by
 have h:∀q∈DL,∃n,q.1=cG++n:=fun q hq=>by
  refine iy (C.dm hq) fun i ν1 ν2 h1 ν4=>?_
  exact⟨_,h1⟩
 unfold cV
 rw[List.pairwise_map]
 refine C.ds.imp_of_mem fun{x y} hx hy hxy=>?_
 obtain⟨m,e1⟩:=h x hx
 obtain⟨n,e2⟩:=h y hy
 unfold bJ at hxy⊢
 show(if x.1.drop 6=y.1.drop 6 then eO x.2 y.2 else eO (x.1.drop 6) (y.1.drop 6))=true
 rw[e1,e2] at hxy⊢
 have d (z:Tx):(cG++z).drop 6=z:=rfl
 rw[d,d]
 by_cases e:m=n
 ·rw[if_pos (by rw[e])] at hxy
  rw[if_pos e];exact hxy
 ·rw[if_neg fun q=>e (List.append_cancel_left q)] at hxy
  rw[if_neg e]
  unfold eO at hxy⊢
  have h1:=of_decide_eq_true hxy
  unfold cG at h1
  simp only[List.cons_append,List.nil_append,List.cons_lt_cons_iff] at h1
  exact decide_eq_true (by simpa using h1)
theorem pG{i:Nat}{line:Line}(h:(linesOf ss O E DL)[i]?=some line):
 (∃q,DL[i]?=some q∧line=uH q∧(aP ss O E DL)[i]?=some q)∨(DL.length≤i∧∃p,p∈E∧line=u7 ss O p∧(aP ss O E DL)[i]?=some (bz (O.idxOf p)++[58]++[107],Vl ss p)):=by
 unfold linesOf at h
 unfold aP
 rcases Nat.lt_or_ge i DL.length with hi|hi
 ·rw[List.getElem?_append_left (by rw[List.length_map];exact hi),List.getElem?_map,List.getElem?_eq_getElem hi] at h
  refine .inl ⟨_,List.getElem?_eq_getElem hi,(Option.some.inj h).symm,?_⟩
  rw[List.getElem?_append_left hi]
  exact List.getElem?_eq_getElem hi
 ·rw[List.getElem?_append_right (by rw[List.length_map];exact hi),List.length_map,List.getElem?_map] at h
  refine .inr ⟨hi,?_⟩
  cases hE:E[i-DL.length]? with
  |none=>rw[hE] at h;cases h
  |some p=>
   rw[hE] at h
   refine⟨p,List.mem_of_getElem? hE,(Option.some.inj h).symm,?_⟩
   rw[List.getElem?_append_right hi,List.getElem?_map,hE];rfl
theorem Cfg.yZ(C:Cfg ps ss p0 O E DL){i:Nat}{line:Line}(hi:(linesOf ss O E DL)[i]?=some line):∃a b,(cz (bl p0 O) (aP ss O E DL))[2*i]?=some a∧(cz (bl p0 O) (aP ss O E DL))[2*i+1]?=some b∧
 a.length≤1000∧b.length≤1000∧(aJ a [32]).length≤1000∧kJ (((linesOf ss O E DL).take i).filterMap Line.known) a b line:=by
 obtain⟨H,hH⟩:∃H,H=if i=0 then bl p0 O else[]:=⟨_,rfl⟩
 have h32:32∉H:=by
  rw[hH]
  split
  ·exact fun h=>by have:=head_mem h;lia
  ·exact fun h=>nomatch h
 have hHl:H.length≤20:=by
  rw[hH]
  split
  ·exact C.hl
  ·exact Nat.zero_le _
 have fin:∀q,(aP ss O E DL)[i]?=some q→kJ (((linesOf ss O E DL).take i).filterMap Line.known) (H++[32]++q.1++[61]) (bD q.2) line→∃a b,(cz (bl p0 O) (aP ss O E DL))[2*i]?=some a∧(cz (bl p0 O) (aP ss O E DL))[2*i+1]?=some b∧
  a.length≤1000∧b.length≤1000∧(aJ a [32]).length≤1000∧kJ (((linesOf ss O E DL).take i).filterMap Line.known) a b line:=by
  intro q hq hL
  obtain⟨p1,p2⟩:=mE (h:=bl p0 O) hq
  rw[←hH] at p1
  refine kO (C.lines (List.mem_of_getElem? hq)) fun ν0 l1 ν2 l2 ν4=>?_
  have hal:(H++[32]++q.1++[61]).length≤60:=by
   simp only[List.length_append,List.length_cons,List.length_nil]
   exact ω186 hHl l1 rfl
  refine⟨_,_,p1,p2,by exact ω1 hal rfl,by exact ω1 l2 rfl,?_,hL⟩
  have h1:=gX (H++[32]++q.1++[61]) 32
  have h2:=List.count_le_length (a:=32) (l:=H++[32]++q.1++[61])
  exact id (ω169 hal h1 h2 rfl)
 rcases pG hi with⟨q,hq,rfl,hL⟩|⟨hle,p,hp,rfl,hL⟩
 ·refine fin q hL ?_
  refine iy (C.dm (List.mem_of_getElem? hq)) fun j hj ν2 h1 hm=>?_
  have hn:=bV (i:=j) (by exact ω3 hj rfl)
  have hd:q.1.drop 6=bz j:=by rw[h1];rfl
  have hu:=C.k.len _ hm
  have hnn:∀a∈bz j,a≠32∧a≠58:=fun a ha=>⟨ω245 (eH ha) rfl,ω245 (eH ha) rfl⟩
  refine⟨?_,(mj q.2).1,?_⟩
  ·rw[hd,h1,show cG++bz j=iP++[58]++bz j from rfl]
   exact named h32 (by decide) (fun h=>(hnn 32 h).1 rfl) (by decide) (fun h=>(hnn 58 h).2 rfl) (by decide) (by exact ω1 hn rfl)
  ·rw[(mj q.2).2]
   have:=sub_len q.2 bP 38 5 (by decide) (by decide)
   exact id (ω13 hu this rfl)
 ·refine fin _ hL ?_
  have hp:=C.e.mem_iff.mp hp
  have hid:=C.idl hp
  have hn:=bV (i:=O.idxOf p) (by exact ω1 hid rfl)
  refine j9 (C.val hp) fun v1 v2 v3 v4=>?_
  refine kO (C.small p) fun s1 s2 s3 s4 s5=>?_
  have hnn:∀a∈bz (O.idxOf p),a≠32∧a≠58:=fun a ha=>⟨ω245 (eH ha) rfl,ω245 (eH ha) rfl⟩
  have hpl:=C.k.len p hp
  rw[nW hle]
  refine⟨bz (O.idxOf p),[107],?_,?_,by exact ω1 hn rfl,C.bI hp,by exact ω1 hpl rfl,?_,s1,s2,s3,s4,s5,?_,?_⟩
  ·exact named h32 (fun h=>(hnn 32 h).1 rfl) (by decide) (fun h=>(hnn 58 h).2 rfl) (by decide) (by exact ω1 hn rfl) (by decide)
  ·intro e
   have:=(List.cons.inj (show 110::bZ ((O.idxOf p:Nat):Int)=120::[109,108,110,115] from e)).1
   lia
  ·show aJ (bD (Vl ss p)) [32]=_
   rw[v4];exact v3
  ·exact rX ..
  ·exact⟨by exact ω19 (List.idxOf p O),by lia⟩
theorem xM(n:Nat):runs 0 1 n=(List.range n).map fun(i:Nat)=>(i:Int):=by
 unfold runs
 exact List.map_congr_left fun i ν=>by lia
theorem gO{x:Tx}:∀{E:List Tx},E.Nodup→x∈E→E.filter (fun p=>decide (p=x))=[x]
 | [],_,h=>nomatch h
 |a::E,hn,h=>by
  have hn:=List.nodup_cons.mp hn
  rw[List.filter_cons]
  rcases List.mem_cons.mp h with e|h
  ·subst e
   rw[if_pos (decide_eq_true rfl),List.filter_eq_nil_iff.mpr]
   intro p hp q
   have q:=of_decide_eq_true q
   subst q
   exact hn.1 hp
  ·rw[if_neg fun e=>hn.1 (by rw[of_decide_eq_true e];exact h)]
   exact gO hn.2 h
theorem jr{α:Type}{f:Nat→List α}{g:List α}(h:∀i (hi:i<g.length),f i=[g[i]]):∀n,n≤g.length→(List.range n).flatMap f=g.take n
 |0,_=>rfl
 |n+1,hn=>by
  rw[List.range_succ,List.flatMap_append,jr h n (by exact ω88 hn),List.take_add_one,List.getElem?_eq_getElem (by exact ω75 hn)]
  show _++(f n++[])=_
  rw[List.append_nil,h n (by exact ω75 hn)];rfl
theorem Cfg.ordered(C:Cfg ps ss p0 O E DL):orderOf (E.map (l6 ss O))=O.map (l6 ss O):=by
 unfold orderOf
 rw[xM,List.length_map,C.el,←C.ol,List.flatMap_map]
 have h1:=jr (f:=fun i:Nat=>(E.map (l6 ss O)).filter fun one=>decide (one.1=((i:Nat):Int))) (g:=O.map (l6 ss O)) (fun i hi=>by
  have hi:i<O.length:=by rwa [List.length_map] at hi
  rw[List.getElem_map]
  have hmE:O[i]∈E:=C.e.mem_iff.mpr (C.o.mem_iff.mp (List.getElem_mem hi))
  have hiff:∀p∈E,(((O.idxOf p:Nat):Int)=(i:Int)↔p=O[i]):=fun p hp=>by
   have hpO:p∈O:=C.o.mem_iff.mpr (C.e.mem_iff.mp hp)
   have hl:=List.idxOf_lt_length_iff.mpr hpO
   have hg:O[O.idxOf p]=p:=List.getElem_idxOf hl
   constructor
   ·intro e
    have e:O.idxOf p=i:=by lia
    subst e
    exact hg.symm
   ·intro e
    have h3:=C.oN.idxOf_getElem i hi
    rw[e,h3]
  show(E.map (l6 ss O)).filter _=_
  rw[List.filter_map]
  have h2:E.filter ((fun one:Told=>decide (one.1=((i:Nat):Int)))∘l6 ss O)=E.filter fun p=>decide (p=O[i]):=by
   refine List.filter_congr fun p hp=>?_
   show decide (((O.idxOf p:Nat):Int)=(i:Int))=_
   exact decide_eq_decide.mpr (hiff p hp)
  rw[h2,gO C.eN hmE];rfl) O.length (by rw[List.length_map];exact Nat.le_refl _)
 rw[h1,List.take_of_length_le (by rw[List.length_map];exact Nat.le_refl _)]
theorem Cfg.both(C:Cfg ps ss p0 O E DL):kX O E where
 o:=C.os.imp fun{x y} h=>of_decide_eq_true (show decide (x<y)=true from h)
 e:=C.es.imp_of_mem fun{x y} hx hy h=>Ay (C.k.sg x (C.e.mem_iff.mp hx)) (C.k.sg y (C.e.mem_iff.mp hy)) h
 perm:=C.e.trans C.o.symm
theorem Cfg.law{nums:List Int}(C:Cfg (au nums).1 (au nums).2 p0 O E DL):∃text parts lines told st,rO nums cA qV kF (O.flatMap (gN p0)) DL (E.map fun p=>(aL p [107],Vl (au nums).2 p)) text parts lines told st O:=by
 obtain⟨ps,hps⟩:∃ps,ps=(au nums).1:=⟨_,rfl⟩
 obtain⟨ss,hss⟩:∃ss,ss=(au nums).2:=⟨_,rfl⟩
 rw[←hps,←hss] at C
 refine bL (sQ (xK ss) (t1:=l6 ss O) (fun ν=>rfl) C.both) fun st r1 r2 r3=>?_
 have hp0:(au nums).1.headD []=p0:=by
  rw[←hps]
  obtain⟨r,h⟩:=C.hd
  rw[h];rfl
 have hdl:=C.dl
 have hel:=C.el
 have hhi:=C.k.hi
 have htwo:=C.k.two
 have htxt:=C.text
 have hidx:bl p0 O=[60,110]++bZ ((O.idxOf p0:Nat):Int)++[58,101]:=by
  unfold bl bz
  simp
 refine⟨bl p0 O++((aP ss O E DL).map bf).flatten ++[62],cz (bl p0 O) (aP ss O E DL),linesOf ss O E DL,E.map (l6 ss O),st,?_⟩
 rw[←hss]
 have hll:(linesOf ss O E DL).length =DL.length+E.length:=by
  unfold linesOf
  rw[List.length_append,List.length_map,List.length_map]
 exact{
  tag:=by rw[←hps,←hss];exact C.zu
  two:=by rw[←hps];exact htwo
  txt:=by rw[hp0];exact htxt.symm
  r1:=C.size
  r2:=C.split
  r3:=by rw[mL,hll];unfold aP;rw[List.length_append,List.length_map]
  r4:=by rw[hll];exact ω189 hdl hel hhi rfl
  r5:=fun i line h=>C.yZ h
  r6:=by
   rw[kK,rZ]
   unfold cV
   rw[List.length_map,List.length_map];lia
  r7:=by rw[kK];exact C.oQ
  r8:=by
   rw[kK]
   unfold cV
   rw[List.length_map];exact ω200 hdl htwo
  tld:=rZ.symm
  p1:=by rw[List.length_map];exact ω6 hel hhi rfl
  p2:=fun o ho=>by
   refine aj (List.mem_map.mp ho) fun p ν1 π32=>?_;rcases π32 with rfl
   exact⟨Nat.le_refl _,Int.natCast_nonneg _⟩
  p3:=by rw[C.ordered];exact r1
  o1:=by rw[←hps];exact C.o
  o2:=C.os
  q2:=fun p hp=>by
   rw[r3] at hp
   refine aj (List.mem_map.mp hp) fun e he π32=>?_;rcases π32 with rfl
   have hep:=C.e.mem_iff.mp he
   have h1:=C.k.len e hep
   refine⟨by show e.length≤100;exact ω1 h1 rfl,?_,?_⟩
   ·show(bM ss (O.filter (bg e))).length≤1000
    have h2:=congrArg List.length (cD ss (O.filter (bg e)))
    rw[List.length_map] at h2
    have h3:∀l:List Tx,(keysOf l).length≤l.length:=fun l=>snoc_ind (P:=fun l=>(keysOf l).length≤l.length) (Nat.le_refl _) (fun l x ih=>by
     rw[iK,List.length_append]
     have:=fV (us:=keysOf l) (u:=x)
     show _≤l.length+1
     exact ω80 ih this) l
    have h4:=h3 ((O.filter (bg e)).map aV)
    have h5:=List.length_filter_le (bg e) O
    have h6:=C.ol
    rw[List.length_map] at h4
    lia
   ·rw[←hss]
    exact sS ss C.oN (fun s hs=>C.o.mem_iff.mpr (C.k.mem s hs)) e
  t1:=by rw[hp0,←hidx];exact C.first
  t0:=C.yJ
  t2:=C.last
  t3:=C.marks.1
  t4:=C.marks.2
  q1:=by
   rw[r2]
   refine List.map_congr_left fun p ν=>?_
   congr 1
   refine List.filter_congr fun h ν=>?_
   have h2:=o5 h p
   unfold below bg at h2
   unfold zc
   rw[h2]}
theorem tB{nums:List Int}(k:BO (au nums).1 (au nums).2):∃kf N DL AT text parts lines told st order,rO nums cA qV kf N DL AT text parts lines told st order:=by
 refine aj (ji fM k.nd) fun O o1 o2=>?_
 refine aj (ji uf k.nd) fun E e1 e2=>?_
 have hn:((ak O).map fun p=>(cG++p.2,p.1)).Nodup:=by
  unfold List.Nodup
  rw[List.pairwise_map]
  exact(gZ O).imp fun{x y} h q=>h (List.append_cancel_left (congrArg Prod.fst q))
 refine aj (ji gI hn) fun DL d1 d2=>?_
 have htwo:=k.two
 obtain⟨p0,r,hr⟩:∃p0 r,(au nums).1 =p0::r:=by
  cases h:(au nums).1 with
  |nil=>rw[h] at htwo;simp at htwo
  |cons a r=>exact⟨a,r,rfl⟩
 refine zE (Cfg.law (p0:=p0) ⟨k,⟨r,hr⟩,o1,o2,e1,e2,d1,d2⟩) fun text parts lines told st h=>?_
 exact⟨_,_,_,_,text,parts,lines,told,st,O,h⟩
end
end Mine
namespace Mine
theorem xB{α:Type}{x:List α}{lo hi:Option Int}{a:α}(h:a∈cut x lo hi):a∈x:=List.mem_of_mem_drop (List.mem_of_mem_take h)
theorem getD_in{ps:List Tx}{i:Nat}:(ps++[[]]).getD i []∈ps∨(ps++[[]]).getD i []=[]:=by
 rw[List.getD_eq_getElem?_getD]
 cases h:(ps++[[]])[i]? with
 |none=>exact .inr rfl
 |some v=>
  have:=List.mem_of_getElem? h
  rcases List.mem_append.mp this with h|h
  ·exact .inl h
  ·exact .inr (List.mem_singleton.mp h)
theorem xO{ps:List Tx}(h:∀p∈ps,Sg p)(x:Int):Sg (bI ps x)∧bI ps x≠[]:=by
 have h1:=cT (a:=x.fdiv 256) (b:=2) (by exact Int.NonNeg.mk (2-Nat.succ 0))
 have h2:=cT (a:=x.fdiv 64) (b:=4) (by exact Int.NonNeg.mk (4-Nat.succ 0))
 unfold bI
 rw[pB]
 constructor
 ·intro a ha
  rcases List.mem_append.mp ha with ha|ha
  ·have ha:=xB ha
   rcases getD_in (ps:=ps) (i:=(x.fmod (ps.length+1)).toNat) with q|q
   ·exact h _ q a ha
   ·rw[q] at ha;cases ha
  ·have ha:=(List.mem_replicate.mp ha).2
   rw[ha]
   have h3:((x.fdiv 64).fmod 4).toNat <4:=by exact ω120 h2
   generalize((x.fdiv 64).fmod 4).toNat =i at h3
   have:i=0∨i=1∨i=2∨i=3:=by exact ω102 h3
   rcases this with rfl|rfl|rfl|rfl
   ·exact .inl rfl
   ·exact .inr (.inl rfl)
   ·exact .inr (.inr (.inl rfl))
   ·exact .inr (.inr (.inr rfl))
 ·intro q
  have:=congrArg List.length q
  rw[List.length_append,List.length_replicate] at this
  exact ω116 h1 this
structure lR(acc:List Tx×List cO):Prop where
 nd:acc.1.Nodup
 sg:∀p∈acc.1,Sg p
 ne:∀p∈acc.1,p≠[]
 mem:∀s∈acc.2,s.1∈acc.1
 cov:∀p∈acc.1,p∈acc.2.map (·.1)
 fig:∀s∈acc.2,(0≤s.2.1∧s.2.1≤1000)∧0≤s.2.2∧s.2.2≤1000
theorem lR.step{acc:List Tx×List cO}(I:lR acc)(x:Int):lR (bG acc x):=by
 have h5:=cT (a:=x) (b:=5) (by exact Int.NonNeg.mk (5-Nat.succ 0))
 have h1000:=cT (a:=x) (b:=1000) (by exact Int.NonNeg.mk (1000-Nat.succ 0))
 obtain⟨p1,p2⟩:=xO I.sg x
 have e:(bG acc x).1 =if bI acc.1 x∈acc.1 then acc.1 else acc.1++[bI acc.1 x]:=rfl
 have e2:(bG acc x).2 =acc.2++[(bI acc.1 x,x.fmod 5,x.fmod 1000)]:=rfl
 have hm:∀p,p∈(bG acc x).1↔p∈acc.1∨p=bI acc.1 x:=fun p=>by
  rw[e]
  exact jY (us:=acc.1) (u:=bI acc.1 x)
 exact{
  nd:=by
   rw[e]
   exact fu (us:=acc.1) (u:=bI acc.1 x) I.nd
  sg:=fun p hp=>((hm p).mp hp).elim (I.sg p) fun q=>q▸p1
  ne:=fun p hp=>((hm p).mp hp).elim (I.ne p) fun q=>q▸p2
  mem:=fun s hs=>by
   rw[e2] at hs
   rw[hm]
   rcases List.mem_append.mp hs with hs|hs
   ·exact .inl (I.mem s hs)
   ·rw[List.mem_singleton.mp hs];exact .inr rfl
  cov:=fun p hp=>by
   rw[e2,List.map_append]
   rcases(hm p).mp hp with q|q
   ·exact List.mem_append_left _ (I.cov p q)
   ·exact List.mem_append_right _ (by rw[q];exact .head _)
  fig:=fun s hs=>by
   rw[e2] at hs
   rcases List.mem_append.mp hs with hs|hs
   ·exact I.fig s hs
   ·rw[List.mem_singleton.mp hs]
    show(0≤x.fmod 5∧x.fmod 5≤1000)∧0≤x.fmod 1000∧x.fmod 1000≤1000
    exact⟨⟨h5.1,Int.le_trans (Int.le_of_lt h5.2) (by decide)⟩,h1000.1,Int.le_of_lt h1000.2⟩}
theorem lR.all:∀(xs:List Int) {acc:List Tx×List cO},lR acc→lR (xs.foldl bG acc)∧acc.1.length≤(xs.foldl bG acc).1.length
 | [],_,I=>⟨I,Nat.le_refl _⟩
 |x::xs,acc,I=>by
  obtain⟨h1,h2⟩:=lR.all xs (I.step x)
  refine⟨h1,Nat.le_trans ?_ h2⟩
  show acc.1.length≤(if bI acc.1 x∈acc.1 then acc.1 else acc.1++[bI acc.1 x]).length
  split
  ·exact Nat.le_refl _
  ·rw[List.length_append];exact Nat.le_add_right ..
theorem qE(xs:List Int):BO (au ([128,80,34,208,85,3]++cut xs none (some 9))).1 (au ([128,80,34,208,85,3]++cut xs none (some 9))).2:=by
 have I0:lR ([],[]):=⟨.nil,(fun ν h=>nomatch h),(fun ν h=>nomatch h),(fun ν h=>nomatch h),(fun ν h=>nomatch h),(fun ν h=>nomatch h)⟩
 have hc:(cut xs none (some 9)).length≤9:=by
  rw[show cut xs none (some 9)=xs.take 9 from eK xs 9,List.length_take]
  exact ω39 Nat.le.refl
 refine ny (jw ([128,80,34,208,85,3]++cut xs none (some 9))) fun i1 i2 i3=>?_
 have hl:([128,80,34,208,85,3]++cut xs none (some 9)).length≤15:=by
  rw[List.length_append]
  exact ω9 Nat.le.refl hc rfl
 have I:=(lR.all ([128,80,34,208,85,3]++cut xs none (some 9)) I0).1
 have h2:2≤(au ([128,80,34,208,85,3]++cut xs none (some 9))).1.length:=by
  have h3:=(lR.all ([34,208,85,3]++cut xs none (some 9)) ((I0.step 128).step 80)).2
  refine Nat.le_trans ?_ h3
  decide+kernel
 exact{
  nd:=I.nd
  two:=h2
  hi:=by exact ω4 i1 hl rfl
  len:=i3
  ne:=I.ne
  sg:=I.sg
  sl:=by exact ω6 i2 hl rfl
  mem:=I.mem
  cov:=I.cov
  fig:=I.fig}
theorem uI(xs:List Int):∃kf N DL AT text parts lines told st order,rO ([128,80,34,208,85,3]++cut xs none (some 9)) cA qV kf N DL AT text parts lines told st order:=tB (qE xs)
end Mine
set_option tactic.hygienic true
namespace Mine
noncomputable def Ah(c:ClaimW)(cl:Str→Option Addr)(mean:ExcName→Option Value)(args:List WData)(s₁:Shared)(res:Result)(s':Shared):Prop:=
 ((∃v d as,res= .ok (.ret v)∧(∀cls,c.raises args cls=false)∧ReadsW c.records cl s'.heap v d as∧c.post args d args=true∧
    (c.unshared=true→as.Nodup∧∀a∈as,s₁.heap.get? a=none))∨
   (∃e ob cls,res= .error (.ref e)∧s'.heap.get? e=some ob∧mean cls=some ob.cls∧c.raises args cls=true∧s₁.heap.get? e=none))∧
 (∀b o,s₁.heap.get? b=some o→s'.heap.get? b=some o)∧s'.os=s₁.os∧AllBare s'.gens
theorem AU{M:Model}{A:Around}{cd:Code}{s s₁:Shared}{cw:ClaimW}{cl:Str→Option Addr}{mean:ExcName→Option Value}{args:List WData}{tabs:List (Addr×Addr)}(hT:TabsAt tabs s₁.heap)(hr:∀a x,cw.raises a x=false)
 (h:codeAny M A cd (fun r s'=>Ah cw cl mean args {s₁ with heap:=ghostOf s₁.heap tabs} r s'∧GrownAll tabs s'.heap) s):codeAny M A cd (GoodWG cw cl mean args s₁) s:=
 codeAny_mono h fun r s' ⟨⟨hc,hk,hos,hg⟩,hgr⟩=>by
  have keep:∀b o,b∉tabs.map (·.2)→s₁.heap.get? b=some o→s'.heap.get? b=some o:=fun b o hb e=>hk b o (ghost_ne e hb)
  have grown:∀b o,b∈tabs.map (·.2)→s₁.heap.get? b=some o→isCodeTable s₁.heap b∧o=tabObj #[]∧∃ps,s'.heap.get? b=some (tabObj ps):=fun b o hb e=>by
   obtain⟨q,hq,rfl⟩:=List.mem_map.mp hb
   have e2:=(hT q hq).2
   rw[e] at e2
   exact⟨((hT q hq).1.tab (hT q hq).2).isCodeTable,Option.some.inj e2,hgr.get q hq⟩
  refine⟨?_,⟨fun b o e=>?_,fun b o e=>?_⟩,hos,hg⟩
  ·rcases hc with⟨v,d,as,r1,r2,r3,r4,r5⟩|⟨e,ob,x,_,_,_,r4,_⟩
   ·refine .inl ⟨v,d,as,r1,r2,r3,r4,fun q=>⟨(r5 q).1,fun a ha=>?_⟩⟩
    cases q1:s₁.heap.get? a with
    |none=>rfl
    |some o=>
     by_cases hb:a∈tabs.map (·.2)
     ·obtain⟨_,_,ps,hP⟩:=grown a o hb q1
      exact absurd ha (readsW_apart hP rfl r3)
     ·have e3:=(r5 q).2 a ha
      rw[show(ghostOf s₁.heap tabs).get? a=some o from ghost_ne q1 hb] at e3
      cases e3
   ·rw[hr] at r4;cases r4
  ·by_cases hb:b∈tabs.map (·.2)
   ·obtain⟨ht,rfl,ps,hP⟩:=grown b o hb e
    exact .inr (.inl ⟨ht,rfl,#[],ps,rfl,by rw[Array.empty_append];exact hP⟩)
   ·exact .inl (keep b o hb e)
  ·by_cases hb:b∈tabs.map (·.2)
   ·obtain⟨_,_,ps,hP⟩:=grown b o hb e
    exact⟨_,hP⟩
   ·exact⟨o,keep b o hb e⟩
theorem mO{P:Params}{h:Heap}:∀{xs:List Int} {vs:List Value},WellAll P h vs (ofPys (xs.map .int))→az (fun v x=>∃t,v=Value.int x t) vs xs
 | [],vs,x=>by
   have x:WellAll P h vs []:=x
   cases x
   exact .nil
 |i::xs,vs,x=>by
  have x:WellAll P h vs (.int i::ofPys (xs.map .int)):=x
  cases x with
  |cons a b=>
   cases a
   exact .cons ⟨_,rfl⟩ (mO b)
theorem qo{P:Params}{h:Heap}{a:Addr}{xs:List Int}(x:Well P h (.ref a) (ofPy (.list (xs.map .int)))):∃vs,h.get? a=some (aC vs 0)∧az (fun v x=>∃t,v=Value.int x t) vs xs:=by
 have x:Well P h (.ref a) (.list (ofPys (xs.map .int))):=x
 cases x with
 |list e w=>exact⟨_,e,mO w⟩
theorem sZ{R:WRecords}{cl:Str→Option Addr}{h:Heap}{a:Addr}{xs:List PyData}{as:List Addr}(x:ReadsAllW R cl h [.ref a] [ofPy (.list xs)] as):a∈as:=by
 have x:ReadsAllW R cl h [.ref a] [.list (ofPys xs)] as:=x
 cases x with
 |cons y z=>cases y with
  |list _ _ _ _=>exact List.mem_append_left _ (.head _)
theorem cw:PySem.Challenge.rw_ph0174_01.Holds:=by
 refine hd ?_
 k_fill
 intro w s₀ s₁ mg mb G Y fa o pm cd doc dV kV ho hd hcd hD hmg hg args vals as hpre hlay hrd hwl hlo
 have KX:=km_in_of Y
 km_tabs Y
 have X:=(Ground.X G).1
 have V:=(Ground.X G).2
 refine Ground.open G ?_
 intro T B D TE TW
 try (refine guard_noD D (by decide+kernel) ?_;clear D)
 km_lay T hmg ho hd cd
 clear hmg
 have hrd0:=hrd
 have hlo0:=hlo
 wrow_args hpre hlay hrd hwl hlo
 refine enter_call ?_
 w_top on
 refine AU hT9 (fun ν ν=>rfl) ?_
 w_call any ho hd hcd hD T F
 clear hd
 kn_ghosts F T
 k_drop
 rename_i xs hs hlay0 hL1 hr1 hl2 wa wb wl vs wc hL2 ra w1 r0 hI hr2 hc1 hc2 h₁ tk₁ wcell hcell X0 X' T' K' F' N' l0
 clear X0 K' hr2 r0 ra hs hlay0 hL1 hr1 hl2 hc2
 have hlen:xs.length≤63:=by exact ω131 hc1
 let c0:Cx:=⟨PySem.Challenge.rw_ph0174_01.row.prog,w,ghostOf s₁.heap [(125,123)],mg,mb,s₁.os,[],0⟩
 have g:cg {c0 with tk:=1}:=⟨X',T'.g,T'.b,T'.nolimit,T'.nodigits,Nat.one_pos,T'.builtins⟩
 have l:zk {c0 with tk:=1}:=⟨codeHd,T'.bmain⟩
 have hLs:sysModules<s₁.heap.objs.size:=Nat.lt_of_le_of_lt (by decide) l0
 have hcellv:wcell.data= .cell none:=hcell.trans (congrArg Data.cell (by kernel_rfl))
 obtain⟨vs',hs1,hs2⟩:=qo w1
 have hne:wl≠sysModules:=fun q=>by
  have h9:=hlo0 wl (sZ hrd0)
  rw[q] at h9
  exact absurd h9 (by simp)
 have S:aa c0 s₁.heap.objs.size [("script",some (.ref wl)),("paths",none),("samples",none),("text",none),("calls",none),("ends",none),("path",none),("sums",none)] (.ow (own (s₁.heap.objs.size+1) bB none):: .ow (own 123 (ck (tabObj #[])) ()):: .kn (is (Ty.list ao) (.ref wl) xs)::[]) {heap:=h₁,gens:=s₁.gens,drawn:=s₁.drawn,toks:=tk₁,os:=s₁.os}:=by
  refine⟨(ghostOf s₁.heap [(125,123)]).get?,?_⟩
  exact{
   base:=fun ν ν e=>e
   above:=hLs
   keep:=F'.keep
   loc:=⟨_,F'.ns,(by show(["script","paths","samples","text","calls","ends","path","sums"]:List Str).Nodup;decide+kernel),fun x v h=>by
    simp only[List.mem_cons,Prod.mk.injEq,List.not_mem_nil,or_false,reduceCtorEq,and_false] at h
    obtain⟨rfl,h⟩:=h
    cases h
    rfl⟩
   locB:=bS F'.above
   know:=fun k hk=>by
    cases hk with
    |head=>exact⟨wl,aC vs' 0,rfl,hne,ghost_get hT9 hs1 (fun q=>by cases q),vs',0,rfl,hs2⟩
    |tail _ h=>cases h
   own:=fun w hw=>by
    cases hw with
    |head=>exact⟨wcell,(N' _ (.head _)).1,(N' _ (.head _)).2.2,(N' _ (.head _)).2.1,Nat.ne_of_gt (Nat.lt_succ_of_lt hLs),hcellv⟩
    |tail _ hw=>cases hw with
     |head=>exact⟨_,(N' _ (.tail _ (.head _))).1,(N' _ (.tail _ (.head _))).2.2,(N' _ (.tail _ (.head _))).2.1,(by show(123:Nat)≠sysModules;decide),rfl⟩
     |tail _ h=>cases h
   nodup:=by
    show([s₁.heap.objs.size+1,123]:List Nat).Nodup
    have:=l0
    simp
    omega
   gens:=fun ν h=>nomatch h
   bare:=by rw[hg];exact AllBare.empty
   os:=rfl
   tk:=Nat.zero_le _}
 obtain⟨kf,N,DL,AT,text,parts,lines,told,st,order,hT⟩:=uI xs
 have ok:Ok callerA 41:=⟨rfl,by decide+kernel,by decide+kernel⟩
 refine wpAny_mono (vX (n:=20) (c0:=c0) (c:={c0 with tk:=1}) rfl rfl g l rfl hlen hT S (ok.deeper _) (Q:=fun fl s'=>fl= .ret (.bool true)∧∃V,aa {c0 with tk:=1} s₁.heap.objs.size V (.ow (own 123 j5 ())::[]) s') fun V s' S=>⟨rfl,V,S⟩) (fun fl s' h=>?_) fun ν ν x=>x.elim
 obtain⟨rfl,V',S'⟩:=h
 obtain⟨o9,e9,ps9,r9⟩:∃o,s'.heap.get? 123=some o∧∃ps,o=tabObj ps:=by
  obtain⟨B,S9⟩:=S'
  obtain⟨o,h1,_,_,_,h5⟩:=S9.own _ (.head _)
  exact⟨o,h1,h5⟩
 refine⟨⟨.inl ⟨.bool true,.bool true,[],rfl,fun ν=>rfl,.bool true,by wrow_post,fun ν=>⟨.nil,fun a ha=>nomatch ha⟩⟩,fun b o e=>S'.ground e,?_,?_⟩,⟨ps9,r9▸e9⟩,trivial⟩
 ·obtain⟨B,S9⟩:=S'
  exact S9.os
 ·obtain⟨B,S9⟩:=S'
  exact S9.bare
end Mine
theorem PySem.Challenge.cw_ph0174_01_holds : PySem.Challenge.rw_ph0174_01.Holds :=
 Mine.cw
