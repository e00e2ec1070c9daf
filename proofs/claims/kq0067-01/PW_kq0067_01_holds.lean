import PyProof.Rows.All
import Wide.All
import OpenK.AllK
import Wide.FinOn
import PySem.Challenge.RW_kq0067_01
set_option Elab.async false
set_option maxRecDepth 100000
set_option linter.all false
set_option tactic.hygienic false
set_option genInjectivity false
set_option genSizeOf false
set_option maxHeartbeats 4000000
open PySem PySem.W PyProof.Rows Builtin PySem.SeqAt
open PySem renaming wpAny_bind → QB, wpAny_pure → QC, wpAny_execs_cons → QD, wpAny_holding → QF, wpAny_execs_nil → QG, wpAny_items_cons → QH, wpAny_call_entry → QJ, wpAny_items_nil → QK, wpAny_mono → QL, wpAny_Name → QM, wpAny_rule → QQ, Shared → QR, Value → QS, Around → QT, Program → QV, Addr → QW, World → QX, FuncData → QZ, wpAny → Qa
open PySem.Str renaming ofString → Qc
open _root_.Nat renaming le_trans → Qd, le_of_eq → Qe, le_refl → Qf, le_add_right → Qg, le_of_ble_eq_true → Qh, ne_of_lt → Qi, lt_of_le_of_lt → Qj, le_antisymm → Qk, zero_le → Ql, zero_add → Qm, lt_succ_self → Qn, le_of_lt → Qo, lt_of_lt_of_le → Qp, le_of_lt_succ → Qq
open _root_.List renaming length_map → Qs, lookup_cons → Qt, length_append → Qu, map_append → Qv, mem_map → Qw, mem_cons → Qx, mem_singleton → Qy, length_cons → Qz, map_cons → Q0, map_map → Q3, pairwise_cons → Q4, append_assoc → Q5, take_of_length_le → Q6, getElem?_map → Q7, mem_append → Q8, nodup_cons → Q9, getElem?_cons_succ → QAB
open _root_.Int renaming natCast_nonneg → QAC, toNat_natCast → QAD, ofNat_le → QAE, toNat_of_nonneg → QAG, le_antisymm → QAH, le_trans → QAJ, lt_of_lt_of_le → QAK, ofNat_lt → QAL, emod_nonneg → QAM, not_lt → QAN, emod_lt_of_pos → QAO, not_le → QAP
open _root_.Bool renaming false_ne_true → QAS, and_eq_true → QAT
namespace KQ
theorem QJL{P:Prop}(h:∀X:Prop,(P→X)→X):P:=h P id
section
variable {A:Sort u}{B:Sort v}{C:Sort w}{D:Sort x}{E:Sort y}{X:Prop}
variable {p0 q0 r0 s0 t0:Prop}
variable {p1 q1 r1 s1 t1 u1:A→Prop}
variable {p2 q2 r2 s2:A→B→Prop}
variable {p3 q3 r3:A→B→C→Prop}
variable {p4 q4 r4 s4 t4:A→B→C→D→Prop}
variable {p5:A→B→C→D→E→Prop}
theorem rA(f:p0→q0→X)(h:p0∧q0):X:=let ⟨h1,h2⟩:=h;f h1 h2
theorem oA(h:p0∧q0)(f:p0→q0→X):X:=rA f h
theorem rE(f:∀a,p1 a→X)(h:∃a,p1 a):X:=let ⟨a,h1⟩:=h;f a h1
theorem oE(h:∃a,p1 a)(f:∀a,p1 a→X):X:=rE f h
theorem rAA(f:p0→q0→r0→X)(h:p0∧q0∧r0):X:=let ⟨h1,h2,h3⟩:=h;f h1 h2 h3
theorem oAA(h:p0∧q0∧r0)(f:p0→q0→r0→X):X:=rAA f h
theorem rEA(f:∀a,p1 a→q1 a→X)(h:∃a,p1 a∧q1 a):X:=let ⟨a,h1,h2⟩:=h;f a h1 h2
theorem oEA(h:∃a,p1 a∧q1 a)(f:∀a,p1 a→q1 a→X):X:=rEA f h
theorem rEE(f:∀a b,p2 a b→X)(h:∃a b,p2 a b):X:=let ⟨a,b,h1⟩:=h;f a b h1
theorem oEE(h:∃a b,p2 a b)(f:∀a b,p2 a b→X):X:=rEE f h
theorem QEg(f:p0→q0→r0→s0→X)(h:p0∧q0∧r0∧s0):X:=let ⟨h1,h2,h3,h4⟩:=h;f h1 h2 h3 h4
theorem QSC(h:p0∧q0∧r0∧s0)(f:p0→q0→r0→s0→X):X:=QEg f h
theorem QNa(f:p0→q0→∀a,r1 a→X)(h:p0∧q0∧∃a,r1 a):X:=let ⟨h1,h2,a,h3⟩:=h;f h1 h2 a h3
theorem QEV(h:p0∧q0∧∃a,r1 a)(f:p0→q0→∀a,r1 a→X):X:=QNa f h
theorem QCx(f:p0→∀a,q1 a→r1 a→X)(h:p0∧∃a,q1 a∧r1 a):X:=let ⟨h1,a,h2,h3⟩:=h;f h1 a h2 h3
theorem QE0(h:p0∧∃a,q1 a∧r1 a)(f:p0→∀a,q1 a→r1 a→X):X:=QCx f h
theorem QCm(f:∀a,p1 a→q1 a→r1 a→X)(h:∃a,p1 a∧q1 a∧r1 a):X:=let ⟨a,h1,h2,h3⟩:=h;f a h1 h2 h3
theorem QFZ(h:∃a,p1 a∧q1 a∧r1 a)(f:∀a,p1 a→q1 a→r1 a→X):X:=QCm f h
theorem QDe(f:∀a b,p2 a b→q2 a b→X)(h:∃a b,p2 a b∧q2 a b):X:=let ⟨a,b,h1,h2⟩:=h;f a b h1 h2
theorem QB0(h:∃a b,p2 a b∧q2 a b)(f:∀a b,p2 a b→q2 a b→X):X:=QDe f h
theorem QT4(f:∀a b c,p3 a b c→X)(h:∃a b c,p3 a b c):X:=let ⟨a,b,c,h1⟩:=h;f a b c h1
theorem QJW(h:∃a b c,p3 a b c)(f:∀a b c,p3 a b c→X):X:=QT4 f h
theorem QEb(f:p0→q0→r0→s0→t0→X)(h:p0∧q0∧r0∧s0∧t0):X:=let ⟨h1,h2,h3,h4,h5⟩:=h;f h1 h2 h3 h4 h5
theorem QQv(h:p0∧q0∧r0∧s0∧t0)(f:p0→q0→r0→s0→t0→X):X:=QEb f h
theorem QDl(f:∀a,p1 a→q1 a→r1 a→s1 a→X)(h:∃a,p1 a∧q1 a∧r1 a∧s1 a):X:=let ⟨a,h1,h2,h3,h4⟩:=h;f a h1 h2 h3 h4
theorem QEf(h:∃a,p1 a∧q1 a∧r1 a∧s1 a)(f:∀a,p1 a→q1 a→r1 a→s1 a→X):X:=QDl f h
theorem QTY(f:∀a,p1 a→q1 a→∀b,r2 a b→X)(h:∃a,p1 a∧q1 a∧∃b,r2 a b):X:=let ⟨a,h1,h2,b,h3⟩:=h;f a h1 h2 b h3
theorem QFw(h:∃a,p1 a∧q1 a∧∃b,r2 a b)(f:∀a,p1 a→q1 a→∀b,r2 a b→X):X:=QTY f h
theorem QFC(f:∀a b,p2 a b→q2 a b→r2 a b→X)(h:∃a b,p2 a b∧q2 a b∧r2 a b):X:=let ⟨a,b,h1,h2,h3⟩:=h;f a b h1 h2 h3
theorem QBO(h:∃a b,p2 a b∧q2 a b∧r2 a b)(f:∀a b,p2 a b→q2 a b→r2 a b→X):X:=QFC f h
theorem QCg(f:∀a b c,p3 a b c→q3 a b c→X)(h:∃a b c,p3 a b c∧q3 a b c):X:=let ⟨a,b,c,h1,h2⟩:=h;f a b c h1 h2
theorem QLr(h:∃a b c,p3 a b c∧q3 a b c)(f:∀a b c,p3 a b c→q3 a b c→X):X:=QCg f h
theorem QEZ(f:∀a b,∀c d,p4 a b c d→X)(h:∃a b,∃c d,p4 a b c d):X:=let ⟨a,b,c,d,h1⟩:=h;f a b c d h1
theorem QFz(h:∃a b,∃c d,p4 a b c d)(f:∀a b,∀c d,p4 a b c d→X):X:=QEZ f h
theorem QCO(f:∀a b,p2 a b→q2 a b→r2 a b→s2 a b→X)(h:∃a b,p2 a b∧q2 a b∧r2 a b∧s2 a b):X:=let ⟨a,b,h1,h2,h3,h4⟩:=h;f a b h1 h2 h3 h4
theorem QKu(h:∃a b,p2 a b∧q2 a b∧r2 a b∧s2 a b)(f:∀a b,p2 a b→q2 a b→r2 a b→s2 a b→X):X:=QCO f h
theorem QCB(f:∀a b c,p3 a b c→q3 a b c→r3 a b c→X)(h:∃a b c,p3 a b c∧q3 a b c∧r3 a b c):X:=let ⟨a,b,c,h1,h2,h3⟩:=h;f a b c h1 h2 h3
theorem QGw(h:∃a b c,p3 a b c∧q3 a b c∧r3 a b c)(f:∀a b c,p3 a b c→q3 a b c→r3 a b c→X):X:=QCB f h
theorem QJU(f:∀a b,∀c d e,p5 a b c d e→X)(h:∃a b,∃c d e,p5 a b c d e):X:=let ⟨a,b,c,d,e,h1⟩:=h;f a b c d e h1
theorem QBh(h:∃a b,∃c d e,p5 a b c d e)(f:∀a b,∀c d e,p5 a b c d e→X):X:=QJU f h
theorem QP3(f:p0→q0→r0→s0→∀a,t1 a→u1 a→X)(h:p0∧q0∧r0∧s0∧∃a,t1 a∧u1 a):X:=let ⟨h1,h2,h3,h4,a,h5,h6⟩:=h;f h1 h2 h3 h4 a h5 h6
theorem QBC(h:p0∧q0∧r0∧s0∧∃a,t1 a∧u1 a)(f:p0→q0→r0→s0→∀a,t1 a→u1 a→X):X:=QP3 f h
theorem QID(f:∀a b,∀c d,p4 a b c d→q4 a b c d→r4 a b c d→s4 a b c d→t4 a b c d→X)(h:∃a b,∃c d,p4 a b c d∧q4 a b c d∧r4 a b c d∧s4 a b c d∧t4 a b c d):X:=let ⟨a,b,c,d,h1,h2,h3,h4,h5⟩:=h;f a b c d h1 h2 h3 h4 h5
theorem QA7(h:∃a b,∃c d,p4 a b c d∧q4 a b c d∧r4 a b c d∧s4 a b c d∧t4 a b c d)(f:∀a b,∀c d,p4 a b c d→q4 a b c d→r4 a b c d→s4 a b c d→t4 a b c d→X):X:=QID f h
end
theorem wE{α:Sort u}{β:Sort v}{f:α→β}{a:β}{M:β→Prop}(h:∃x,a=f x)(k:∀x,M (f x)):M a:=oE h fun x e=>e▸k x
theorem wEA{α:Sort u}{β:Sort v}{f:α→β}{p:α→Prop}{a:β}{M:β→Prop}(h:∃x,a=f x∧p x)(k:∀x,p x→M (f x)):M a:=oEA h fun x e q=>e▸k x q
theorem wEZ{α:Sort u}{β:Sort v}{f:α→β}{p:α→Prop}{a:β}{M:β→Prop}(h:∃x,p x∧a=f x)(k:∀x,p x→M (f x)):M a:=oEA h fun x q e=>e▸k x q
theorem wEE{α:Sort u}{α':Sort w}{β:Sort v}{f:α→α'→β}{a:β}{M:β→Prop}(h:∃x y,a=f x y)(k:∀x y,M (f x y)):M a:=oEE h fun x y e=>e▸k x y
theorem QCh{α:Sort u}{α':Sort w}{β:Sort v}{f:α→α'→β}{p q:α→α'→Prop}{a:β}{M:β→Prop}(h:∃x y,a=f x y∧p x y∧q x y)(k:∀x y,p x y→q x y→M (f x y)):M a:=QBO h fun x y e u v=>e▸k x y u v
theorem QDI{α:Sort u}{α':Sort w}{β:Sort v}{f:α→α'→β}{p q r:α→α'→Prop}{a:β}{M:β→Prop}(h:∃x y,a=f x y∧p x y∧q x y∧r x y)(k:∀x y,p x y→q x y→r x y→M (f x y)):M a:=QKu h fun x y e u v w=>e▸k x y u v w
theorem QBG{A B C D:Type}{β:Sort v}{f:A→B→C→D→β}{p q r t:A→B→C→D→Prop}{a:β}{M:β→Prop}(h:∃x y z o,a=f x y z o∧p x y z o∧q x y z o∧r x y z o∧t x y z o)(k:∀x y z o,p x y z o→q x y z o→r x y z o→t x y z o→M (f x y z o)):M a:=
 QA7 h fun x y z o e a b c d=>e▸k x y z o a b c d
noncomputable def evens{α:Type}:List α→List α
 |[]=>[]
 |[x]=>[x]
 |x::_::r=>x::evens r
theorem evens_get{α:Type}:∀(l:List α) (k:Nat),(evens l)[k]? =l[2*k]?
 |[],_=>rfl
 |[_],0=>rfl
 |[_],_+1=>rfl
 |_::_::_,0=>rfl
 |_::_::r,k+1=>evens_get r k
theorem evens_le{α:Type}:∀l:List α,(evens l).length≤l.length
 |[]=>Qf _
 |[_]=>Qf _
 |_::_::r=>Nat.succ_le_succ (Nat.le_succ_of_le (evens_le r))
theorem par(i:Nat):i=0∨(∃k,i=2*k+1)∨∃k,i=2*k+2:=by
 induction i with
 |zero=>exact .inl rfl
 |succ i ih=>exact ih.elim (fun e=> .inr (.inl ⟨0,by rw [e]⟩)) fun h=>h.elim (fun h=>oE h fun k e=> .inr (.inr ⟨k,by rw [e]⟩)) fun h=>oE h fun k e=> .inr (.inl ⟨k+1,by rw [e];rfl⟩)
noncomputable def treeOf:Nat→List Obj→BT
 |0,_=> .nil
 |_+1,[]=> .nil
 |n+1,v::r=> .node v (treeOf n (evens r)) (treeOf n (evens r.tail))
theorem treeOf_get(n:Nat):∀(l:List Obj) (i:Nat),l.length≤n→(treeOf n l).get i=l[i]? :=by
 induction n with
 |zero=>intro l i h;rw [List.length_eq_zero_iff.mp (Nat.le_zero.mp h)];rfl
 |succ n ih=>
  intro l i h
  cases l with
  |nil=>exact BT.get.eq_1 i
  |cons v r=>
   have hl:r.length≤n:=Nat.le_of_succ_le_succ h
   refine (BT.get_node ..).trans ((par i).elim (fun e=>by rw [e];rfl) fun h=>h.elim (fun h=>oE h fun k e=>?_) fun h=>oE h fun k e=>?_)
   ·rw [if_neg (e▸Nat.succ_ne_zero _),if_pos (by rw [e,Nat.mul_add_mod]),ih _ _ (Qd (evens_le r) hl),evens_get,e,Nat.mul_add_div (by decide)];rfl
   ·rw [if_neg (e▸Nat.succ_ne_zero _),if_neg (by rw [e,Nat.mul_add_mod];decide),ih _ _ (Qd (evens_le _) (Qd (by rw [List.length_tail];exact Nat.sub_le _ _) hl)),evens_get,e,Nat.mul_add_div (by decide),List.getElem?_tail];rfl
noncomputable def toT(s:QR):SharedT:=⟨treeOf s.heap.objs.toList.length s.heap.objs.toList,s.heap.objs.toList.length,s.heap.life,s.gens,s.drawn,s.toks,s.os⟩
theorem toT_abs(s:QR):(toT s).abs=s:=by
 obtain ⟨⟨⟨l⟩,life⟩,gens,drawn,toks,os⟩:=s
 have:(treeOf l.length l).list l.length=l:=by
  unfold BT.list
  apply List.ext_getElem?
  intro i
  rw [Q7]
  by_cases h:i<l.length
  ·rw [List.getElem?_range h]
   show some (((treeOf l.length l).get i).getD default)=_
   rw [treeOf_get _ _ _ (Qf _),List.getElem?_eq_getElem h];rfl
  ·rw [List.getElem?_eq_none (by rw [List.length_range];omega),List.getElem?_eq_none (by omega)];rfl
 show (⟨⟨((treeOf l.length l).list l.length).toArray,life⟩,gens,drawn,toks,os⟩:QR)=_
 rw [this]
noncomputable def impT(tb:String→Option Builtin)(p:QV)(w:QX):Nat→SharedT→Thread→Option SharedT
 |0,_,_=>none
 |n+1,s,t=>match t.atExitBegin with
  |some []=>some s
  |some (_::_)=>none
  |none=>match stepT (denote tb) p w s t with
   |some (s',t')=>impT tb p w n s' t'
   |none=>none
theorem impT_of{tb:String→Option Builtin}{p:QV}{w:QX}:∀{n:Nat} {s s':SharedT} {t:Thread},impT tb p w n s t=some s'→importEnds tb p w n s.abs t=some s'.abs
 |0,_,_,_,h=>by cases h
 |n+1,s,s',t,h=>by
  unfold impT at h
  unfold importEnds
  cases he:t.atExitBegin with
  |some x=>
   rw [he] at h
   cases x with
   |nil=>cases h;rfl
   |cons _ _=>cases h
  |none=>
   rw [he] at h
   cases hs:stepT (denote tb) p w s t with
   |none=>rw [hs] at h;cases h
   |some r=>obtain ⟨s₂,t₂⟩:=r;rw [hs] at h;dsimp only;rw [stepT_spec hs];exact impT_of h
noncomputable def topT(tb:String→Option Builtin)(p:QV)(w:QX)(n₀:Nat)(ann:Option QS):Nat→SharedT→Thread→Option SharedT
 |0,_,_=>none
 |n+1,s,t=>match through t with
  |true=>some s
  |false=>match stepOk n₀ ann t with
   |false=>none
   |true=>match stepT (denote tb) p w s t with
    |some (s',t')=>topT tb p w n₀ ann n s' t'
    |none=>none
theorem topT_of{tb:String→Option Builtin}{p:QV}{w:QX}{n₀:Nat}{ann:Option QS}:∀{n:Nat} {s s':SharedT} {t:Thread},topT tb p w n₀ ann n s t=some s'→topRun tb p w n₀ ann n s.abs t=some s'.abs
 |0,_,_,_,h=>by cases h
 |n+1,s,s',t,h=>by
  unfold topT at h
  unfold topRun
  cases he:through t with
  |true=>rw [he] at h;cases h;rfl
  |false=>
   rw [he] at h
   cases hk:stepOk n₀ ann t with
   |false=>rw [hk] at h;cases h
   |true=>
    rw [hk] at h
    cases hs:stepT (denote tb) p w s t with
    |none=>rw [hs] at h;cases h
    |some r=>obtain ⟨s₂,t₂⟩:=r;rw [hs] at h;dsimp only;rw [stepT_spec hs];exact topT_of h
noncomputable def endsT(tb:String→Option Builtin)(p:QV)(w:QX)(N:Nat):Option QR:=
 match impT tb (opening p) w N (toT (start (opening p)).1) (start (opening p)).2 with
 |none=>none
 |some a=>match fenceModules? p a.abs with
  |none=>none
  |some s₀=>match s₀.heap.isNs mainGlobals&&s₀.gens.size==0 with
   |false=>none
   |true=>match topT tb p w s₀.heap.objs.size (s₀.heap.nsMap mainGlobals "__annotations__") N (toT s₀) (topStub p) with
    |none=>none
    |some b=>match staticsOk (importedModules p.main.body) s₀.heap b.abs.heap&&namesBound p b.abs.heap&&gensDone b.abs&&laidKept s₀.heap b.abs.heap with
     |true=>some b.abs
     |false=>none
set_option tactic.hygienic true in
theorem endsT_of{tb:String→Option Builtin}{p:QV}{w:QX}{N:Nat}{s:QR}(h:endsT tb p w N=some s):openEnds tb p w N=some s:=by
 unfold endsT at h
 unfold openEnds fencedOpening topFrom
 split at h
 ·cases h
 ·rename_i a ha
  have ha':=impT_of ha
  rw [toT_abs] at ha'
  rw [ha']
  show ((fenceModules? p a.abs).bind _)=_
  split at h
  ·cases h
  ·rename_i s₀ hf
   rw [hf]
   dsimp only [Option.bind]
   split at h
   ·cases h
   ·rename_i hg
    rw [hg]
    dsimp only
    split at h
    ·cases h
    ·rename_i b hb
     have hb':=topT_of hb
     rw [toT_abs] at hb'
     rw [hb']
     dsimp only [Option.bind]
     split at h
     ·rename_i hk;rw [hk];exact h
     ·cases h
theorem endsT_map{α:Type}{f:QR→α}{y:α}{tb:String→Option Builtin}{p:QV}{w:QX}{N:Nat}(h:(endsT tb p w N).map f=some y):(openEnds tb p w N).map f=some y:=by
 cases q:endsT tb p w N with
 |none=>rw [q] at h;cases h
 |some s=>rw [q] at h;rw [endsT_of q];exact h
inductive LT' where
 |v (i:Nat)
 |n (k:Nat)
 |a (x y:LT')
 |s (x y:LT')
 |g (x:LT')
 |m (k:Nat) (x:LT')
 |w (x:LT') (k:Nat)
noncomputable def nth{α:Type}(z:α)(l:List α):Nat→α:=(fun _=>List.rec (fun _=>z) (fun x _ ih i=>Nat.rec x (fun j _=>ih j) i) l) @PySem.wpAny
noncomputable def LT'.dn(c:List Nat)(e:LT'):Nat:=(fun _=>LT'.rec (fun i=>nth 0 c i) (fun k=>k) (fun _ _ x y=>x+y) (fun _ _ _ _=>0) (fun _ _=>0) (fun k _ x=>k*x) (fun _ k x=>x*k) e) @PySem.wpAny
noncomputable def LT'.di(c:List Int)(e:LT'):Int:=(fun _=>LT'.rec (fun i=>nth 0 c i) (fun k=>(k:Int)) (fun _ _ x y=>x+y) (fun _ _ x y=>x-y) (fun _ x=> -x) (fun k _ x=>(k:Int)*x) (fun _ k x=>x*(k:Int)) e) @PySem.wpAny
noncomputable def lun:Nat→List Nat
 |0=>[1]
 |i+1=>0::lun i
noncomputable def QDn:List Nat→List Nat→List Nat
 |[],y=>y
 |a::x,[]=>a::x
 |a::x,b::y=>(a+b)::QDn x y
noncomputable def QFg(k:Nat):List Nat→List Nat
 |[]=>[]
 |a::x=>k*a::QFg k x
noncomputable def lle:List Nat→List Nat→Bool
 |[],_=>true
 |a::x,[]=>Nat.ble a 0&&lle x []
 |a::x,b::y=>Nat.ble a b&&lle x y
noncomputable def LT'.ok:LT'→Bool
 | .v _=>true
 | .n _=>true
 | .a x y=>x.ok&&y.ok
 | .s _ _=>false
 | .g _=>false
 | .m _ x=>x.ok
 | .w x _=>x.ok
noncomputable def LT'.co:Bool→LT'→List Nat
 |true,.v i=>0::lun i
 |false,.v _=>[]
 |true,.n k=>[k]
 |false,.n _=>[]
 |b,.a x y=>QDn (x.co b) (y.co b)
 |b,.s x y=>QDn (x.co b) (y.co (!b))
 |b,.g x=>x.co (!b)
 |b,.m k x=>QFg k (x.co b)
 |b,.w x k=>QFg k (x.co b)
noncomputable def dot:List Nat→List Int→Int
 |k::ks,x::xs=>k*x+dot ks xs
 |_,_=>0
theorem QBj:∀x y c,dot (QDn x y) c=dot x c+dot y c:=by
 intro x
 induction x with
 |nil=>intro y c;cases y<;>cases c<;>exact (Int.zero_add _).symm
 |cons a x ih=>
  intro y c
  cases y with
  |nil=>cases c<;>exact (Int.add_zero _).symm
  |cons b y=>
   cases c with
   |nil=>rfl
   |cons z c=>
    show ((a+b:Nat):Int)*z+dot (QDn x y) c=(a*z+dot x c)+(b*z+dot y c)
    rw [ih,Int.natCast_add,Int.add_mul];generalize (a:Int)*z=p;generalize (b:Int)*z=q;omega
theorem QDE:∀k x c,dot (QFg k x) c=k*dot x c:=by
 intro k x
 induction x with
 |nil=>intro c;cases c<;>exact (Int.mul_zero _).symm
 |cons a x ih=>
  intro c
  cases c with
  |nil=>exact (Int.mul_zero _).symm
  |cons z c=>
   show ((k*a:Nat):Int)*z+dot (QFg k x) c=k*(a*z+dot x c)
   rw [ih,Int.natCast_mul,Int.mul_add,Int.mul_assoc]
theorem QRX:∀i c,dot (lun i) c=nth 0 c i:=by
 intro i
 induction i with
 |zero=>intro c;cases c with
  |nil=>rfl
  |cons x r=>cases r<;>exact (Int.add_zero _).trans (Int.one_mul x)
 |succ i ih=>intro c;cases c with
  |nil=>rfl
  |cons x r=>show (0:Int)*x+dot (lun i) r=nth 0 r i;rw [ih,Int.zero_mul,Int.zero_add]
theorem QIv:∀c,dot [] c=0:=by intro c;cases c<;>rfl
theorem QSR:∀y c,(∀z∈c,(0:Int)≤z)→0≤dot y c:=by
 intro y
 induction y with
 |nil=>intro c _;rw [QIv];exact Int.le_refl _
 |cons b y ih=>
  intro c hc
  cases c with
  |nil=>exact Int.le_refl _
  |cons z c=>exact Int.add_nonneg (Int.mul_nonneg (QAC b) (hc z (.head _))) (ih c fun z q=>hc z (.tail _ q))
theorem QBi{a b:Bool}(h:(a&&b)=true):a=true∧b=true:=(QAT _ _).mp h
theorem QQn:∀x y c,lle x y=true→(∀z∈c,(0:Int)≤z)→dot x c≤dot y c:=by
 intro x
 induction x with
 |nil=>intro y c _ hc;rw [QIv];exact QSR y c hc
 |cons a x ih=>
  intro y c h hc
  cases c with
  |nil=>cases y<;>exact Int.le_refl _
  |cons z c=>
   cases y with
   |nil=>
    refine oA (QBi h) fun p q=>?_
    have e:a=0:=Nat.le_zero.mp (Qh p)
    subst e
    have h3:=ih [] c q (fun z q=>hc z (.tail _ q))
    rw [QIv] at h3
    show ((0:Nat):Int)*z+dot x c≤0
    rw [Int.natCast_zero,Int.zero_mul,Int.zero_add]
    exact h3
   |cons b y=>
    refine oA (QBi h) fun p q=>?_
    exact Int.add_le_add (Int.mul_le_mul_of_nonneg_right (QAE.mpr (Qh p)) (hc z (.head _))) (ih y c q (fun z q=>hc z (.tail _ q)))
theorem QMM:∀(e:LT') c,e.di c=dot (e.co true) (1::c)-dot (e.co false) (1::c):=by
 intro e c
 induction e with
 |v i=>
  show nth 0 c i=((0:Nat)*1+dot (lun i) c)-0
  rw [QRX,Int.sub_zero,Int.natCast_zero,Int.zero_mul,Int.zero_add]
 |n k=>
  show (k:Int)=(k*1+dot [] c)-0
  have h0:dot [] c=0:=by cases c<;>rfl
  rw [h0,Int.sub_zero,Int.add_zero,Int.mul_one]
 |a x y hx hy=>
  show x.di c+y.di c=dot (QDn (x.co true) (y.co true)) _-dot (QDn (x.co false) (y.co false)) _
  rw [hx,hy,QBj,QBj];omega
 |s x y hx hy=>
  show x.di c-y.di c=dot (QDn (x.co true) (y.co false)) _-dot (QDn (x.co false) (y.co true)) _
  rw [hx,hy,QBj,QBj];omega
 |g x hx=>
  show-x.di c=dot (x.co false) _-dot (x.co true) _
  rw [hx];omega
 |m k x hx=>
  show (k:Int)*x.di c=dot (QFg k (x.co true)) _-dot (QFg k (x.co false)) _
  rw [hx,QDE,QDE,Int.mul_sub]
 |w x k hx=>
  show x.di c*(k:Int)=dot (QFg k (x.co true)) _-dot (QFg k (x.co false)) _
  rw [hx,QDE,QDE,Int.mul_comm,Int.mul_sub]
theorem QQE:∀(c:List Nat) i,((nth 0 c i:Nat):Int)=nth 0 (c.map Int.ofNat) i:=by
 intro c
 induction c with
 |nil=>intro i;rfl
 |cons x r ih=>intro i;cases i with
  |zero=>rfl
  |succ i=>exact ih i
theorem QLs:∀(e:LT') c,e.ok=true→((e.dn c:Nat):Int)=e.di (c.map Int.ofNat):=by
 intro e c
 induction e with
 |v i=>intro _;exact QQE c i
 |n k=>intro _;rfl
 |a x y hx hy=>intro h;have h2:=QBi h;exact (Int.natCast_add (x.dn c) (y.dn c)).trans (by rw [hx h2.1,hy h2.2];rfl)
 |s x y=>intro h;cases h
 |g x=>intro h;cases h
 |m k x hx=>intro h;exact (Int.natCast_mul k (x.dn c)).trans (by rw [hx h];rfl)
 |w x k hx=>intro h;exact (Int.natCast_mul (x.dn c) k).trans (by rw [hx h];rfl)
abbrev LH:=Nat×LT'×LT'
noncomputable def lsum(b:Bool):List LH→List Nat
 |[]=>[]
 |(k,l,r)::t=>QDn (QFg k (QDn (r.co b) (l.co (!b)))) (lsum b t)
noncomputable def oks:List LH→Bool
 |[]=>true
 |(_,l,r)::t=>l.ok&&r.ok&&oks t
noncomputable def gap(b:Bool)(k:Nat)(hs:List LH)(gl gr:LT'):List Nat:=QDn (QDn (QFg k (QDn (gl.co b) (gr.co (!b)))) (lsum b hs)) (match b with
 |true=>[]
 |false=>[k-1])
noncomputable def QNK(k:Nat)(hs:List LH)(gl gr:LT'):Bool:=Nat.ble 1 k&&gl.ok&&gr.ok&&oks hs&&lle (gap true k hs gl gr) (gap false k hs gl gr)
noncomputable def tails:List Nat→List Nat
 |[]=>[]
 |_::r=>r
noncomputable def QN0(k:Nat)(hs:List LH)(gl gr:LT'):Bool:=Nat.ble 1 k&&lle (gap true k hs gl gr) (gap false k hs gl gr)&&lle (tails (gap false k hs gl gr)) (tails (gap true k hs gl gr))
noncomputable def QJh(c:List Int):List LH→Prop
 |[]=>True
 |(_,l,r)::t=>l.di c≤r.di c∧QJh c t
noncomputable def QPT(c:List Nat):List LH→Prop
 |[]=>True
 |(_,l,r)::t=>l.dn c≤r.dn c∧QPT c t
theorem QQc:∀hs c,QJh c hs→dot (lsum false hs) (1::c)≤dot (lsum true hs) (1::c):=by
 intro hs c
 induction hs with
 |nil=>intro _;exact Int.le_refl _
 |cons x t ih=>
  obtain ⟨k,l,r⟩:=x
  intro h
  have h1:=ih h.2
  have h2:=h.1
  rw [QMM l,QMM r] at h2
  show dot (QDn (QFg k (QDn (r.co false) (l.co true))) _) _≤dot (QDn (QFg k (QDn (r.co true) (l.co false))) _) _
  rw [QBj,QBj,QDE,QDE,QBj,QBj]
  exact Int.add_le_add (Int.mul_le_mul_of_nonneg_left (by omega) (QAC k)) h1
theorem QOr{k:Nat}{hs:List LH}{gl gr:LT'}{c:List Int}(hk:Nat.ble 1 k=true)(hh:QJh c hs)(h:dot (gap true k hs gl gr) (1::c)≤dot (gap false k hs gl gr) (1::c)):gl.di c≤gr.di c:=by
 have h1:=QQc hs c hh
 have hk:=Qh hk
 unfold gap at h
 rw [show (!true)=false from rfl,show (!false)=true from rfl] at h
 rw [QBj,QBj,QBj,QBj,QDE,QDE,QBj,QBj] at h
 have e0:dot [] (1::c)=0:=rfl
 have e1:dot [k-1] (1::c)=((k-1:Nat):Int):=by
  show ((k-1:Nat):Int)*1+dot [] c=_
  have h0:dot [] c=0:=by cases c<;>rfl
  rw [h0,Int.add_zero,Int.mul_one]
 rw [e0,e1] at h
 rw [QMM gl,QMM gr]
 refine QAN.mp fun q=>?_
 have q1:(dot (gr.co true) (1::c)+dot (gl.co false) (1::c))+1≤dot (gl.co true) (1::c)+dot (gr.co false) (1::c):=by omega
 have q2:=Int.mul_le_mul_of_nonneg_left q1 (QAC k)
 rw [Int.mul_add,Int.mul_one,Int.add_comm (dot (gr.co true) _)] at q2
 omega
theorem QPv(c:List Int)(k:Nat)(hs:List LH)(gl gr:LT')(h:QN0 k hs gl gr=true)(hh:QJh c hs):gl.di c≤gr.di c:=by
 refine oA (QBi h) fun h1 h3=>?_
 refine oA (QBi h1) fun h1 h2=>?_
 refine QOr h1 hh ?_
 revert h2 h3
 generalize gap true k hs gl gr=x
 generalize gap false k hs gl gr=y
 intro h3 h2
 have eq:∀x y:List Nat,lle x y=true→lle y x=true→dot x c=dot y c:=by
  clear h h1 hh h2 h3
  induction c with
  |nil=>intro x y _ _;cases x<;>cases y<;>rfl
  |cons z c ih=>
   intro x y p q
   cases x with
   |nil=>cases y with
    |nil=>rfl
    |cons b y=>
     refine oA (QBi q) fun q1 q2=>?_
     have e:b=0:=Nat.le_zero.mp (Qh q1)
     subst e
     show 0=((0:Nat):Int)*z+dot y c
     rw [←ih [] y rfl q2,Int.natCast_zero,Int.zero_mul,Int.zero_add];cases c<;>rfl
   |cons a x=>cases y with
    |nil=>
     refine oA (QBi p) fun q1 q2=>?_
     have e:a=0:=Nat.le_zero.mp (Qh q1)
     subst e
     show ((0:Nat):Int)*z+dot x c=0
     rw [ih x [] q2 rfl,Int.natCast_zero,Int.zero_mul,Int.zero_add];cases c<;>rfl
    |cons b y=>
     refine oA (QBi p) fun p1 p2=>?_
     refine oA (QBi q) fun q1 q2=>?_
     have e:a=b:=Qk (Qh p1) (Qh q1)
     subst e
     show (a:Int)*z+dot x c=a*z+dot y c
     rw [ih x y p2 q2]
 have h0:dot [] c=0:=by cases c<;>rfl
 cases x with
 |nil=>cases y with
  |nil=>exact Int.le_refl _
  |cons b y=>
   have:=eq [] y rfl h3
   show 0≤(b:Int)*1+dot y c
   rw [←this,h0,Int.mul_one,Int.add_zero]
   exact QAC b
 |cons a x=>cases y with
  |nil=>
   refine oA (QBi h2) fun p1 p2=>?_
   have e:a=0:=Nat.le_zero.mp (Qh p1)
   subst e
   show ((0:Nat):Int)*1+dot x c≤0
   rw [eq x [] p2 rfl,h0];decide
  |cons b y=>
   refine oA (QBi h2) fun p1 p2=>?_
   show (a:Int)*1+dot x c≤b*1+dot y c
   rw [eq x y p2 h3,Int.mul_one,Int.mul_one]
   exact Int.add_le_add_right (QAE.mpr (Qh p1)) _
theorem QQW:∀hs c,oks hs=true→QPT c hs→QJh (c.map Int.ofNat) hs:=by
 intro hs c
 induction hs with
 |nil=>intro _ _;trivial
 |cons x t ih=>
  obtain ⟨k,l,r⟩:=x
  intro o h
  refine oA (QBi o) fun o o3=>?_
  refine oA (QBi o) fun o1 o2=>?_
  refine ⟨?_,ih o3 h.2⟩
  rw [←QLs l c o1,←QLs r c o2]
  exact QAE.mpr h.1
theorem QQH(c:List Nat)(k:Nat)(hs:List LH)(gl gr:LT')(h:QNK k hs gl gr=true)(hh:QPT c hs):gl.dn c≤gr.dn c:=by
 refine oA (QBi h) fun h h5=>?_
 refine oA (QBi h) fun h h4=>?_
 refine oA (QBi h) fun h h3=>?_
 refine oA (QBi h) fun h1 h2=>?_
 refine QAE.mp ?_
 rw [QLs gl c h2,QLs gr c h3]
 refine QOr h1 (QQW hs c h4 hh) (QQn _ _ _ h5 fun z q=>?_)
 cases q with
 |head=>decide
 |tail _ q=>
  clear hh
  induction c with
  |nil=>cases q
  |cons x r ih=>cases q with
   |head=>exact QAC x
   |tail _ q=>exact ih q
theorem zn0(c:List Nat)(k:Nat)(gl gr:LT')(h:QNK k [] gl gr=true):gl.dn c≤gr.dn c:=QQH c k _ gl gr h trivial
theorem zn1(c:List Nat)(k:Nat)(gl gr:LT')(k1:Nat)(l1 r1:LT')(h:QNK k [(k1,l1,r1)] gl gr=true)(h1:l1.dn c≤r1.dn c):gl.dn c≤gr.dn c:=QQH c k _ gl gr h ⟨h1,trivial⟩
theorem zn2(c:List Nat)(k:Nat)(gl gr:LT')(k1:Nat)(l1 r1:LT')(k2:Nat)(l2 r2:LT')(h:QNK k [(k1,l1,r1),(k2,l2,r2)] gl gr=true)(h1:l1.dn c≤r1.dn c)(h2:l2.dn c≤r2.dn c):gl.dn c≤gr.dn c:=QQH c k _ gl gr h ⟨h1,h2,trivial⟩
theorem zn3(c:List Nat)(k:Nat)(gl gr:LT')(k1:Nat)(l1 r1:LT')(k2:Nat)(l2 r2:LT')(k3:Nat)(l3 r3:LT')(h:QNK k [(k1,l1,r1),(k2,l2,r2),(k3,l3,r3)] gl gr=true)(h1:l1.dn c≤r1.dn c)(h2:l2.dn c≤r2.dn c)(h3:l3.dn c≤r3.dn c):gl.dn c≤gr.dn c:=QQH c k _ gl gr h ⟨h1,h2,h3,trivial⟩
theorem zi0(c:List Int)(k:Nat)(gl gr:LT')(h:QN0 k [] gl gr=true):gl.di c≤gr.di c:=QPv c k _ gl gr h trivial
theorem zi1(c:List Int)(k:Nat)(gl gr:LT')(k1:Nat)(l1 r1:LT')(h:QN0 k [(k1,l1,r1)] gl gr=true)(h1:l1.di c≤r1.di c):gl.di c≤gr.di c:=QPv c k _ gl gr h ⟨h1,trivial⟩
theorem zi2(c:List Int)(k:Nat)(gl gr:LT')(k1:Nat)(l1 r1:LT')(k2:Nat)(l2 r2:LT')(h:QN0 k [(k1,l1,r1),(k2,l2,r2)] gl gr=true)(h1:l1.di c≤r1.di c)(h2:l2.di c≤r2.di c):gl.di c≤gr.di c:=QPv c k _ gl gr h ⟨h1,h2,trivial⟩
theorem zi3(c:List Int)(k:Nat)(gl gr:LT')(k1:Nat)(l1 r1:LT')(k2:Nat)(l2 r2:LT')(k3:Nat)(l3 r3:LT')(h:QN0 k [(k1,l1,r1),(k2,l2,r2),(k3,l3,r3)] gl gr=true)(h1:l1.di c≤r1.di c)(h2:l2.di c≤r2.di c)(h3:l3.di c≤r3.di c):gl.di c≤gr.di c:=QPv c k _ gl gr h ⟨h1,h2,h3,trivial⟩
theorem QTw{α:Prop}(h:1≤0):α:=absurd h (by decide)
theorem QJz{α:Prop}(h:(1:Int)≤0):α:=absurd h (by decide)
example (m k:Nat) (h:k+10+1≤m) (h2:3<k):15≤m:=zn2 [_,_] 1 (.n 15) (.v 1) 1 (.a (.a (.v 0) (.n 10)) (.n 1)) (.v 1) 1 (.a (.n 3) (.n 1)) (.v 0) rfl h h2
example (m k:Int) (h:k-10+1≤m) (h2: -3<k): -11≤m:=zi2 [_,_] 1 (.g (.n 11)) (.v 1) 1 (.a (.s (.v 0) (.n 10)) (.n 1)) (.v 1) 1 (.a (.g (.n 3)) (.n 1)) (.v 0) rfl h h2
inductive D where
 |none
 |bool (b:Bool)
 |int (i:Int)
 |str (x:Str)
 |bytes (b:Array UInt8)
 |typ (n:String)
 |list (xs:List D)
 |tup (xs:List D)
 |inst (c:QW) (xs:List D)
 |dict (kvs:List (Int×D))
 |obj (a:QW)
 |hdr (xs:List D)
 deriving Inhabited
noncomputable abbrev Fz:=QW→Option Obj
noncomputable def QCq(g:Fz)(a L:QW):Prop:=∃o dd od es n hh t,g a=some o∧o.cls= .ref 415∧o.dict=some dd∧o.data= .plain∧g dd=some od∧od.data= .dict es n∧es.toList=[⟨hh,.str (PySem.Str.ofString "_headers") t,.ref L⟩]
theorem QCq.mono{g g':Fz}(l:∀a o,g a=some o→g' a=some o){a L:QW}(h:QCq g a L):QCq g' a L:=by
 revert h
 refine QJU fun o dd od es n=>QCO fun hh t h1 h2 h3=>rA fun h4 ζ11=>?_
 obtain ⟨h5,h6⟩:=ζ11
 exact ⟨o,dd,od,es,n,hh,t,l _ _ h1,h2,h3,h4,l _ _ h5,h6⟩
mutual
inductive Den (g:Fz):QS→D→Prop
 |none:Den g .none .none
 |bool (b:Bool):Den g (.bool b) (.bool b)
 |int (i:Int) (t:Tok):Den g (.int i t) (.int i)
 |str (x:Str) (t:Tok):Den g (.str x t) (.str x)
 |bytes (b:Array UInt8) (t:Tok):Den g (.bytes b t) (.bytes b)
 |typ (n:String):Den g (.type n) (.typ n)
 |obj (a:QW):Den g (.ref a) (.obj a)
 |list {a:QW} {o:Obj} {vs:Array QS} {n:Nat} {xs:List D}:g a=some o→(o.cls= .type "list"∧o.dict=Option.none∧o.slots= #[])→o.data= .seq vs n→DenL g vs.toList xs→Den g (.ref a) (.list xs)
 |tup {a:QW} {vs:Array QS} {xs:List D}:g a=some {cls:= .type "tuple",data:= .seq vs}→DenL g vs.toList xs→Den g (.ref a) (.tup xs)
 |inst {a c:QW} {o:Obj} {vs:Array QS} {n:Nat} {xs:List D}:g a=some o→o.cls= .ref c→o.data= .seq vs n→DenL g vs.toList xs→Den g (.ref a) (.inst c xs)
 |dict {a:QW} {o:Obj} {es:Array DictEntry} {n:Nat} {kvs:List (Int×D)}:g a=some o→o.cls= .type "dict"→o.data= .dict es n→QEX g es.toList kvs→(kvs.map (·.1)).Nodup→Den g (.ref a) (.dict kvs)
 |hdr {a L:QW} {xs:List D}:QCq g a L→Den g (.ref L) (.list xs)→Den g (.ref a) (.hdr xs)
inductive DenL (g:Fz):List QS→List D→Prop
 |nil:DenL g [] []
 |cons {v:QS} {d:D} {vs:List QS} {ds:List D}:Den g v d→DenL g vs ds→DenL g (v::vs) (d::ds)
inductive QEX (g:Fz):List DictEntry→List (Int×D)→Prop
 |nil:QEX g [] []
 |cons {e:DictEntry} {k:Int} {t:Tok} {d:D} {es:List DictEntry} {kvs:List (Int×D)}:e.key= .int k t→e.hash=hashInt k→Den g e.val d→QEX g es kvs→QEX g (e::es) ((k,d)::kvs)
end
noncomputable def FLe(g g':Fz):Prop:=∀a o,g a=some o→g' a=some o
noncomputable def gsz:Nat:=474
noncomputable def QDA(a:QW)(o o':Obj):Prop:=o'=o∨∃es ep sl,gsz≤a∧o.data= .dict es ep∧o'={o with slots:=sl}
theorem QDA.rfl'{a:QW}{o:Obj}:QDA a o o:= .inl rfl
theorem QDA.data{a:QW}{o o':Obj}(x:QDA a o o'):o'.data=o.data:=by
 rcases x with rfl|⟨_,_,_,_,_,rfl⟩<;>rfl
theorem QDA.cls{a:QW}{o o':Obj}(x:QDA a o o'):o'.cls=o.cls:=by
 rcases x with rfl|⟨_,_,_,_,_,rfl⟩<;>rfl
theorem QDA.dict{a:QW}{o o':Obj}(x:QDA a o o'):o'.dict=o.dict:=by
 rcases x with rfl|⟨_,_,_,_,_,rfl⟩<;>rfl
theorem QDA.trans{a:QW}{o o' o'':Obj}(x:QDA a o o')(y:QDA a o' o''):QDA a o o'':=by
 rcases x with rfl|⟨es,ep,sl,hz,hd,rfl⟩
 ·exact y
 ·rcases y with rfl|⟨es',ep',sl',_,_,rfl⟩
  ·exact .inr ⟨es,ep,sl,hz,hd,rfl⟩
  ·exact .inr ⟨es,ep,sl',hz,hd,rfl⟩
theorem QDA.low{a:QW}{o o':Obj}(x:QDA a o o')(h:a<gsz):o'=o:=by
 rcases x with rfl|⟨_,_,_,hz,_⟩
 ·rfl
 ·exact absurd h (Nat.not_lt.mpr hz)
theorem QDA.exact{a:QW}{o o':Obj}(x:QDA a o o')(h:∀es ep,o.data≠ .dict es ep):o'=o:=by
 rcases x with rfl|⟨es,ep,_,_,hd,_⟩
 ·rfl
 ·exact absurd hd (h es ep)
noncomputable def FIn(g:Fz)(h:Heap):Prop:=∀a o,g a=some o→∃o',h.get? a=some o'∧QDA a o o'
noncomputable def HLe(h h':Heap):Prop:=∀a o,h.get? a=some o→∃o',h'.get? a=some o'∧QDA a o o'
theorem HLe.of{h h':Heap}(k:∀a o,h.get? a=some o→h'.get? a=some o):HLe h h':=fun a o e=>⟨o,k a o e,.rfl'⟩
theorem HLe.exact{h h':Heap}(x:HLe h h'){a:QW}{o:Obj}(e:h.get? a=some o)(hd:∀es ep,o.data≠ .dict es ep):h'.get? a=some o:=by
 refine oEA (x a o e) fun o' e' s=>?_
 rw [s.exact hd] at e';exact e'
theorem FIn.exact{g:Fz}{h:Heap}(x:FIn g h){a:QW}{o:Obj}(e:g a=some o)(hd:∀es ep,o.data≠ .dict es ep):h.get? a=some o:=by
 refine oEA (x a o e) fun o' e' s=>?_
 rw [s.exact hd] at e';exact e'
theorem FIn.sq{g:Fz}{h:Heap}(x:FIn g h){a:QW}{o:Obj}(e:g a=some o){vs:Array QS}{n:Nat}(hd:o.data= .seq vs n):h.get? a=some o:=x.exact e fun es ep q=>by rw [hd] at q;cases q
theorem HLe.to{h h' h'':Heap}(x:HLe h h')(k:∀b o o',h.get? b=some o→h'.get? b=some o'→h''.get? b=some o'):HLe h h'':=fun b o e=>by
 refine oEA (x b o e) fun o' e' s=>?_
 exact ⟨o',k b o o' e e',s⟩
theorem FIn.to{g:Fz}{h h':Heap}(x:FIn g h)(k:∀b o o',g b=some o→h.get? b=some o'→h'.get? b=some o'):FIn g h':=fun b o e=>by
 refine oEA (x b o e) fun o' e' s=>?_
 exact ⟨o',k b o o' e e',s⟩
theorem HLe.ns{h h':Heap}(x:HLe h h'){a:QW}{m:Str→Option QS}(y:h.Ns a m):h'.Ns a m:=by
 revert y
 refine QCB fun o es ep ho hd r=>?_
 refine oEA (x a o ho) fun o' ho' s=>?_
 exact ⟨o',es,ep,ho',s.data.trans hd,r⟩
theorem HLe.cell{h h':Heap}(x:HLe h h'){a:QW}{v:Option QS}(y:h.IsCell a v):h'.IsCell a v:=by
 revert y
 refine rEA fun o ho hd=>?_
 refine oEA (x a o ho) fun o' ho' s=>?_
 exact ⟨o',ho',s.data.trans hd⟩
theorem HLe.plain{h h':Heap}(x:HLe h h'){a:QW}{vs:Array QS}(y:h.PlainList a vs):h'.PlainList a vs:=by
 revert y
 refine rE fun n ho=>?_
 exact ⟨n,x.exact ho fun _ _ q=>nomatch q⟩
noncomputable def QT2(g:Fz)(v:QS):D→Prop
 | .none=>v= .none
 | .bool b=>v= .bool b
 | .int i=>∃t,v= .int i t
 | .str x=>∃t,v= .str x t
 | .bytes b=>∃t,v= .bytes b t
 | .typ n=>v= .type n
 | .obj a=>v= .ref a
 | .list xs=>∃a o vs n,v= .ref a∧g a=some o∧(o.cls= .type "list"∧o.dict=Option.none∧o.slots= #[])∧o.data= .seq vs n∧DenL g vs.toList xs
 | .tup xs=>∃a vs,v= .ref a∧g a=some {cls:= .type "tuple",data:= .seq vs}∧DenL g vs.toList xs
 | .inst c xs=>∃a o vs n,v= .ref a∧g a=some o∧o.cls= .ref c∧o.data= .seq vs n∧DenL g vs.toList xs
 | .dict kvs=>∃a o es n,v= .ref a∧g a=some o∧o.cls= .type "dict"∧o.data= .dict es n∧QEX g es.toList kvs∧(kvs.map (·.1)).Nodup
 | .hdr xs=>∃a L,v= .ref a∧QCq g a L∧Den g (.ref L) (.list xs)
theorem Den.out{g:Fz}{v:QS}{d:D}(h:Den g v d):QT2 g v d:=by
 cases h with
 |none=>exact rfl
 |bool b=>exact rfl
 |int i t=>exact ⟨t,rfl⟩
 |str x t=>exact ⟨t,rfl⟩
 |bytes b t=>exact ⟨t,rfl⟩
 |typ n=>exact rfl
 |obj a=>exact rfl
 |list a b c e=>exact ⟨_,_,_,_,rfl,a,b,c,e⟩
 |tup a b=>exact ⟨_,_,rfl,a,b⟩
 |inst a b c e=>exact ⟨_,_,_,_,rfl,a,b,c,e⟩
 |dict a b c e f=>exact ⟨_,_,_,_,rfl,a,b,c,e,f⟩
 |hdr a b=>exact ⟨_,_,rfl,a,b⟩
noncomputable def QTL(g:Fz)(vs:List QS):List D→Prop
 |[]=>vs=[]
 |d::ds=>∃v r,vs=v::r∧Den g v d∧DenL g r ds
theorem DenL.out{g:Fz}{vs:List QS}{ds:List D}(h:DenL g vs ds):QTL g vs ds:=by
 cases h with
 |nil=>exact rfl
 |cons a b=>exact ⟨_,_,rfl,a,b⟩
noncomputable def QTg(g:Fz)(es:List DictEntry):List (Int×D)→Prop
 |[]=>es=[]
 |(k,d)::kvs=>∃e r t,es=e::r∧e.key= .int k t∧e.hash=hashInt k∧Den g e.val d∧QEX g r kvs
theorem QEX.out{g:Fz}{es:List DictEntry}{kvs:List (Int×D)}(h:QEX g es kvs):QTg g es kvs:=by
 cases h with
 |nil=>exact rfl
 |cons a b c e=>exact ⟨_,_,_,rfl,a,b,c,e⟩
theorem Den.mono{g g':Fz}(l:FLe g g'){v:QS}{d:D}(h:Den g v d):Den g' v d:=
 Den.rec (motive_1:=fun v d _=>Den g' v d) (motive_2:=fun vs ds _=>DenL g' vs ds) (motive_3:=fun es kvs _=>QEX g' es kvs) .none .bool .int .str .bytes .typ .obj
  (fun h c dd _ hl=> .list (l _ _ h) c dd hl) (fun h _ hl=> .tup (l _ _ h) hl) (fun h c dd _ hl=> .inst (l _ _ h) c dd hl) (fun h c dd _ hn hl=> .dict (l _ _ h) c dd hl hn) (fun h _ d=> .hdr (h.mono l) d)
  .nil (fun _ _ a b=> .cons a b) .nil (fun k hh _ _ a b=> .cons k hh a b) h
theorem DenL.mono{g g':Fz}(l:FLe g g'){vs:List QS}:∀{ds:List D},DenL g vs ds→DenL g' vs ds:=by
 intro ds
 induction ds generalizing vs with
 |nil=>intro h;rw [h.out];exact .nil
 |cons d ds ih=>intro h;(apply QCh h.out;intro v r h1 h2);exact .cons (h1.mono l) (ih h2)
theorem DenL.length{g:Fz}{ds:List D}:∀{vs:List QS},DenL g vs ds→vs.length=ds.length:=by
 induction ds with
 |nil=>intro vs h;rw [h.out];rfl
 |cons d ds ih=>intro vs h;(apply QCh h.out;intro v r h1 h2);exact congrArg (· +1) (ih h2)
theorem DenL.get{g:Fz}{ds:List D}:∀{vs:List QS},DenL g vs ds→∀{i:Nat} {d:D},ds[i]? =some d→∃v,vs[i]? =some v∧Den g v d:=by
 induction ds with
 |nil=>intro vs h i d e;cases e
 |cons d ds ih=>
  intro vs h i d' e
  apply QCh h.out;intro v r h1 h2
  cases i with
  |zero=>cases e;exact ⟨_,rfl,h1⟩
  |succ i=>exact ih h2 (i:=i) e
theorem DenL.get'{g:Fz}{vs:List QS}{ds:List D}(h:DenL g vs ds){i:Nat}{v:QS}(e:vs[i]? =some v):∃d,ds[i]? =some d∧Den g v d:=by
 have hi:i<ds.length:=by rw [←h.length];exact (List.getElem?_eq_some_iff.mp e).1
 refine oEA (h.get (List.getElem?_eq_getElem hi)) fun u e1 e2=>?_
 rw [e] at e1
 cases e1
 exact ⟨_,List.getElem?_eq_getElem hi,e2⟩
theorem DenL.append{g:Fz}{ws:List QS}{es ds:List D}:∀{vs:List QS},DenL g vs ds→DenL g ws es→DenL g (vs++ws) (ds++es):=by
 induction ds with
 |nil=>intro vs h k;rw [h.out];exact k
 |cons d ds ih=>intro vs h k;(apply QCh h.out;intro v r h1 h2);exact .cons h1 (ih h2 k)
theorem Den.lst{g:Fz}{v:QS}{xs:List D}(h:Den g v (.list xs)):∃a vs,v= .ref a∧DenL g vs.toList xs∧vs.size=xs.length∧∀hp:Heap,FIn g hp→hp.IsList a vs:=by
 apply QBG h.out;intro a o vs n ho hc hd hl
 exact ⟨a,vs,rfl,hl,hl.length,fun hp fi=>⟨o,fi.sq ho hd,hc.1,n,hd⟩⟩
theorem Den.tpl{g:Fz}{v:QS}{xs:List D}(h:Den g v (.tup xs)):∃a vs,v= .ref a∧DenL g vs.toList xs∧vs.size=xs.length∧∀hp:Heap,FIn g hp→hp.IsTuple a vs:=by
 apply QCh h.out;intro a vs ho hl
 exact ⟨a,vs,rfl,hl,hl.length,fun hp fi=>⟨_,fi.sq ho rfl,rfl,0,rfl⟩⟩
theorem DenL.of_get{g:Fz}:∀{vs:List QS} {ds:List D},vs.length=ds.length→(∀(i:Nat) (v:QS) (d:D),vs[i]? =some v→ds[i]? =some d→Den g v d)→DenL g vs ds
 |[],[],_,_=> .nil
 |v::vs,d::ds,hl,h=> .cons (h 0 v d rfl rfl) (DenL.of_get (by simpa using hl) fun i v d hv hd=>h (i+1) v d (by simpa using hv) (by simpa using hd))
 |[],_::_,hl,_=>by simp at hl
 |_::_,[],hl,_=>by simp at hl
structure Ext (g:Fz)(s:QR)(g':Fz)(s':QR):Prop where
 heap:HLe s.heap s'.heap
 le:FLe g g'
 inn:FIn g' s'.heap
 new:∀a o,g' a=some o→g a=some o∨s.heap.get? a=none
 same:∃h tk,s'={s with heap:=h,toks:=tk}
theorem HLe.refl(h:Heap):HLe h h:=fun _ o e=>⟨o,e,.rfl'⟩
theorem HLe.trans{h h' h'':Heap}(x:HLe h h')(y:HLe h' h''):HLe h h'':=fun a o e=>by
 refine oEA (x a o e) fun o' e' s=>?_
 refine oEA (y a o' e') fun o'' e'' s'=>?_
 exact ⟨o'',e'',s.trans s'⟩
theorem FLe.refl(g:Fz):FLe g g:=fun _ _ e=>e
theorem FLe.trans{h h' h'':Fz}(x:FLe h h')(y:FLe h' h''):FLe h h'':=fun a o e=>y a o (x a o e)
theorem FIn.up{g:Fz}{h h':Heap}(x:FIn g h)(y:HLe h h'):FIn g h':=fun a o e=>by
 refine oEA (x a o e) fun o' e' s=>?_
 refine oEA (y a o' e') fun o'' e'' s'=>?_
 exact ⟨o'',e'',s.trans s'⟩
theorem HLe.none{h h':Heap}(x:HLe h h'){a:QW}(e:h'.get? a=none):h.get? a=none:=by
 cases q:h.get? a with
 |none=>rfl
 |some o=>refine oEA (x a o q) fun o' e' _=>?_;rw [e'] at e;cases e
theorem Ext.refl{g:Fz}{s:QR}(i:FIn g s.heap):Ext g s g s:=⟨.refl _,.refl _,i,fun _ _ e=> .inl e,⟨_,_,rfl⟩⟩
theorem Ext.trans{g g' g'':Fz}{s s' s'':QR}(x:Ext g s g' s')(y:Ext g' s' g'' s''):Ext g s g'' s'' where
 heap:=x.heap.trans y.heap
 le:=x.le.trans y.le
 inn:=y.inn
 new:=fun a o e=>by
  rcases y.new a o e with q|q
  ·exact x.new a o q
  ·exact .inr (x.heap.none q)
 same:=by
  refine oEE x.same fun h tk ζ2=>?_
  subst ζ2
  refine oEE y.same fun h' tk' ζ2=>?_
  subst ζ2
  exact ⟨h',tk',rfl⟩
theorem Ext.grow{g:Fz}{s:QR}(i:FIn g s.heap){h:Heap}{tk:Nat}(k:HLe s.heap h):Ext g s g {s with heap:=h,toks:=tk}:=
 ⟨k,.refl _,i.up k,fun _ _ e=> .inl e,⟨_,_,rfl⟩⟩
theorem Ext.tok{g:Fz}{s:QR}(i:FIn g s.heap){tk:Nat}:Ext g s g {s with toks:=tk}:= .grow i (.refl _)
noncomputable def Fz.add(g:Fz)(a:QW)(o:Obj):Fz:=fun b=>if b=a then some o else g b
theorem Fz.add_self(g:Fz)(a:QW)(o:Obj):(g.add a o) a=some o:=by simp [Fz.add]
theorem Fz.add_le{g:Fz}{a:QW}{o:Obj}(h:g a=none):FLe g (g.add a o):=fun b o' e=>by
 unfold Fz.add
 by_cases q:b=a
 ·subst q;rw [h] at e;cases e
 ·rw [if_neg q];exact e
theorem FIn.none{g:Fz}{h:Heap}(i:FIn g h){a:QW}(e:h.get? a=Option.none):g a=Option.none:=by
 cases q:g a with
 |none=>rfl
 |some o=>refine oEA (i a o q) fun o' e' _=>?_;rw [e'] at e;cases e
theorem Ext.add{g:Fz}{s:QR}(i:FIn g s.heap){h:Heap}{tk:Nat}(k:HLe s.heap h){a:QW}{o:Obj}(hn:s.heap.get? a=Option.none)(ho:h.get? a=some o):
  Ext g s (g.add a o) {s with heap:=h,toks:=tk} where
 heap:=k
 le:=Fz.add_le (i.none hn)
 inn:=fun b o' e=>by
  unfold Fz.add at e
  by_cases q:b=a
  ·subst q;rw [if_pos rfl] at e;cases e;exact ⟨_,ho,.rfl'⟩
  ·rw [if_neg q] at e;exact (i.up k) b o' e
 new:=fun b o' e=>by
  unfold Fz.add at e
  by_cases q:b=a
  ·subst q;exact .inr hn
  ·rw [if_neg q] at e;exact .inl e
 same:=⟨_,_,rfl⟩
structure Rm (A:QT)(n:Nat):Prop where
 hnd:10≤n→A.handled=none
 dep:A.depth+n<recursionLimit
 uni:A.units+8*n<cLine
theorem Rm.less{A:QT}{n m:Nat}(r:Rm A n)(h:m≤n):Rm A m:=⟨fun k=>r.hnd (by exact zn2 [_,_] 1 (.n 10) (.v 0) 1 (.v 1) (.v 0) 1 (.n 10) (.v 1) rfl h k),by have:=r.dep;exact zn2 [_,_,_,_] 1 (.a (.a (.v 0) (.v 1)) (.n 1)) (.v 2) 1 (.v 1) (.v 3) 1 (.a (.a (.v 0) (.v 3)) (.n 1)) (.v 2) rfl h this,by have:=r.uni;exact zn2 [_,_,_,_] 1 (.a (.a (.v 0) (.m 8 (.v 1))) (.n 1)) (.v 2) 8 (.v 1) (.v 3) 1 (.a (.a (.v 0) (.m 8 (.v 3))) (.n 1)) (.v 2) rfl h this⟩
theorem Rm.deeper{A:QT}{n:Nat}{e:Env}(r:Rm A (n+1)):Rm (A.deeper e) n:=
 ⟨fun k=>r.hnd (by exact zn1 [_] 1 (.n 10) (.a (.v 0) (.n 1)) 1 (.n 10) (.v 0) rfl k),by have:=r.dep;show A.depth+1+n<_;exact zn1 [_,_,_] 1 (.a (.a (.a (.v 0) (.n 1)) (.v 1)) (.n 1)) (.v 2) 1 (.a (.a (.v 0) (.a (.v 1) (.n 1))) (.n 1)) (.v 2) rfl this,by have:=r.uni;show A.units+3+8*n<_;exact zn1 [_,_,_] 1 (.a (.a (.a (.v 0) (.n 3)) (.m 8 (.v 1))) (.n 1)) (.v 2) 1 (.a (.a (.v 0) (.m 8 (.a (.v 1) (.n 1)))) (.n 1)) (.v 2) rfl this⟩
noncomputable abbrev QL5:Str:=⟨#[108,101,110]⟩
noncomputable abbrev QER:Str:=⟨#[114,97,110,103,101]⟩
noncomputable abbrev QGN:Str:=⟨#[98,121,116,101,115]⟩
noncomputable abbrev QCM:Str:=⟨#[105,115,105,110,115,116,97,110,99,101]⟩
noncomputable abbrev QFn:Str:=⟨#[116,121,112,101]⟩
noncomputable abbrev QL0:Str:=⟨#[115,116,114]⟩
noncomputable abbrev QE2:Str:=⟨#[115,111,114,116,101,100]⟩
noncomputable abbrev QFp:Str:=⟨#[100,105,99,116]⟩
noncomputable abbrev QG6:Str:=⟨#[122,105,112]⟩
noncomputable abbrev QBs:Str:=⟨#[101,110,117,109,101,114,97,116,101]⟩
noncomputable abbrev QKm:Str:=⟨#[106,111,105,110]⟩
noncomputable abbrev QHV:Str:=⟨#[101,110,99,111,100,101]⟩
noncomputable abbrev QGt:Str:=⟨#[100,101,99,111,100,101]⟩
noncomputable abbrev QD9:Str:=⟨#[116,114,97,110,115,108,97,116,101]⟩
noncomputable abbrev QIt:Str:=⟨#[99,111,117,110,116]⟩
noncomputable abbrev QKI:Str:=⟨#[97,112,112,101,110,100]⟩
noncomputable abbrev QBk:Str:=⟨#[97,115,99,105,105]⟩
noncomputable abbrev QJt:Str:=⟨#[101,120,116,101,110,100]⟩
noncomputable def QF7{α β:Type}(f:α→Option β):List α→Option (List β)
 |[]=>some []
 |x::xs=>match f x with
  |none=>none
  |some y=>match QF7 f xs with
   |none=>none
   |some ys=>some (y::ys)
noncomputable def all2(f:D→D→Option Bool):List D→List D→Option Bool
 |[],[]=>some true
 |x::xs,y::ys=>match f x y with
  |none=>none
  |some a=>match all2 f xs ys with
   |none=>none
   |some b=>some (a&&b)
 |_,_=>none
noncomputable def dEq:Nat→D→D→Option Bool
 |0,_,_=>none
 |n+1,a,b=>match a,b with
  | .none,.none=>some true
  | .bool a,.bool b=>some (a==b)
  | .int a,.int b=>some (a==b)
  | .str a,.str b=>some (a==b)
  | .bytes a,.bytes b=>some (a==b)
  | .list xs,.list ys=>if xs.length=ys.length then all2 (dEq n) xs ys else some false
  | .tup xs,.tup ys=>if xs.length=ys.length then all2 (dEq n) xs ys else none
  |_,_=>none
noncomputable def QB3:List D→Option (List Int)
 |[]=>some []
 | .int i::r=>(QB3 r).map (i:: ·)
 |_=>none
noncomputable def QIW(i:Int):Option UInt8:=if 0≤i∧i<256 then some (UInt8.ofNat i.toNat) else none
noncomputable def bLt:List UInt8→List UInt8→Bool
 |[],[]=>false
 |[],_::_=>true
 |_::_,[]=>false
 |a::l,b::r=>if a<b then true else if b<a then false else bLt l r
noncomputable def big:Int:=2^200
noncomputable def QB1(op:Operator)(a b:D):Option D:=match a,b with
 | .int a,.int b=>(match op with
  | .Add=>some (.int (a+b))
  | .Sub=>some (.int (a-b))
  | .Mult=>if-big<a∧a<big∧-big<b∧b<big then some (.int (a*b)) else none
  | .FloorDiv=>if b≠0∧-big<b∧b<big then some (.int (a.fdiv b)) else none
  | .Mod=>if b≠0 then some (.int (a.fmod b)) else none
  | .Pow=>if 0≤b∧b≤64∧0≤a∧a≤256 then some (.int (a^b.toNat)) else none
  | .LShift=>if 0≤b∧b≤64∧0≤a∧a<big then some (.int (a*2^b.toNat)) else none
  | .RShift=>if 0≤b∧b≤64 then some (.int (a.fdiv (2^b.toNat))) else none
  | .BitAnd=>some (.int (Builtin.bitAnd a b))
  | .BitOr=>some (.int (Builtin.bitOr a b))
  |_=>none)
 | .bool a,.bool b=>(match op with
  | .Sub=>some (.int (b2i a-b2i b))
  |_=>none)
 | .str a,.str b=>(match op with
  | .Add=>if a.length≤1000∧b.length≤1000 then some (.str (a++b)) else none
  |_=>none)
 | .list a,.list b=>(match op with
  | .Add=>if a.length≤1000∧b.length≤1000 then some (.list (a++b)) else none
  |_=>none)
 | .str a,.int b=>(match op with
  | .Mult=>if a.length=1∧0≤b∧b≤1000 then some (.str ⟨(List.replicate b.toNat a.cps).foldl (· ++ ·) #[]⟩) else none
  |_=>none)
 |_,_=>none
noncomputable def QS4(op:CmpOp)(a b:Int):Option Bool:=match op with
 | .Lt=>some (decide (a<b))
 | .LtE=>some (decide (a≤b))
 | .Gt=>some (decide (a>b))
 | .GtE=>some (decide (a≥b))
 |_=>none
noncomputable def QO9(op:CmpOp)(a b:D):Option Bool:=match a,b with
 | .int a,.int b=>QS4 op a b
 | .bytes a,.bytes b=>(match op with
  | .Lt=>some (bLt a.toList b.toList)
  | .Gt=>some (bLt b.toList a.toList)
  |_=>none)
 | .typ a,.typ b=>(match op with
  | .Is=>some (a==b)
  |_=>none)
 | .obj a,.obj b=>(match op with
  | .Is=>if a=b then some true else none
  |_=>none)
 | .bytes _,.obj _=>(match op with
  | .Is=>some false
  |_=>none)
 | .none,.none=>(match op with
  | .Is=>some true
  | .IsNot=>some false
  |_=>none)
 | .bool _,.none=>(match op with
  | .Is=>some false
  |_=>none)
 | .str _,.none=>(match op with
  | .Is=>some false
  | .IsNot=>some true
  |_=>none)
 | .bytes _,.none=>(match op with
  | .Is=>some false
  | .IsNot=>some true
  |_=>none)
 | .int a,.list ys=>(match op with
  | .In=>(QB3 ys).map fun l=>l.contains a
  | .NotIn=>(QB3 ys).map fun l=> !l.contains a
  |_=>none)
 |_,_=>none
noncomputable def QA8(op:CmpOp)(a b:D):Option Bool:=match op with
 | .Eq=>dEq 8 a b
 | .NotEq=>(dEq 8 a b).map (!·)
 |op=>QO9 op a b
noncomputable def QC2:D→Option Bool
 | .none=>some false
 | .bool b=>some b
 | .int i=>some (i !=0)
 | .list xs=>if xs.length≤1000 then some (!xs.isEmpty) else none
 |_=>none
noncomputable def place(n:Nat)(i:Int):Option Nat:=if 0≤i then (if i<n then some i.toNat else none) else if 0≤i+n then some (i+n).toNat else none
noncomputable def QBb:D→D→Option D
 | .list xs,.int i=>if xs.length≤1000 then (match place xs.length i with
  |some k=>xs[k]?
  |none=>none) else none
 | .str x,.int i=>if 0≤i∧i<x.cps.size∧x.cps.size≤1000 then some (.str ⟨#[x.cps.getD i.toNat 0]⟩) else none
 | .bytes b,.int i=>if 0≤i∧i<b.toList.length∧b.size≤1000 then some (.int (b.toList.getD i.toNat 0).toNat) else none
 | .dict kvs,.int i=>(kvs.find? fun p=>decide (p.1=i)).map (·.2)
 | .tup xs,.int i=>if xs.length≤1000 then (match place xs.length i with
  |some k=>xs[k]?
  |none=>none) else none
 |_,_=>none
noncomputable def QDy:D→D→D→D→Option D
 | .list xs,.none,.int hi,.none=>if xs.length≤1000∧0≤hi then some (.list (xs.take hi.toNat)) else none
 | .list xs,.int lo,.int hi,.none=>if xs.length≤1000∧0≤lo∧lo≤hi then some (.list ((xs.take hi.toNat).drop lo.toNat)) else none
 | .list xs,.int lo,.none,.none=>if xs.length≤1000∧0≤lo then some (.list (xs.drop lo.toNat)) else none
 | .list xs,.none,.none,.none=>if xs.length≤1000 then some (.list xs) else none
 | .list xs,.none,.none,.int s=>if xs.length≤1000∧s= -1 then some (.list xs.reverse) else none
 |_,_,_,_=>none
noncomputable def QOJ:D→Option String
 | .none=>some "NoneType"
 | .bool _=>some "bool"
 | .int _=>some "int"
 | .str _=>some "str"
 | .bytes _=>some "bytes"
 |_=>none
noncomputable def QTO:List D→Bool
 |[.typ a,.typ b]=>a=="bytes"&&b=="bytearray"
 |_=>false
noncomputable def QJc(a T:D):Option Bool:=match a,T with
 | .bytes _,.typ n=>if n="bytes" then some true else if n="str" then some false else none
 | .int _,.typ n=>if n="bool" then some false else none
 | .str _,.typ n=>if n="str" then some true else none
 | .bytes _,.tup xs=>if QTO xs=true then some true else none
 |_,_=>none
noncomputable def sortI(l:List Int):List Int:=l.mergeSort
noncomputable def QCw(f:Str):Option QS:=
 if f==QL5 then some (.builtin "len") else if f==QGN then some (.type "bytes") else if f==QCM then some (.builtin "isinstance") else if f==QFn then some (.type "type")
 else if f==QL0 then some (.type "str") else if f==QE2 then some (.builtin "sorted") else none
noncomputable def one{α:Type}:List α→Option α
 |[a]=>some a
 |_=>none
noncomputable def two{α:Type}:List α→Option (α×α)
 |[a,b]=>some (a,b)
 |_=>none
noncomputable def asL:D→Option (List D)
 | .list xs=>some xs
 |_=>none
noncomputable def asI:D→Option Int
 | .int xs=>some xs
 |_=>none
noncomputable def asS:D→Option Str
 | .str xs=>some xs
 |_=>none
noncomputable def asB:D→Option (Array UInt8)
 | .bytes xs=>some xs
 |_=>none
noncomputable def dCall(f:Str)(args:List D):Option D:=
 if f==QL5 then (one args).bind fun x=>(asL x).bind fun xs=>if xs.length≤1000 then some (.int xs.length) else none
 else if f==QGN then (one args).bind fun x=>(asL x).bind fun xs=>(QB3 xs).bind fun is=>(QF7 QIW is).bind fun bs=>if bs.length≤1000 then some (.bytes bs.toArray) else none
 else if f==QCM then (two args).bind fun p=>(QJc p.1 p.2).map .bool
 else if f==QFn then (one args).bind fun d=>(QOJ d).map .typ
 else if f==QL0 then (one args).bind fun x=>(asI x).bind fun i=>if 0≤i∧i<1000 then some (.str (Qc (toString i))) else none
 else if f==QE2 then (one args).bind fun x=>(asL x).bind fun xs=>(QB3 xs).bind fun is=>if is.length<64 then some (.list ((sortI is).map .int)) else none
 else none
noncomputable def QD6:List D→Option (List Str)
 |[]=>some []
 | .str x::r=>(QD6 r).map (x:: ·)
 |_=>none
noncomputable def QCQ(xs:List Str):Str:=⟨(xs.flatMap fun x=>x.cps.toList).toArray⟩
noncomputable def asc(b:Array UInt8):Str:=⟨b.map fun x=>x.toNat⟩
noncomputable def QDG(m:Str)(o:D)(args:List D):Option D:=
 if m==QKm then (asS o).bind fun e=>(one args).bind fun x=>(asL x).bind fun xs=>if e.cps.size=0 then (QD6 xs).bind fun ss=>if ss.length≤1000∧(QCQ ss).length≤1000 then some (.str (QCQ ss)) else none else none
 else if m==QHV then (asS o).bind fun x=>(one args).bind fun y=>(asS y).bind fun c=>if c==QBk∧x.cps.size≤1000∧(x.cps.toList.all fun k=>decide (k<128))=true then some (.bytes (x.cps.map fun k=>UInt8.ofNat k)) else none
 else if m==QGt then (asB o).bind fun b=>(one args).bind fun y=>(asS y).bind fun c=>if c==QBk∧0<b.size∧b.size≤1000∧(b.toList.all fun k=>decide (k<128))=true then some (.str (asc b)) else none
 else if m==QD9 then (asB o).bind fun b=>(one args).bind fun y=>(asB y).bind fun t=>if t.size=256∧b.size≤1000 then some (.bytes (b.map fun k=>t.getD k.toNat 0)) else none
 else if m==QIt then (asL o).bind fun xs=>(one args).bind fun y=>(asI y).bind fun i=>(QB3 xs).map fun l=> .int (l.count i)
 else none
noncomputable def plainName(x:Str):Bool:=(x==("__debug__":Str))==false&&(x==("__classdict__":Str))==false
noncomputable def QFM:Expr→Bool
 | .Call (.Name _ _) as _ _=> !as.isEmpty
 |_=>true
structure PE where
 sc:List (Str×NameKind)
 vs:List (Str×D)
noncomputable def PE.kind(ρ:PE)(x:Str):Option NameKind:=ρ.sc.lookup x
noncomputable def PE.get(ρ:PE)(x:Str):Option D:=ρ.vs.lookup x
noncomputable abbrev QBR:=List D→List (Str×D)→D→Prop
noncomputable abbrev QC9:=Str→Option QBR
noncomputable abbrev QCl:=Str→Option D
noncomputable def QNw:Const→Option D
 | .none=>some .none
 | .bool b=>some (.bool b)
 | .int i=>some (.int i)
 | .str x=>some (.str x)
 | .bytes b=>some (.bytes b.toArray)
 |_=>none
noncomputable def QAh:List Expr→Bool
 |[]=>true
 | .Starred .. ::_=>false
 |_::r=>QAh r
noncomputable def QFF:List Keyword→Option (List Str)
 |[]=>some []
 |⟨some x,_,_⟩::r=>(QFF r).map (x:: ·)
 |_=>none
noncomputable def QAj:List Expr→Option (List Str)
 |[]=>some []
 | .Name x _::r=>(QAj r).map (x:: ·)
 |_=>none
noncomputable def QAe:Expr→D→Option (List (Str×D))
 | .Name x _,d=>some [(x,d)]
 | .Tuple es _ _,.tup ds=>match QAj es with
  |some xs=>if xs.length=ds.length∧xs.Nodup then some (xs.zip ds) else none
  |none=>none
 | .Tuple es _ _,.inst _ ds=>match QAj es with
  |some xs=>if xs.length=ds.length∧xs.Nodup then some (xs.zip ds) else none
  |none=>none
 |_,_=>none
noncomputable def targetNames:Expr→List Str
 | .Name x _=>[x]
 | .Tuple es _ _=>(QAj es).getD []
 |_=>[]
noncomputable def QFI(ρ:PE)(ns:List (Str×NameKind)):List (Str×NameKind):=ns.map fun (n,k)=>if (k== .free&&ρ.kind n==some .cell) then (n,.cell) else (n,k)
noncomputable def QJT(ρ:PE)(scope:Scope)(target:Expr):Bool:=
 decide (scope.kind= .function)&&(scope.names.all fun p=>decide (p.2≠ .cell))&&
 (scope.names.all fun p=>decide (p.2= .local→scope.names.lookup p.1=some .local))&&
 (scope.names.all fun p=>decide (p.2= .free→ρ.kind p.1=some .cell∨ρ.kind p.1=some .free))&&
 (targetNames target).all fun x=>decide (scope.names.lookup x=some .local)
noncomputable def QBL(ρ:PE)(scope:Scope)(bs:List (Str×D)):PE:=
 {sc:=QFI ρ scope.names,vs:=bs++ρ.vs.filter fun p=>scope.names.lookup p.1==some .free}
noncomputable def QCR(k:Int):List D→List D
 |[]=>[]
 |d::r=> .tup [.int k,d]::QCR (k+1) r
noncomputable def QCA(a:Int):Nat→List D
 |0=>[]
 |n+1=> .int a::QCA (a+1) n
noncomputable def QF5:List D→List D→List D
 |a::r,b::t=> .tup [a,b]::QF5 r t
 |_,_=>[]
noncomputable def QE5:Expr→Bool
 | .Tuple es _ _=>match QAj es with
  |some [x,y]=>x !=y
  |_=>false
 |_=>false
noncomputable def isName:Expr→Bool
 | .Name .. =>true
 |_=>false
noncomputable def QFJ:Expr→Option Nat
 | .Tuple es _ _=>match QAj es with
  |some xs=>if xs.Nodup then some xs.length else none
  |none=>none
 |_=>none
noncomputable def QDF(k:Nat):List D→Bool
 |[]=>true
 | .inst c xs::r=>c==166&&xs.length==k&&QDF k r
 |_=>false
noncomputable def QBg:List D→List D→Option (List (Int×D))
 |[],[]=>some []
 | .int k::r,d::t=>(QBg r t).map ((k,d):: ·)
 |_,_=>none
noncomputable def dictPut(k:Int)(d:D):List (Int×D)→List (Int×D)
 |[]=>[(k,d)]
 |(k',d')::r=>if k'=k then (k,d)::r else (k',d')::dictPut k d r
noncomputable def dictFrom(l:List (Int×D)):List (Int×D):=l.foldl (fun m p=>dictPut p.1 p.2 m) []
section
variable {prog:QV}{w:QX}{A:QT}{E:QS→QR→Prop}{s:QR}{g:Fz}
theorem QGP{a:Int}(h1: -big<a)(h2:a<big):a.natAbs<2^200:=by unfold big at h1 h2;omega
theorem QHD{a:Int}(h1: -big<a)(h2:a<big):Builtin.Int.intBits a≤200:=intBits_le (QGP h1 h2)
theorem QAb:100000≤sizeLine:=by decide
theorem QMo{l b:QW}{vs ws:Array QS}{Q:QS→QR→Prop}(hl:s.heap.IsList l vs)(hb:s.heap.IsList b ws)
  (h:Q (.ref s.heap.objs.size) {s with heap:=s.heap.push {cls:= .type "list",data:= .seq (vs++ws)}})
  (hsz:vs.size+ws.size≤sizeLine):Qa (model prog w) A (binaryOp .Add (.ref l) (.ref b)) Q E s:=by
 refine QFw (id hl) fun ζ0 ho hc n hd=>?_
 obtain ⟨cls,dd,data,sl⟩:=ζ0
 refine QFw (id hb) fun ζ0 ho2 hc2 n2 hd2=>?_
 obtain ⟨cls2,dd2,data2,sl2⟩:=ζ0
 simp only at hc hd hc2 hd2
 subst hc hd hc2 hd2
 exact concat_meets ⟨_,ho,rfl⟩ ⟨_,ho2,rfl⟩ noFill_list_add seq_list_add PySem.F.slot_list_add PySem.F.entry_list_add (PySem.F.args_list_add_2 _ _) (list_addW l b vs ws n n2 dd dd2 sl sl2 hsz) ⟨ho,ho2,h⟩
theorem QAm(h:Heap)(o:Obj):HLe h (h.push o):= .of fun _ _ e=>Heap.get?_push_of_some _ e
theorem QAp(h:Heap):h.get? h.objs.size=none:=by
 cases q:h.get? h.objs.size with
 |none=>rfl
 |some o=>exact absurd (Heap.lt_size q) (Nat.lt_irrefl _)
theorem QLn(x:Str)(n:Nat):(⟨(List.replicate n x.cps).foldl (· ++ ·) #[]⟩:Str).length=n*x.length:=by
 show ((List.replicate n x.cps).foldl (· ++ ·) #[]).size=n*x.cps.size
 have key:∀(k:Nat) (b:Array Nat),((List.replicate k x.cps).foldl (· ++ ·) b).size=b.size+k*x.cps.size:=by
  intro k
  induction k with
  |zero=>intro b;simp
  |succ k ih=>intro b;rw [List.replicate_succ,List.foldl_cons,ih,Array.size_append,Nat.succ_mul];exact Qk (zn0 [_,_,_] 1 (.a (.a (.v 0) (.v 1)) (.v 2)) (.a (.v 0) (.a (.v 2) (.v 1))) rfl) (zn0 [_,_,_] 1 (.a (.v 0) (.a (.v 1) (.v 2))) (.a (.a (.v 0) (.v 2)) (.v 1)) rfl)
 rw [key];simp
theorem QIN{z:Str}(hz:(z.length==0)=true):z=⟨#[]⟩:=by
 obtain ⟨c⟩:=z
 exact congrArg Str.mk (Array.eq_empty_of_size_eq_zero (eq_of_beq hz))
theorem QOC{x y:Str}{t u:Tok}{Q:QS→QR→Prop}(hb:x.length≤1000∧y.length≤1000)(fi:FIn g s.heap)
  (k:∀g' s' v,Ext g s g' s'→Den g' v (.str (x++y))→Q v s'):Qa (model prog w) A (binaryOp .Add (.str x t) (.str y u)) Q E s:=by
 refine P.add_str ?_
 by_cases hx:(x.length==0)=true
 ·rw [if_pos hx]
  refine k _ _ _ (.refl fi) ?_
  have:x++y=y:=by rw [QIN hx];exact Str.ext' (by rw [Str.cps_append];simp)
  rw [this];exact .str _ _
 ·rw [if_neg hx]
  by_cases hy:(y.length==0)=true
  ·rw [if_pos hy]
   refine k _ _ _ (.refl fi) ?_
   have:x++y=x:=by rw [QIN hy];exact Str.ext' (by rw [Str.cps_append];simp)
   rw [this];exact .str _ _
  ·rw [if_neg hy]
   refine ⟨?_,k _ _ _ (.tok fi) (.str _ _)⟩
   have:=QAb
   rw [Str.length_append];exact zn3 [_,_,_] 1 (.a (.v 0) (.v 1)) (.v 2) 1 (.v 0) (.n 1000) 1 (.v 1) (.n 1000) 1 (.n 100000) (.v 2) rfl hb.1 hb.2 this
set_option tactic.hygienic true in
theorem QNe{x:Str}{n:Int}{t u:Tok}{Q:QS→QR→Prop}(hb:x.length=1∧0≤n∧n≤1000)(fi:FIn g s.heap)
  (k:∀g' s' v,Ext g s g' s'→Den g' v (.str ⟨(List.replicate n.toNat x.cps).foldl (· ++ ·) #[]⟩)→Q v s'):Qa (model prog w) A (binaryOp .Mult (.str x t) (.int n u)) Q E s:=by
 have hsl:=QAb
 have n1:¬n< -(2^63:Int):=by omega
 have n2:¬n≥2^63:=by omega
 refine P.mul_str (by rw [decide_eq_false n1,decide_eq_false n2];rfl) (fun h1 _=>?_) (fun _ _=>?_) ?_
 ·rw [hb.1]
  have:(1:Int)≤(2^63-1)/n:=by rw [Int.le_ediv_iff_mul_le (by exact zi1 [_] 1 (.a (.n 0) (.n 1)) (.v 0) 1 (.n 1) (.v 0) rfl (QAN.mp h1))];exact zi1 [_,_] 1 (.m 1 (.v 0)) (.s (.v 1) (.n 1)) 1 (.a (.v 0) (.n 1)) (.v 1) rfl (QAP.mp n2)
  omega
 ·rw [hb.1]
  simp [Str.tooLong]
  exact zi2 [_,_] 1 (.v 0) (.v 1) 1 (.v 0) (.n 1000) 1 (.n 100000) (.v 1) rfl hb.2.2 (QAE.mpr hsl)
 ·split
  ·have e:n.toNat=0:=by omega
   rw [e] at k
   refine ⟨?_,k _ _ _ (.tok fi) (.str _ _)⟩
   exact Ql _
  ·split
   ·rename_i h3 h4
    have h5:(x.length==0)=false:=by rw [hb.1];rfl
    rw [h5,Bool.or_false,beq_iff_eq] at h4
    subst h4
    have e:(⟨(List.replicate (1:Int).toNat x.cps).foldl (· ++ ·) #[]⟩:Str)=x:=Str.ext' (by simp)
    rw [e] at k
    exact k _ _ _ (.refl fi) (.str _ _)
   ·refine ⟨?_,k _ _ _ (.tok fi) (.str _ _)⟩
    rw [QLn,hb.1]
    omega
theorem QAV{α:Type}{a:α}{P:Prop}(h:Option.none=some a):P:=nomatch h
theorem QBT{α:Type}{l:List α}{a:α}(h:one l=some a):l=[a]:=by
 cases l with
 |nil=>exact QAV h
 |cons a t=>cases t with
  |nil=>cases h;rfl
  |cons=>exact QAV h
theorem QG0{α:Type}{l:List α}{a:α×α}(h:two l=some a):l=[a.1,a.2]:=by
 cases l with
 |nil=>exact QAV h
 |cons a t=>cases t with
  |nil=>exact QAV h
  |cons b t=>cases t with
   |nil=>cases h;rfl
   |cons=>exact QAV h
theorem QEk{d:D}{xs:List D}(h:asL d=some xs):d= .list xs:=by cases d<;>first|exact QAV h|(cases h;rfl)
theorem QFi{d:D}{i:Int}(h:asI d=some i):d= .int i:=by cases d<;>first|exact QAV h|(cases h;rfl)
theorem QIn{d:D}{i:Str}(h:asS d=some i):d= .str i:=by cases d<;>first|exact QAV h|(cases h;rfl)
theorem QLD{d:D}{i:Array UInt8}(h:asB d=some i):d= .bytes i:=by cases d<;>first|exact QAV h|(cases h;rfl)
theorem un{α β:Type}{o:Option α}{f:α→Option β}{d:β}{X:Prop}(h:o.bind f=some d)(k:∀a,o=some a→f a=some d→X):X:=oEA (Option.bind_eq_some_iff.mp h) k
theorem QF1{α:Type}{c:Prop}{_:Decidable c}{a b:Option α}{d:α}{X:Prop}(h:(if c then a else b)=some d)(k:c→a=some d→X)(k2:b=some d→X):X:=by
 by_cases q:c
 ·rw [if_pos q] at h;exact k q h
 ·rw [if_neg q] at h;exact k2 h
theorem QAn{α:Type}{c:Prop}[Decidable c]{a d:α}(h:(if c then some a else none)=some d):c∧a=d:=by
 by_cases q:c
 ·rw [if_pos q] at h;exact ⟨q,Option.some.inj h⟩
 ·rw [if_neg q] at h;exact QAV h
inductive QEl:Operator→D→D→D→Prop
 |addI (a b:Int):QEl .Add (.int a) (.int b) (.int (a+b))
 |subI (a b:Int):QEl .Sub (.int a) (.int b) (.int (a-b))
 |subB (a b:Bool):QEl .Sub (.bool a) (.bool b) (.int (b2i a-b2i b))
 |mulI {a b:Int} (c: -big<a∧a<big∧-big<b∧b<big):QEl .Mult (.int a) (.int b) (.int (a*b))
 |divI {a b:Int} (c:b≠0∧-big<b∧b<big):QEl .FloorDiv (.int a) (.int b) (.int (a.fdiv b))
 |modI {a b:Int} (c:b≠0):QEl .Mod (.int a) (.int b) (.int (a.fmod b))
 |powI {a b:Int} (c:0≤b∧b≤64∧0≤a∧a≤256):QEl .Pow (.int a) (.int b) (.int (a^b.toNat))
 |shlI {a b:Int} (c:0≤b∧b≤64∧0≤a∧a<big):QEl .LShift (.int a) (.int b) (.int (a*2^b.toNat))
 |shrI {a b:Int} (c:0≤b∧b≤64):QEl .RShift (.int a) (.int b) (.int (a.fdiv (2^b.toNat)))
 |andI (a b:Int):QEl .BitAnd (.int a) (.int b) (.int (Builtin.bitAnd a b))
 |orI (a b:Int):QEl .BitOr (.int a) (.int b) (.int (Builtin.bitOr a b))
 |addS {a b:Str} (c:a.length≤1000∧b.length≤1000):QEl .Add (.str a) (.str b) (.str (a++b))
 |addL {a b:List D} (c:a.length≤1000∧b.length≤1000):QEl .Add (.list a) (.list b) (.list (a++b))
 |mulS {a:Str} {b:Int} (c:a.length=1∧0≤b∧b≤1000):QEl .Mult (.str a) (.int b) (.str ⟨(List.replicate b.toNat a.cps).foldl (· ++ ·) #[]⟩)
theorem QSM{op:Operator}{a b d:D}(h:QB1 op a b=some d):QEl op a b d:=by
 cases a<;>first|exact QAV h|(cases b<;>first|exact QAV h|(cases op<;>first
  |exact QAV h
  |(cases h;first|exact .addI _ _|exact .subI _ _|exact .subB _ _|exact .andI _ _|exact .orI _ _)
  |((refine oA (QAn h) fun c ζ1=>?_;subst ζ1);first|exact .mulI c|exact .divI c|exact .modI c|exact .powI c|exact .shlI c|exact .shrI c|exact .addS c|exact .addL c|exact .mulS c)))
theorem QS8{op:Operator}{a b d:D}{v1 v2:QS}{Q:QS→QR→Prop}(h:QB1 op a b=some d)(h1:Den g v1 a)(h2:Den g v2 b)(fi:FIn g s.heap)
  (k:∀g' s' v,Ext g s g' s'→Den g' v d→Q v s'):Qa (model prog w) A (binaryOp op v1 v2) Q E s:=by
 replace h1:=h1.out
 replace h2:=h2.out
 have hR:=QSM h
 clear h
 induction hR with
 |addI a b=>(revert h1;refine rE fun _ ζ1=>?_;subst ζ1);(revert h2;refine rE fun _ ζ1=>?_;subst ζ1);exact P.add_int (k _ _ _ (.tok fi) (.int _ _))
 |subI a b=>(revert h1;refine rE fun _ ζ1=>?_;subst ζ1);(revert h2;refine rE fun _ ζ1=>?_;subst ζ1);exact P.sub_int (k _ _ _ (.tok fi) (.int _ _))
 |subB a b=>cases h1;cases h2;exact sub_bool (k _ _ _ (.tok fi) (.int _ _))
 |mulI hb=>
   have b1:=QHD hb.1 hb.2.1
   have b2:=QHD hb.2.2.1 hb.2.2.2
   revert h1;refine rE fun _ ζ1=>?_;subst ζ1;(revert h2;refine rE fun _ ζ1=>?_;subst ζ1);refine P.mul_int (k _ _ _ (.tok fi) (.int _ _)) ?_
   unfold IntMulOk Builtin.Int.intTooBig bitsLine
   intro hx
   have:=of_decide_eq_true (Bool.and_eq_true_iff.mp hx).2
   omega
 |divI hb=>
   have b2:=QGP hb.2.1 hb.2.2
   revert h1;refine rE fun _ ζ1=>?_;subst ζ1;(revert h2;refine rE fun _ ζ1=>?_;subst ζ1);exact floordiv_int hb.1 (k _ _ _ (.tok fi) (.int _ _)) (.inl (PyProof.noPylong_of_log2 (Nat.lt_trans ((Nat.log2_lt (Int.natAbs_ne_zero.mpr hb.1)).mpr b2) (by decide))))
 |modI hb=>(revert h1;refine rE fun _ ζ1=>?_;subst ζ1);(revert h2;refine rE fun _ ζ1=>?_;subst ζ1);exact mod_int' hb (k _ _ _ (.tok fi) (.int _ _))
 |powI hb=>(revert h1;refine rE fun _ ζ1=>?_;subst ζ1);(revert h2;refine rE fun _ ζ1=>?_;subst ζ1);exact pow_int_small hb.1 (by exact zi1 [_] 1 (.v 0) (.n 1000000) 1 (.v 0) (.n 64) rfl hb.2.1) (by omega) (k _ _ _ (.tok fi) (.int _ _))
 |shlI hb=>
   have b1:=QHD (a:=_) (QAK (by decide: -big<0) hb.2.2.1) hb.2.2.2
   revert h1;refine rE fun _ ζ1=>?_;subst ζ1;(revert h2;refine rE fun _ ζ1=>?_;subst ζ1);refine lshift_int hb.1 ?_ (k _ _ _ (.tok fi) (.int _ _))
   omega
 |shrI hb=>(revert h1;refine rE fun _ ζ1=>?_;subst ζ1);(revert h2;refine rE fun _ ζ1=>?_;subst ζ1);exact rshift_int hb.1 (k _ _ _ (.tok fi) (.int _ _))
 |andI a b=>(revert h1;refine rE fun _ ζ1=>?_;subst ζ1);(revert h2;refine rE fun _ ζ1=>?_;subst ζ1);exact and_int (k _ _ _ (.tok fi) (.int _ _))
 |orI a b=>(revert h1;refine rE fun _ ζ1=>?_;subst ζ1);(revert h2;refine rE fun _ ζ1=>?_;subst ζ1);exact or_int (k _ _ _ (.tok fi) (.int _ _))
 |addS hb=>(revert h1;refine rE fun _ ζ1=>?_;subst ζ1);(revert h2;refine rE fun _ ζ1=>?_;subst ζ1);exact QOC hb fi k
 |addL hb=>
   apply QBG h1;intro a1 ob1 vs1 n1 o1 c1 d1 l1
   apply QBG h2;intro a2 ob2 vs2 n2 o2 c2 d2 l2
   have e1:=l1.length
   have e2:=l2.length
   rw [Array.length_toList] at e1 e2
   refine QMo ⟨_,fi.sq o1 d1,c1.1,_,d1⟩ ⟨_,fi.sq o2 d2,c2.1,_,d2⟩ ?_ (by have:=QAb;omega)
   have x:=Ext.add (g:=g) (tk:=s.toks) fi (QAm s.heap _) (QAp s.heap) (Heap.get?_push_size (o:={cls:= .type "list",data:= .seq (vs1++vs2)}) s.heap rfl)
   refine k _ _ _ x (.list (Fz.add_self _ _ _) ⟨rfl,rfl,rfl⟩ rfl ?_)
   rw [Array.toList_append]
   exact (l1.append l2).mono x.le
 |mulS hb=>(revert h1;refine rE fun _ ζ1=>?_;subst ζ1);(revert h2;refine rE fun _ ζ1=>?_;subst ζ1);exact QNe hb fi k
end
theorem QHo:∀a b:List UInt8,(Bytes.order a b== .lt)=bLt a b
 |[],[]|[],_::_|_::_,[]=>rfl
 |x::a,y::b=>by
  unfold Bytes.order bLt
  by_cases h1:x<y
  ·simp [h1]
  ·by_cases h2:y<x
   ·simp [h1,h2]
   ·simp [h1,h2,QHo a b]
theorem QIL:∀a b:List UInt8,(Bytes.order a b== .gt)=bLt b a
 |[],[]|[],_::_|_::_,[]=>rfl
 |x::a,y::b=>by
  unfold Bytes.order bLt
  by_cases h1:x<y
  ·have:¬y<x:=fun h=>absurd (UInt8.lt_trans h1 h) (UInt8.lt_irrefl _)
   simp [h1,this]
  ·by_cases h2:y<x
   ·simp [h1,h2]
   ·simp [h1,h2,QIL a b]
theorem QEj(b c:Array UInt8)(t u:Tok):Gives («bytes.__lt__» ⟨[.bytes b t,.bytes c u],[]⟩) (.val (.bool (bLt b.toList c.toList))):=by
 refine .of_wp fun M A E s Q hq=>?_
 show Qa M A (isInstance (.bytes c u) (.type "bytes")>>=fun r=>_) _ E s
 refine QB (wpAny_isInstance (typeIs_bytes s c u) F.sub_bytes_bytes ?_)
 exact QC ⟨_,rfl,by rw [←QHo] at hq;exact hq⟩
theorem QEr(b c:Array UInt8)(t u:Tok):Gives («bytes.__gt__» ⟨[.bytes b t,.bytes c u],[]⟩) (.val (.bool (bLt c.toList b.toList))):=by
 refine .of_wp fun M A E s Q hq=>?_
 show Qa M A (isInstance (.bytes c u) (.type "bytes")>>=fun r=>_) _ E s
 refine QB (wpAny_isInstance (typeIs_bytes s c u) F.sub_bytes_bytes ?_)
 exact QC ⟨_,rfl,by rw [←QIL] at hq;exact hq⟩
theorem QHb:Slot "bytes" (cmpInfo .Lt).2.1 "bytes.__lt__":=
 .of (owner:="bytes") (n:="__lt__") (by rw [typeLookup_type,builtinLookup_eq_fast];kernel_rfl) (by decide+kernel) (by decide+kernel) (by decide+kernel)
  (by first|exact .inl (by decide+kernel)|exact .inr (by decide+kernel)) (by rw [isSubtype_type];kernel_rfl)
theorem QG2:entryFor table "bytes.__lt__"=some Builtin.«bytes.__lt__»:=entryFor_of_tree (by kernel_rfl)
theorem QF3(a b:QS):argsOk "bytes.__lt__" ⟨[a,b],[]⟩:=by
 unfold argsOk;rw [signature?_of (id:="bytes.__lt__") (n:=['_','_','t','l','_','_']) (o:=['s','e','t','y','b']) (by kernel_rfl) FB.owner_bytes];kernel_rfl
theorem QHZ:Slot "bytes" (cmpInfo .Gt).2.1 "bytes.__gt__":=
 .of (owner:="bytes") (n:="__gt__") (by rw [typeLookup_type,builtinLookup_eq_fast];kernel_rfl) (by decide+kernel) (by decide+kernel) (by decide+kernel)
  (by first|exact .inl (by decide+kernel)|exact .inr (by decide+kernel)) (by rw [isSubtype_type];kernel_rfl)
theorem QG8:entryFor table "bytes.__gt__"=some Builtin.«bytes.__gt__»:=entryFor_of_tree (by kernel_rfl)
theorem QF6(a b:QS):argsOk "bytes.__gt__" ⟨[a,b],[]⟩:=by
 unfold argsOk;rw [signature?_of (id:="bytes.__gt__") (n:=['_','_','t','g','_','_']) (o:=['s','e','t','y','b']) (by kernel_rfl) FB.owner_bytes];kernel_rfl
inductive EqR (n:Nat):D→D→Bool→Prop
 |none:EqR n .none .none true
 |bool (a b:Bool):EqR n (.bool a) (.bool b) (a==b)
 |int (a b:Int):EqR n (.int a) (.int b) (a==b)
 |str (a b:Str):EqR n (.str a) (.str b) (a==b)
 |bytes (a b:Array UInt8):EqR n (.bytes a) (.bytes b) (a==b)
 |list {xs ys:List D} {r:Bool} (hl:xs.length=ys.length) (h:all2 (dEq n) xs ys=some r):EqR n (.list xs) (.list ys) r
 |listNe {xs ys:List D} (hl:xs.length≠ys.length):EqR n (.list xs) (.list ys) false
 |tup {xs ys:List D} {r:Bool} (hl:xs.length=ys.length) (h:all2 (dEq n) xs ys=some r):EqR n (.tup xs) (.tup ys) r
set_option tactic.hygienic true in
theorem QOa{n:Nat}{a b:D}{r:Bool}(h:dEq (n+1) a b=some r):EqR n a b r:=by
 cases a<;>first|exact QAV h|(cases b<;>first|exact QAV h|(cases h;first|exact .none|exact .bool _ _|exact .int _ _|exact .str _ _|exact .bytes _ _)|skip)
 ·rename_i xs ys
  have h:(if xs.length=ys.length then all2 (dEq n) xs ys else some false)=some r:=h
  by_cases q:xs.length=ys.length
  ·rw [if_pos q] at h;exact .list q h
  ·rw [if_neg q] at h;cases h;exact .listNe q
 ·rename_i xs ys
  have h:(if xs.length=ys.length then all2 (dEq n) xs ys else none)=some r:=h
  by_cases q:xs.length=ys.length
  ·rw [if_pos q] at h;exact .tup q h
  ·rw [if_neg q] at h;exact QAV h
set_option tactic.hygienic true in
theorem QH2{f:D→D→Option Bool}{xs ys:List D}{r:Bool}(h:all2 f xs ys=some r):match xs,ys with
  |[],[]=>r=true
  |x::xs,y::ys=>∃a b,f x y=some a∧all2 f xs ys=some b∧r=(a&&b)
  |_,_=>False:=by
 cases xs<;>cases ys
 ·exact (Option.some.inj h).symm
 ·exact QAV h
 ·exact QAV h
 ·rename_i x xs y ys
  have h:(match f x y with
   |none=>none
   |some a=>match all2 f xs ys with
    |none=>none
    |some b=>some (a&&b))=some r:=h
  cases q:f x y with
  |none=>rw [q] at h;exact QAV h
  |some a=>
   rw [q] at h
   skip
   cases q2:all2 f xs ys with
   |none=>rw [q2] at h;exact QAV h
   |some b=>rw [q2] at h;exact ⟨a,b,q,q2,(Option.some.inj h).symm⟩
theorem QOK{f:D→D→Option Bool}:∀{xs ys:List D} {r:Bool},all2 f xs ys=some r→xs.length=ys.length∧∃e:Nat→Bool,r=(List.range xs.length).all e∧∀(j:Nat) (x y:D),xs[j]? =some x→ys[j]? =some y→f x y=some (e j):=by
 intro xs
 induction xs with
 |nil=>
  intro ys r h
  cases ys with
  |nil=>cases h;exact ⟨rfl,fun _=>true,rfl,fun j x y h=>QAV h⟩
  |cons y ys=>exact QAV h
 |cons x xs ih=>
  intro ys r h
  cases ys with
  |nil=>exact QAV h
  |cons y ys=>
   refine QBO (QH2 h) fun a b q q2 ζ4=>?_
   subst ζ4
   refine QE0 (ih q2) fun hl e ζ2 he=>?_
   subst ζ2
   refine ⟨congrArg (· +1) hl,fun j=>Nat.casesOn j a e,?_,?_⟩
   ·rw [Qz,List.range_succ_eq_map,List.all_cons,List.all_map]
    rfl
   ·intro j x' y' hx hy
    cases j with
    |zero=>cases hx;cases hy;exact q
    |succ j=>exact he j x' y' hx hy
theorem QHJ{f:D→D→Option Bool}{g:Fz}(hf:∀{v:QS} {d e:D} {r:Bool},f d e=some r→Den g v d→Den g v e→r=true):∀{xs ys:List D} {vs:List QS} {r:Bool},all2 f xs ys=some r→DenL g vs xs→DenL g vs ys→r=true:=by
 intro xs
 induction xs with
 |nil=>intro ys vs r h _ _;cases ys with
  |nil=>exact (Option.some.inj h).symm
  |cons y ys=>exact QAV h
 |cons x xs ih=>
  intro ys vs r h h1 h2
  cases ys with
  |nil=>exact QAV h
  |cons y ys=>
   refine QBO (QH2 h) fun a b q q2 ζ4=>?_
   subst ζ4
   refine QBO h1.out fun v us ζ2 a1 b1=>?_
   subst ζ2
   refine QBO h2.out fun v' us' e a2 b2=>?_
   cases e
   rw [hf q a1 a2,ih q2 b1 b2];rfl
theorem Den.same{g:Fz}:∀(n:Nat) {v:QS} {d e:D} {r:Bool},dEq n d e=some r→Den g v d→Den g v e→r=true:=by
 intro n
 induction n with
 |zero=>intro _ _ _ _ h;exact QAV h
 |succ n ih=>
  intro v d e r h h1 h2
  have hR:=QOa h
  clear h
  induction hR with
  |none=>rfl
  |bool a b=>rw [h1.out] at h2;cases h2.out;exact beq_self_eq_true _
  |int a b=>(refine oE h1.out fun t ζ1=>?_;subst ζ1);refine oE h2.out fun u e=>?_;cases e;exact beq_self_eq_true _
  |str a b=>(refine oE h1.out fun t ζ1=>?_;subst ζ1);refine oE h2.out fun u e=>?_;cases e;exact beq_self_eq_true _
  |bytes a b=>(refine oE h1.out fun t ζ1=>?_;subst ζ1);refine oE h2.out fun u e=>?_;cases e;exact beq_self_eq_true _
  |list hl hh=>
   refine QA7 h1.out fun _ _ _ _ ζ4 o1 c1 d1 l1=>?_
   subst ζ4
   refine QA7 h2.out fun _ _ _ _ e o2 c2 d2 l2=>?_
   cases e
   rw [o1] at o2;cases o2
   rw [d1] at d2;cases d2
   exact QHJ ih hh l1 l2
  |listNe hl=>
   refine QA7 h1.out fun _ _ _ _ ζ4 o1 c1 d1 l1=>?_
   subst ζ4
   refine QA7 h2.out fun _ _ _ _ e o2 c2 d2 l2=>?_
   cases e
   rw [o1] at o2;cases o2
   rw [d1] at d2;cases d2
   exact absurd (l1.length.symm.trans l2.length) hl
  |tup hl hh=>
   refine QBO h1.out fun _ _ ζ2 o1 l1=>?_
   subst ζ2
   refine QBO h2.out fun _ _ e o2 l2=>?_
   cases e
   rw [o1] at o2;cases o2
   exact QHJ ih hh l1 l2
section
variable {s:QR}{g:Fz}
theorem QHg(a b:Array UInt8)(t u:Tok)(A:QT):RcAt A s (.bytes a t) (.bytes b u) (a==b):=fun prog w E Q h=>by
 have:(a.toList==b.toList)=(a==b):=by
  rw [Bool.eq_iff_iff,beq_iff_eq,beq_iff_eq]
  exact Array.toList_inj
 exact richCompare_gives (typeIs_bytes s a t) (typeIs_bytes s b u) FB.slot_bytes_eq FB.entry_bytes_eq (FB.args_bytes_eq_2 _ _) (gives_bytes_eq a b t u) (by simp [Made.takes]) (by rw [this];exact h)
theorem QLh{A:QT}{v w:QS}{r:Bool}(h:RcAt A s v w r)(hs:v=w→r=true)(hf:∀b t,v≠ .float b t):EqAt A s v w r:=fun prog w' E Q hq=>by
 skip
 refine QF ?_
 refine wpAny_ite_split (fun hab=>?_) (fun _=>?_)
 ·have:=hs (eq_of_beq hab)
  subst this
  exact QB (QQ (QC hq))
 ·cases v<;>first|exact absurd rfl (hf _ _)|exact QB (h prog w' E _ (wpAny_truthy_bool hq))
theorem Den.noFloat{v:QS}{d:D}(h:Den g v d):∀b t,v≠ .float b t:=by cases h<;>(intro b t e;cases e)
theorem QGG(fi:FIn g s.heap){n:Nat}{A:QT}(rc:∀{a b:D} {r:Bool} {v w:QS} {A:QT},dEq n a b=some r→Den g v a→Den g w b→A.units+n<cLine→RcAt A s v w r)(hu:A.units+(n+1)<cLine)
  {vs ws:Array QS} {xs ys:List D} (l1:DenL g vs.toList xs) (l2:DenL g ws.toList ys) {r:Bool} (hr:all2 (dEq n) xs ys=some r):
  vs.size=ws.size∧∃e:Nat→Bool,r=(List.range vs.size).all e∧∀(j:Nat) (h1:j<vs.size) (h2:j<ws.size),EqAt A.in1 s vs[j] ws[j] (e j):=by
 refine QE0 (QOK hr) fun hl e he hj=>?_
 have e1:vs.size=xs.length:=l1.length
 have e2:ws.size=ys.length:=l2.length
 refine ⟨by exact Qk (zn3 [_,_,_,_] 1 (.v 0) (.v 1) 1 (.v 2) (.v 3) 1 (.v 0) (.v 2) 1 (.v 3) (.v 1) rfl (Qe hl) (Qe e1) (Qe e2.symm)) (zn3 [_,_,_,_] 1 (.v 0) (.v 1) 1 (.v 2) (.v 3) 1 (.v 3) (.v 1) 1 (.v 0) (.v 2) rfl (Qe hl.symm) (Qe e1.symm) (Qe e2)),e,by rw [e1];exact he,fun j p1 p2=>?_⟩
 refine oEA (l1.get' (i:=j) (v:=vs[j]) (by simp [p1])) fun x hx dx=>?_
 refine oEA (l2.get' (i:=j) (v:=ws[j]) (by simp [p2])) fun y hy dy=>?_
 have q:=hj j x y hx hy
 refine QLh (rc q dx dy (by simp;exact zn1 [_,_,_] 1 (.a (.a (.a (.v 0) (.n 1)) (.v 1)) (.n 1)) (.v 2) 1 (.a (.a (.v 0) (.a (.v 1) (.n 1))) (.n 1)) (.v 2) rfl hu)) (fun hvw=>?_) dx.noFloat
 rw [hvw] at dx
 exact Den.same _ q dx dy
theorem QR2(fi:FIn g s.heap):∀(n:Nat) {a b:D} {r:Bool} {v w:QS} {A:QT},dEq n a b=some r→Den g v a→Den g w b→A.units+n<cLine→RcAt A s v w r:=by
 intro n
 induction n with
 |zero=>intro _ _ _ _ _ _ h;exact QAV h
 |succ n ih=>
  intro a b r v w A h h1 h2 hu
  have hR:=QOa h
  clear h
  induction hR with
  |none=>rw [h1.out,h2.out];exact RcAt.none_none
  |bool a b=>rw [h1.out,h2.out];exact RcAt.bool_bool _ _
  |int a b=>(refine oE h1.out fun t ζ1=>?_;subst ζ1);(refine oE h2.out fun u ζ1=>?_;subst ζ1);exact RcAt.int_int _ _ _ _
  |str a b=>(refine oE h1.out fun t ζ1=>?_;subst ζ1);(refine oE h2.out fun u ζ1=>?_;subst ζ1);exact RcAt.str_str _ _ _ _
  |bytes a b=>(refine oE h1.out fun t ζ1=>?_;subst ζ1);(refine oE h2.out fun u ζ1=>?_;subst ζ1);exact QHg _ _ _ _ _
  |list hl hh=>
   apply QBG h1.out;intro _ _ _ _ o1 c1 d1 l1
   apply QBG h2.out;intro _ _ _ _ o2 c2 d2 l2
   refine QE0 (QGG fi ih hu l1 l2 hh) fun hz e ζ2 he=>?_
   subst ζ2
   exact RcAt.lists ⟨_,fi.sq o1 d1,c1.1,_,d1⟩ ⟨_,fi.sq o2 d2,c2.1,_,d2⟩ hz (Qj (Qg _ _) hu) he
  |listNe hl=>
   apply QBG h1.out;intro _ _ _ _ o1 c1 d1 l1
   apply QBG h2.out;intro _ _ _ _ o2 c2 d2 l2
   exact RcAt.lists_lengths ⟨_,fi.sq o1 d1,c1.1,_,d1⟩ ⟨_,fi.sq o2 d2,c2.1,_,d2⟩ (bne_iff_ne.mpr fun e=>hl (l1.length.symm.trans (e.trans l2.length))) (Qj (Qg _ _) hu)
  |tup hl hh=>
   apply QCh h1.out;intro _ _ o1 l1
   apply QCh h2.out;intro _ _ o2 l2
   refine QE0 (QGG fi ih hu l1 l2 hh) fun hz e ζ2 he=>?_
   subst ζ2
   have:=RcAt.tuples (A:=A) (s:=s) ⟨_,fi.sq o1 rfl,rfl,_,rfl⟩ ⟨_,fi.sq o2 rfl,rfl,_,rfl⟩ (Qj (Qg _ _) hu) he
   rw [←hz,Nat.min_self,beq_self_eq_true,Bool.and_true] at this
   exact this
theorem QNL(a b:Array UInt8)(t u:Tok)(A:QT):RcNeAt A s (.bytes a t) (.bytes b u) (!(a==b)):=fun prog w E Q h=>by
 have:(a.toList !=b.toList)= !(a==b):=by
  have:(a.toList==b.toList)=(a==b):=by
   rw [Bool.eq_iff_iff,beq_iff_eq,beq_iff_eq]
   exact Array.toList_inj
  rw [bne,this]
 exact richCompare_gives (typeIs_bytes s a t) (typeIs_bytes s b u) FB.slot_bytes_ne FB.entry_bytes_ne (FB.args_bytes_ne_2 _ _) (gives_bytes_ne a b t u) (by simp [Made.takes]) (by rw [this];exact h)
theorem QTj(fi:FIn g s.heap)(n:Nat){a b:D}{r:Bool}{v w:QS}{A:QT}(h:dEq (n+1) a b=some r)(h1:Den g v a)(h2:Den g w b)(hu:A.units+(n+1)<cLine):RcNeAt A s v w (!r):=by
  have hR:=QOa h
  clear h
  induction hR with
  |none=>rw [h1.out,h2.out];exact RcNeAt.none_none
  |bool a b=>rw [h1.out,h2.out];exact RcNeAt.bool_bool _ _
  |int a b=>(refine oE h1.out fun t ζ1=>?_;subst ζ1);(refine oE h2.out fun u ζ1=>?_;subst ζ1);exact RcNeAt.int_int _ _ _ _
  |str a b=>(refine oE h1.out fun t ζ1=>?_;subst ζ1);(refine oE h2.out fun u ζ1=>?_;subst ζ1);exact RcNeAt.str_str _ _ _ _
  |bytes a b=>(refine oE h1.out fun t ζ1=>?_;subst ζ1);(refine oE h2.out fun u ζ1=>?_;subst ζ1);exact QNL _ _ _ _ _
  |list hl hh=>
   apply QBG h1.out;intro _ _ _ _ o1 c1 d1 l1
   apply QBG h2.out;intro _ _ _ _ o2 c2 d2 l2
   refine QE0 (QGG fi (QR2 fi n) hu l1 l2 hh) fun hz e ζ2 he=>?_
   subst ζ2
   exact RcNeAt.lists ⟨_,fi.sq o1 d1,c1.1,_,d1⟩ ⟨_,fi.sq o2 d2,c2.1,_,d2⟩ hz (Qj (Qg _ _) hu) he
  |listNe hl=>
   apply QBG h1.out;intro _ _ _ _ o1 c1 d1 l1
   apply QBG h2.out;intro _ _ _ _ o2 c2 d2 l2
   exact RcNeAt.lists_lengths ⟨_,fi.sq o1 d1,c1.1,_,d1⟩ ⟨_,fi.sq o2 d2,c2.1,_,d2⟩ (bne_iff_ne.mpr fun e=>hl (l1.length.symm.trans (e.trans l2.length))) (Qj (Qg _ _) hu)
  |tup hl hh=>
   apply QCh h1.out;intro _ _ o1 l1
   refine QBO h2.out fun _ _ ζ2 o2 l2=>?_
   subst ζ2
   refine QE0 (QGG fi (QR2 fi n) hu l1 l2 hh) fun hz e ζ2 he=>?_
   subst ζ2
   have:=RcNeAt.tuples (A:=A) (s:=s) ⟨_,fi.sq o1 rfl,rfl,_,rfl⟩ ⟨_,fi.sq o2 rfl,rfl,_,rfl⟩ (Qj (Qg _ _) hu) he
   rw [←hz,Nat.min_self,beq_self_eq_true,Bool.and_true] at this
   exact this
end
section
variable {prog:QV}{w:QX}{A:QT}{E:QS→QR→Prop}{s:QR}{g:Fz}
theorem QLV{d:D}{r:List D}{l:List Int}(h:QB3 (d::r)=some l):∃i k,d= .int i∧QB3 r=some k∧l=i::k:=by
 cases d with
 |int i=>
  have h:(QB3 r).map (i:: ·)=some l:=h
  refine oEA (Option.map_eq_some_iff.mp h) fun k q e=>?_
  exact ⟨i,k,rfl,q,e.symm⟩
 |_=>exact QAV h
theorem QDb:∀{ys:List D} {l:List Int},QB3 ys=some l→ys=l.map D.int:=by
 intro ys
 induction ys with
 |nil=>intro l h;cases h;rfl
 |cons d r ih=>intro l h;(refine QBO (QLV h) fun i k ζ2 q ζ4=>?_;subst ζ2;subst ζ4);rw [ih q];rfl
theorem QS5{a:Int}{t:Tok}{ns:List Int}:∀{us:List QS},DenL g us (ns.map D.int)→us.any (fun y=>match y with| .int i _=>i==a|_=>false)=ns.contains a∧∀y∈us,∀(A:QT) (s:QR),EqAt A s y (.int a t) (match y with| .int i _=>i==a|_=>false):=by
 induction ns with
 |nil=>intro us hd;rw [hd.out];exact ⟨rfl,fun y hy=>nomatch hy⟩
 |cons n ns ih=>
  intro us hd
  refine QBO hd.out fun v r ζ2 h1 h2=>?_
  subst ζ2
  refine oE h1.out fun u ζ1=>?_
  subst ζ1
  refine oA (ih h2) fun i1 i2=>?_
  refine ⟨?_,fun y hy A s=>?_⟩
  ·rw [List.any_cons,i1,List.contains_cons,Bool.beq_comm]
  ·rcases Qx.mp hy with rfl|hy
   ·exact EqAt.int_int _ _ _ _
   ·exact i2 y hy A s
theorem QOS{a b:String}{Q:QS→QR→Prop}(k:Q (.bool (a==b)) s):Qa (model prog w) A (compareOp .Is (.type a) (.type b)) Q E s:=by
 have e:isSame (.type a) (.type b)=pure (Value.type a==Value.type b):=by rfl
 have e2:(Value.type a==Value.type b)=(a==b):=by
  rw [Bool.eq_iff_iff,beq_iff_eq,beq_iff_eq,Value.type.injEq]
 show Qa (model prog w) A (do return .bool (←isSame (.type a) (.type b))) Q E s
 rw [e,e2]
 exact QC k
theorem QQV{a:QW}{Q:QS→QR→Prop}(k:Q (.bool true) s):Qa (model prog w) A (compareOp .Is (.ref a) (.ref a)) Q E s:=by
 have e:isSame (.ref a) (.ref a)=pure true:=by
  exact if_pos (beq_self_eq_true a)
 show Qa (model prog w) A (do return .bool (←isSame (.ref a) (.ref a))) Q E s
 rw [e]
 exact QC k
theorem QJK{x:Array UInt8}{t:Tok}{b:QW}{Q:QS→QR→Prop}(k:Q (.bool false) s):Qa (model prog w) A (compareOp .Is (.bytes x t) (.ref b)) Q E s:=by
 have e:isSame (.bytes x t) (.ref b)=pure false:=by rfl
 show Qa (model prog w) A (do return .bool (←isSame (.bytes x t) (.ref b))) Q E s
 rw [e]
 exact QC k
inductive QDf:CmpOp→D→D→Bool→Prop
 |lt (a b:Int):QDf .Lt (.int a) (.int b) (decide (a<b))
 |le (a b:Int):QDf .LtE (.int a) (.int b) (decide (a≤b))
 |gt (a b:Int):QDf .Gt (.int a) (.int b) (decide (a>b))
 |ge (a b:Int):QDf .GtE (.int a) (.int b) (decide (a≥b))
 |ltB (a b:Array UInt8):QDf .Lt (.bytes a) (.bytes b) (bLt a.toList b.toList)
 |gtB (a b:Array UInt8):QDf .Gt (.bytes a) (.bytes b) (bLt b.toList a.toList)
 |isT (a b:String):QDf .Is (.typ a) (.typ b) (a==b)
 |isO (a:QW):QDf .Is (.obj a) (.obj a) true
 |isBO (a:Array UInt8) (b:QW):QDf .Is (.bytes a) (.obj b) false
 |isNN:QDf .Is .none .none true
 |isbN (a:Bool):QDf .Is (.bool a) .none false
 |isSN (a:Str):QDf .Is (.str a) .none false
 |isBN (a:Array UInt8):QDf .Is (.bytes a) .none false
 |ntNN:QDf .IsNot .none .none false
 |ntSN (a:Str):QDf .IsNot (.str a) .none true
 |ntBN (a:Array UInt8):QDf .IsNot (.bytes a) .none true
 |inn (a:Int) (l:List Int):QDf .In (.int a) (.list (l.map D.int)) (l.contains a)
 |nin (a:Int) (l:List Int):QDf .NotIn (.int a) (.list (l.map D.int)) (!l.contains a)
theorem QSB{op:CmpOp}{a b:D}{r:Bool}(h:QO9 op a b=some r):QDf op a b r:=by
 cases a<;>first|exact QAV h|(cases b<;>first|exact QAV h|(cases op<;>first
  |exact QAV h
  |(cases h;first|exact .lt _ _|exact .le _ _|exact .gt _ _|exact .ge _ _|exact .ltB _ _|exact .gtB _ _|exact .isT _ _|exact .isBO _ _|exact .isNN|exact .isbN _|exact .isSN _|exact .isBN _|exact .ntNN|exact .ntSN _|exact .ntBN _)
  |((refine oA (QAn h) fun ζ0 ζ1=>?_;subst ζ0;subst ζ1);exact .isO _)
  |((refine oEA (Option.map_eq_some_iff.mp h) fun l q ζ2=>?_;subst ζ2);rw [QDb q];first|exact .inn _ _|exact .nin _ _)))
theorem QSK{op:CmpOp}{a b:D}{r:Bool}{v1 v2:QS}{Q:QS→QR→Prop}(h:QO9 op a b=some r)(h1:Den g v1 a)(h2:Den g v2 b)(fi:FIn g s.heap)
  (k:Q (.bool r) s):Qa (model prog w) A (compareOp op v1 v2) Q E s:=by
 replace h1:=h1.out
 replace h2:=h2.out
 have hR:=QSB h
 clear h
 induction hR with
 |lt a b=>(revert h1;refine rE fun t ζ1=>?_;subst ζ1);(revert h2;refine rE fun u ζ1=>?_;subst ζ1);exact P.lt_int k
 |le a b=>(revert h1;refine rE fun t ζ1=>?_;subst ζ1);(revert h2;refine rE fun u ζ1=>?_;subst ζ1);exact P.le_int k
 |gt a b=>(revert h1;refine rE fun t ζ1=>?_;subst ζ1);(revert h2;refine rE fun u ζ1=>?_;subst ζ1);exact P.gt_int k
 |ge a b=>(revert h1;refine rE fun t ζ1=>?_;subst ζ1);(revert h2;refine rE fun u ζ1=>?_;subst ζ1);exact P.ge_int k
 |ltB a b=>
  revert h1;refine rE fun t ζ1=>?_;subst ζ1;(revert h2;refine rE fun u ζ1=>?_;subst ζ1)
  exact compareOp_gives (op:= .Lt) (typeIs_bytes s _ _) (typeIs_bytes s _ _) QHb QG2 (QF3 _ _) (QEj _ _ _ _) (fun e=>nomatch e) k
 |gtB a b=>
  revert h1;refine rE fun t ζ1=>?_;subst ζ1;(revert h2;refine rE fun u ζ1=>?_;subst ζ1)
  exact compareOp_gives (op:= .Gt) (typeIs_bytes s _ _) (typeIs_bytes s _ _) QHZ QG8 (QF6 _ _) (QEr _ _ _ _) (fun e=>nomatch e) k
 |isT a b=>cases h1;cases h2;exact QOS k
 |isO a=>cases h1;cases h2;exact QQV k
 |isBO a b=>(apply wE h1;intro t);cases h2;exact QJK k
 |isNN=>cases h1;cases h2;exact is_none k
 |isbN a=>cases h1;cases h2;exact is_none k
 |isSN a=>(apply wE h1;intro t);cases h2;exact is_none k
 |isBN a=>(apply wE h1;intro t);cases h2;exact is_none k
 |ntNN=>cases h1;cases h2;exact isNot_none k
 |ntSN a=>(apply wE h1;intro t);cases h2;exact isNot_none k
 |ntBN a=>(apply wE h1;intro t);cases h2;exact isNot_none k
 |inn a l=>
  apply wE h1;intro t
  apply QBG h2;intro _ _ _ _ o1 c1 d1 l1
  refine oA (QS5 (a:=a) (t:=t) l1) fun hr he=>?_
  exact in_listAt _ ⟨_,fi.sq o1 d1,c1.1,_,d1⟩ (fun y hy=>he y (Array.mem_toList_iff.mpr hy) _ _) (by rw [←Array.any_toList,hr];exact k)
 |nin a l=>
  apply wE h1;intro t
  apply QBG h2;intro _ _ _ _ o1 c1 d1 l1
  refine oA (QS5 (a:=a) (t:=t) l1) fun hr he=>?_
  exact notIn_listAt _ ⟨_,fi.sq o1 d1,c1.1,_,d1⟩ (fun y hy=>he y (Array.mem_toList_iff.mpr hy) _ _) (by rw [←Array.any_toList,hr];exact k)
theorem QKb{op:CmpOp}{a b:D}{r:Bool}{v1 v2:QS}{Q:QS→QR→Prop}(h:QA8 op a b=some r)(h1:Den g v1 a)(h2:Den g v2 b)(fi:FIn g s.heap)(hu:A.units+8<cLine)
  (k:Q (.bool r) s):Qa (model prog w) A (compareOp op v1 v2) Q E s:=by
 cases op with
 |Eq=>exact QR2 fi 8 h h1 h2 hu prog w E Q k
 |NotEq=>
  have h:(dEq 8 a b).map (!·)=some r:=h
  refine oEA (Option.map_eq_some_iff.mp h) fun r' q ζ2=>?_
  subst ζ2
  exact QTj fi 7 q h1 h2 hu prog w E Q k
 |_=>exact QSK h h1 h2 fi k
end
section
variable {prog:QV}{w:QX}{A:QT}{E:QS→QR→Prop}{s:QR}{g:Fz}
theorem QIi{d:D}{r:Bool}{v:QS}{Q:Bool→QR→Prop}(h:QC2 d=some r)(h1:Den g v d)(fi:FIn g s.heap)
  (k:∀tk,Q r {s with toks:=tk}):Qa (model prog w) A (truthy v) Q E s:=by
 cases d with
 |none=>cases h;rw [h1.out];exact fun _ _ _=>k s.toks
 |bool b=>cases h;rw [h1.out];exact wpAny_truthy_bool (k s.toks)
 |int i=>cases h;(apply wE h1.out;intro t);exact P.truthy_int (k s.toks)
 |list xs=>
  have h:(if xs.length≤1000 then some (!xs.isEmpty) else none)=some r:=h
  refine oA (QAn h) fun hl ζ1=>?_
  subst ζ1
  apply QDI h1.lst;intro a vs l1 e1 hL
  refine wpAny_truthy_list (hL _ fi) (by omega) ?_
  have:xs.isEmpty=vs.isEmpty:=by
   rw [Bool.eq_iff_iff,List.isEmpty_iff,Array.isEmpty_iff,←List.length_eq_zero_iff,←Array.size_eq_zero_iff,e1]
  rw [←this]
  exact k _
 |_=>exact QAV h
theorem placeOk{n:Nat}{i:Int}{k:Nat}(h:place n i=some k):k<n∧((0≤i∧k=i.toNat)∨(i<0∧-(n:Int)≤i∧k=(i+n).toNat)):=by
 unfold place at h
 by_cases q:0≤i
 ·rw [if_pos q] at h
  refine oA (QAn h) fun q2 ζ1=>?_
  subst ζ1
  exact ⟨(Int.toNat_lt q).mpr q2,.inl ⟨q,rfl⟩⟩
 ·rw [if_neg q] at h
  refine oA (QAn h) fun q2 ζ1=>?_
  subst ζ1
  exact ⟨(Int.toNat_lt q2).mpr (zi1 [_,_] 1 (.a (.a (.v 0) (.v 1)) (.n 1)) (.v 1) 1 (.a (.v 0) (.n 1)) (.n 0) rfl (QAP.mp q)),.inr ⟨by exact zi1 [_] 1 (.a (.v 0) (.n 1)) (.n 0) 1 (.a (.v 0) (.n 1)) (.n 0) rfl (QAP.mp q),by exact zi1 [_,_] 1 (.g (.v 0)) (.v 1) 1 (.n 0) (.a (.v 1) (.v 0)) rfl q2,rfl⟩⟩
set_option tactic.hygienic true in
theorem QDH{value slice:Expr}{o i:QS}{T id:String}{Q:QS→QR→Prop}(hT:s.TypeIs o T)
  (hl:typeLookup (.type T) "__getitem__"=pure (some (.builtin id))) (h:Qa (model prog w) A (getItem o i) Q E s):
  Qa (model prog w) A (subscriptTail value slice o i) Q E s:=by
 skip
 refine QB ?_
 rw [getitemInPython_of_ne hT.not_modules]
 refine QB (wpAny_specialOf hT hl ?_)
 have fin:Qa (model prog w) A (subscripted slice false o i) (fun r s₃=>Qa (model prog w) A (letTemporaryGo value o r>>=fun _=>pure r) Q E s₃) E s:=by
  have hs:∃l,subscripted slice false o i=operate l (getItem o i):=by
   cases slice with
   |Slice a b c p=>cases c<;>exact ⟨_,rfl⟩
   |_=>exact ⟨_,rfl⟩
  revert hs
  refine rE fun l hs=>?_
  rw [hs]
  exact wpAny_operating (QL h (fun r s₃ h₃=>QB (wpAny_letTemporaryGo (QC h₃))) fun _ _ x=>x)
 first
  |exact QC (QB fin)
  |exact QB (QC (QB fin))
  |exact QB fin
theorem QEX.pairs(prog:QV)(w:QX){g:Fz}:∀{kvs:List (Int×D)} {es:List DictEntry},QEX g es kvs→∃ps:List (Int×QS),Pairs (intKind prog w) es ps∧∀i d,(kvs.find? fun p=>decide (p.1=i)).map (·.2)=some d→∃v,valueAt ps i=some v∧Den g v d:=by
 intro kvs
 induction kvs with
 |nil=>intro es h;rw [h.out];exact ⟨[],.nil,fun i d h=>QAV h⟩
 |cons p kvs ih=>
  intro es h
  refine QGw h.out fun e r t ζ3 hk=>rAA fun hh hd hr=>?_
  subst ζ3
  refine oEA (ih hr) fun ps h1 h4=>?_
  refine ⟨(p.1,e.val)::ps,.cons (by show Value.isInt p.1 e.key=true;rw [hk];exact beq_self_eq_true _) rfl h1,fun i d h=>?_⟩
  unfold valueAt
  rw [List.find?_cons] at h⊢
  by_cases q:p.1=i
  ·rw [decide_eq_true q] at h⊢
   cases h
   exact ⟨_,rfl,hd⟩
  ·rw [decide_eq_false q] at h⊢
   exact h4 i d h
theorem QEX.keys{g:Fz}:∀{kvs:List (Int×D)} {es:List DictEntry},QEX g es kvs→∀e∈es,∃k t,e.key= .int k t∧e.hash=hashInt k:=by
 intro kvs
 induction kvs with
 |nil=>intro es h e he;rw [h.out] at he;exact nomatch he
 |cons p kvs ih=>
  intro es h e he
  refine QGw h.out fun e' r t ζ3 hk=>rAA fun hh hd hr=>?_
  subst ζ3
  rcases Qx.mp he with rfl|he
  ·exact ⟨_,_,hk,hh⟩
  ·exact ih hr e he
inductive QM1:D→D→D→Prop
 |list {xs:List D} {i:Int} {k:Nat} {d:D} (hl:xs.length≤1000) (hp:place xs.length i=some k) (hk:xs[k]? =some d):QM1 (.list xs) (.int i) d
 |str {x:Str} {i:Int} (c:0≤i∧i<x.cps.size∧x.cps.size≤1000):QM1 (.str x) (.int i) (.str ⟨#[x.cps.getD i.toNat 0]⟩)
 |bytes {b:Array UInt8} {i:Int} (c:0≤i∧i<b.toList.length∧b.size≤1000):QM1 (.bytes b) (.int i) (.int (b.toList.getD i.toNat 0).toNat)
 |dict {kvs:List (Int×D)} {i:Int} {d:D} (h:(kvs.find? fun p=>decide (p.1=i)).map (·.2)=some d):QM1 (.dict kvs) (.int i) d
 |tup {xs:List D} {i:Int} {k:Nat} {d:D} (hl:xs.length≤1000) (hp:place xs.length i=some k) (hk:xs[k]? =some d):QM1 (.tup xs) (.int i) d
theorem QLU{xs:List D}{i:Int}{d:D}(h:(if xs.length≤1000 then (match place xs.length i with
  |some k=>xs[k]?
  |none=>none) else none)=some d):∃k,xs.length≤1000∧place xs.length i=some k∧xs[k]? =some d:=by
 by_cases q:xs.length≤1000
 ·rw [if_pos q] at h
  cases q2:place xs.length i with
  |none=>rw [q2] at h;exact QAV h
  |some k=>rw [q2] at h;exact ⟨k,q,rfl,h⟩
 ·rw [if_neg q] at h;exact QAV h
theorem QOB{a b d:D}(h:QBb a b=some d):QM1 a b d:=by
 cases a<;>first|exact QAV h|(cases b<;>first|exact QAV h|exact .dict h|((refine oA (QAn h) fun c ζ1=>?_;subst ζ1);first|exact .str c|exact .bytes c)|(refine QFZ (QLU h) fun k q1 q2 q3=>?_;first|exact .list q1 q2 q3|exact .tup q1 q2 q3))
theorem QNi{n k:Nat}{i:Int}(hp:place n i=some k):seqIndex? i n=some k:=by
 refine oA (placeOk hp) fun hn hp=>?_
 unfold seqIndex?
 rcases hp with ⟨h0,rfl⟩|⟨h0,hm,rfl⟩
 ·have hn':¬i<0:=by exact QAN.mpr (zi1 [_] 1 (.n 0) (.v 0) 1 (.n 0) (.v 0) rfl h0)
  have:i<n:=(Int.toNat_lt h0).mp hn
  simp [hn',h0,this]
 ·have h2:0≤i+n:=by exact zi1 [_,_] 1 (.n 0) (.a (.v 0) (.v 1)) 1 (.g (.v 1)) (.v 0) rfl hm
  have h3:i+n<n:=by exact zi1 [_,_] 1 (.a (.a (.v 0) (.v 1)) (.n 1)) (.v 1) 1 (.a (.v 0) (.n 1)) (.n 0) rfl h0
  simp [h0,h2,h3]
theorem QKQ{n k:Nat}{i:Int}(h1:n≤1000)(h:place n i=some k): -(2^63:Int)≤i∧i<2^63:=by
 refine oA (placeOk h) fun hn hp=>hp.elim (rA fun h0 e=>⟨QAJ (by decide) h0,QAK ((Int.toNat_lt h0).mp (e▸hn)) (QAJ (QAE.mpr h1) (by decide))⟩) (rAA fun h0 hm _=>⟨QAJ (QAJ (by decide: -(2^63:Int)≤-1000) (Int.neg_le_neg (QAE.mpr h1))) hm,QAK h0 (by decide)⟩)
theorem QP9{value slice:Expr}{a b d:D}{v1 v2:QS}{Q:QS→QR→Prop}(h:QBb a b=some d)(h1:Den g v1 a)(h2:Den g v2 b)(fi:FIn g s.heap)
  (k:∀g' s' v,Ext g s g' s'→Den g' v d→Q v s'):Qa (model prog w) A (subscriptTail value slice v1 v2) Q E s:=by
 have hR:=QOB h
 clear h
 induction hR with
 |list hlen hp hk=>
  apply QDI h1.lst;intro a vs l1 e1 hL
  apply wE h2.out;intro u
  refine oEA (l1.get hk) fun v hv dv=>?_
  rw [Array.getElem?_toList] at hv
  refine QDH (hL _ fi).typeIs slot_list_getitem.lookup ?_
  have lo:=QKQ hlen hp
  refine oA (placeOk hp) fun hn hp=>?_
  rcases hp with ⟨h0,rfl⟩|⟨h0,hm,rfl⟩
  ·exact wpAny_getItem_list (hL _ fi) h0 lo.2 hv (k _ _ _ (.refl fi) dv)
  ·exact wpAny_getItem_list_neg (hL _ fi) h0 (by omega) (by omega) (by rw [e1];exact hv) (k _ _ _ (.refl fi) dv)
 | @str x i hb=>
  apply wE h1.out;intro t
  apply wE h2.out;intro u
  refine QDH (typeIs_str s x t) PySem.F.slot_str_getitem.lookup ?_
  have n1:¬i< -(2^63:Int):=by omega
  have n2:¬i≥2^63:=by omega
  refine P.getItem_str (c:=x.cps.getD i.toNat 0) (by rw [decide_eq_false n1,decide_eq_false n2];rfl) ?_ (k _ _ _ (.tok fi) (.str _ _))
  rw [show seqIndex? i x.length=some i.toNat from QNi (by unfold place;rw [if_pos hb.1];exact if_pos hb.2.1)]
  have:i.toNat<x.cps.size:=by omega
  simp [this]
 | @bytes x i hb=>
  apply wE h1.out;intro t
  apply wE h2.out;intro u
  refine QDH (typeIs_bytes s x t) FB.slot_bytes_getitem.lookup ?_
  have:=getItem_bytes (prog:=prog) (w:=w) (A:=A) (E:=E) (s:=s) (t:=t) (u:=u) (l:=x.toList) (i:=i) (Q:=Q) (by have:=hb.2.2;rw [Array.length_toList];exact zn1 [_] 1 (.v 0) (.n 1099511627776) 1 (.v 0) (.n 1000) rfl hb.2.2) hb.1 hb.2.1 (k _ _ _ (.tok fi) (.int _ _))
  exact this
 |dict hf=>
  refine QA7 h1.out fun a o es n ζ4 o1 c1 d1=>rA fun l1 n1=>?_
  subst ζ4
  apply wE h2.out;intro u
  refine oEA (QEX.pairs prog w l1) fun ps p1 p4=>?_
  refine oEA (p4 _ _ hf) fun v hv dv=>?_
  refine oEA (fi _ _ o1) fun o' ho' sm=>?_
  have hm:s.heap.IntMap a (valueAt ps):=⟨o',_,_,ho',sm.cls.trans c1,sm.data.trans d1,(fun e he=>QEX.keys l1 e (Array.mem_toList_iff.mpr he)),fun k=>by
   rw [←p1.find k]
   obtain ⟨l⟩:=es
   rw [findBy,List.find?_toArray]
   rfl⟩
  refine QDH hm.typeIs slot_dict_getitem.lookup ?_
  exact wpAny_getItem_intMap hm hv (k _ _ _ (.tok fi) dv)
 |tup hlen hp hk=>
  apply QDI h1.tpl;intro a vs l1 e1 hL
  apply wE h2.out;intro u
  refine oEA (l1.get hk) fun v hv dv=>?_
  rw [Array.getElem?_toList] at hv
  refine oA (QKQ hlen hp) fun b1 b2=>?_
  refine QDH (hL _ fi).typeIs slot_tuple_getitem.lookup ?_
  exact getItem_tuple (hL _ fi) b1 b2 (by rw [e1];exact QNi hp) hv (k _ _ _ (.refl fi) dv)
end
section
variable {prog:QV}{w:QX}{A:QT}{E:QS→QR→Prop}{s:QR}{g:Fz}
theorem intsAre_of{g:Fz}{ns:List Int}:∀{vs:List QS},DenL g vs (ns.map D.int)→IntsAre vs ns:=by
 induction ns with
 |nil=>intro vs h;rw [h.out];exact .nil
 |cons n ns ih=>intro vs h;(refine QBO h.out fun v r ζ2 a b=>?_;subst ζ2);(refine oE a.out fun t ζ1=>?_;subst ζ1);exact .cons _ _ (ih b)
theorem QG9{g:Fz}{vs:List QS}{ns:List Int}(h:IntsAre vs ns):DenL g vs (ns.map D.int):=by
 induction h with
 |nil=>exact .nil
 |cons n t _ ih=>exact .cons (.int n t) ih
theorem _root_.KQ.DenL.reverse{g:Fz}{ds:List D}:∀{vs:List QS},DenL g vs ds→DenL g vs.reverse ds.reverse:=by
 induction ds with
 |nil=>intro vs h;rw [h.out];exact .nil
 |cons d ds ih=>
  intro vs h
  apply QCh h.out;intro v r a b
  rw [List.reverse_cons,List.reverse_cons]
  exact (ih b).append (.cons a .nil)
theorem QM0{α β:Type}{f:α→Option β}{x:α}{xs:List α}{r:List β}(h:QF7 f (x::xs)=some r):∃y ys,f x=some y∧QF7 f xs=some ys∧r=y::ys:=by
 unfold QF7 at h
 cases q:f x with
 |none=>rw [q] at h;exact QAV h
 |some y=>
  rw [q] at h
  skip
  cases q2:QF7 f xs with
  |none=>rw [q2] at h;exact QAV h
  |some ys=>rw [q2] at h;exact ⟨y,ys,rfl,rfl,(Option.some.inj h).symm⟩
theorem QKt{is:List Int}:∀{bs:List UInt8},QF7 QIW is=some bs→(∀n∈is,0≤n∧n<256)∧bs=is.map fun n=>n.toNat.toUInt8:=by
 induction is with
 |nil=>intro bs h;cases h;exact ⟨(fun _ h=>nomatch h),rfl⟩
 |cons i r ih=>
  intro bs h
  refine QBO (QM0 h) fun y ys hy hys ζ4=>?_
  subst ζ4
  refine oA (QAn hy) fun hb ζ1=>?_
  subst ζ1
  refine oA (ih hys) fun h1 h2=>?_
  refine ⟨fun n hn=>?_,by rw [Q0,←h2]⟩
  rcases Qx.mp hn with rfl|hn
  ·exact hb
  ·exact h1 n hn
inductive SlR:D→D→D→D→D→Prop
 |upto {xs:List D} {n:Nat} (c:xs.length≤1000):SlR (.list xs) .none (.int n) .none (.list (xs.take n))
 |mid {xs:List D} {n m:Nat} (c:xs.length≤1000) (hm:n≤m):SlR (.list xs) (.int n) (.int m) .none (.list ((xs.take m).drop n))
 |from {xs:List D} {n:Nat} (c:xs.length≤1000):SlR (.list xs) (.int n) .none .none (.list (xs.drop n))
 |all {xs:List D} (c:xs.length≤1000):SlR (.list xs) .none .none .none (.list xs)
 |rev {xs:List D} (c:xs.length≤1000):SlR (.list xs) .none .none (.int (-1)) (.list xs.reverse)
theorem QPG{a l u t d:D}(h:QDy a l u t=some d):SlR a l u t d:=by
 cases a<;>first|exact QAV h|(cases l<;>first|exact QAV h|(cases u<;>first|exact QAV h|(cases t<;>first
  |exact QAV h
  |((refine oA (QAn h) fun c ζ1=>?_;subst ζ1);first
   |exact .all c
   |(obtain ⟨c1,rfl⟩:=c;exact .rev c1)
   |((apply wE (Int.eq_ofNat_of_zero_le c.2);intro n);first|exact .upto c.1|exact .from c.1)
   |((refine oE (Int.eq_ofNat_of_zero_le c.2.1) fun n ζ1=>?_;subst ζ1);(refine oE (Int.eq_ofNat_of_zero_le (QAJ c.2.1 c.2.2)) fun m ζ1=>?_;subst ζ1);exact .mid c.1 (QAE.mp c.2.2))))))
theorem QDN{value slice:Expr}{v vl vu vt:QS}{Q:QS→QR→Prop}{xs ys:List D}{lo hi st:Option Int}(h1:Den g v (.list xs))(hlen:xs.length≤1000)(pl:IsPart vl lo)(pu:IsPart vu hi)(pt:IsPart vt st)(h0:st≠some 0)(fi:FIn g s.heap)
  (hpick:∀vs:Array QS,DenL g vs.toList xs→DenL g (slicePick vs lo hi st).toList ys) (k:∀g' s' v,Ext g s g' s'→Den g' v (.list ys)→Q v s'):
  Qa (model prog w) A (subscriptTail value slice v (.ref s.heap.objs.size)) Q E {s with heap:=s.heap.push {cls:= .type "slice",data:= .fields #[vl,vu,vt]}}:=by
 apply QDI h1.lst;intro a vs l1 e1 hL
 refine QDH ((hL _ fi).push _).typeIs slot_list_getitem.lookup ?_
 have hk:=QAm s.heap {cls:= .type "slice",data:= .fields #[vl,vu,vt]}
 refine wpAny_getItem_list_slice ((hL _ fi).push _) (Heap.IsSliceOf.new ..) pl pu pt h0 ?_ (by have:=QAb;exact zn3 [_,_,_] 1 (.v 0) (.v 1) 1 (.v 2) (.n 1000) 1 (.v 0) (.v 2) 1 (.n 100000) (.v 1) rfl hlen (Qe e1) this)
 refine k _ _ _ (Ext.add (g:=g) (tk:=s.toks) fi (hk.trans (QAm _ _)) (a:=_) (o:=_) (hk.none (QAp _)) (Heap.get?_push_size _ rfl)) (.list (Fz.add_self _ _ _) ⟨rfl,rfl,rfl⟩ rfl ?_)
 exact (hpick _ l1).mono (Fz.add_le ((fi.up hk).none (QAp _)))
theorem QI2{vs:Array QS}{xs:List D}{a b:Nat}(l1:DenL g vs.toList xs):DenL g ((vs.toList.drop a).take b) ((xs.drop a).take b):=by
 refine DenL.of_get (by simp [l1.length]) fun i v d hv hd=>?_
 rw [List.getElem?_take,List.getElem?_drop] at hv hd
 by_cases hi:i<b
 ·rw [if_pos hi] at hv hd
  refine oEA (l1.get hd) fun v' hv' dv=>?_
  rw [hv] at hv'
  cases hv'
  exact dv
 ·rw [if_neg hi] at hv;exact QAV hv
theorem QPn{α:Type}{l:List α}{n m N:Nat}(hl:l.length=N):(l.drop (min n N)).take (min m N-min n N)=(l.take m).drop n:=by
 rw [List.drop_take]
 by_cases q:n≤N
 ·rw [Nat.min_eq_left q]
  by_cases q2:m≤N
  ·rw [Nat.min_eq_left q2]
  ·rw [Nat.min_eq_right (by exact zn1 [_,_] 1 (.v 0) (.v 1) 1 (.a (.v 0) (.n 1)) (.v 1) rfl (Nat.lt_of_not_le q2)),Q6 (by rw [List.length_drop,hl];exact Qf _),Q6 (by rw [List.length_drop,hl];exact Nat.sub_le_sub_right (Qo (Nat.lt_of_not_le q2)) n)]
 ·rw [Nat.min_eq_right (Qo (Nat.lt_of_not_le q):N≤n),List.drop_of_length_le (by exact zn1 [_,_] 1 (.v 0) (.v 1) 1 (.v 0) (.v 1) rfl (Qe hl)),List.drop_of_length_le (by exact zn2 [_,_,_] 1 (.v 0) (.v 1) 1 (.v 0) (.v 2) 1 (.a (.v 2) (.n 1)) (.v 1) rfl (Qe hl) (Nat.lt_of_not_le q))];simp
theorem QPl{value slice:Expr}{a l u t d:D}{v vl vu vt:QS}{Q:QS→QR→Prop}(h:QDy a l u t=some d)(h1:Den g v a)(hl:Den g vl l)(hu:Den g vu u)(ht:Den g vt t)(fi:FIn g s.heap)
  (k:∀g' s' v,Ext g s g' s'→Den g' v d→Q v s'):
  Qa (model prog w) A (subscriptTail value slice v (.ref s.heap.objs.size)) Q E {s with heap:=s.heap.push {cls:= .type "slice",data:= .fields #[vl,vu,vt]}}:=by
 replace hl:=hl.out
 replace hu:=hu.out
 replace ht:=ht.out
 have hR:=QPG h
 clear h
 induction hR with
 | @upto xs n c=>
  cases hl;(apply wE hu;intro _);cases ht
  refine QDN h1 c .none (.int _ _) .none (fun e=>nomatch e) fi (fun vs l1=>?_) k
  rw [slicePick_upto']
  have:=QI2 (a:=0) (b:=n) l1
  exact this
 | @mid xs n m c hm=>
  revert hl;refine rE fun _ ζ1=>?_;subst ζ1;(revert hu;refine rE fun _ ζ1=>?_;subst ζ1);cases ht
  refine QDN h1 c (.int _ _) (.int _ _) .none (fun e=>nomatch e) fi (fun vs l1=>?_) k
  rw [slicePick_plain]
  simp only [Option.elim,clipAt_nat]
  have e1:vs.size=xs.length:=l1.length
  have e2:=QI2 (a:=min n vs.size) (b:=min m vs.size-min n vs.size) l1
  rw [QPn e1.symm] at e2
  exact e2
 | @«from» xs n c=>
  apply wE hl;intro _;cases hu;cases ht
  refine QDN h1 c (.int _ _) .none .none (fun e=>nomatch e) fi (fun vs l1=>?_) k
  rw [slicePick_from']
  have e1:vs.size=xs.length:=l1.length
  have:=QI2 (a:=n) (b:=vs.size) l1
  rw [Q6 (by simp),Q6 (by simp [e1])] at this
  exact this
 |all c=>
  cases hl;cases hu;cases ht
  refine QDN h1 c .none .none .none (fun e=>nomatch e) fi (fun vs l1=>?_) k
  rw [slicePick_all];exact l1
 |rev c=>
  cases hl;cases hu;(apply wE ht;intro _)
  refine QDN h1 c .none .none (.int _ _) (fun e=>nomatch e) fi (fun vs l1=>?_) k
  rw [krv_pick]
  exact l1.reverse
theorem ty_bytes:typeOf (.type "bytes")=pure (.type "type"):=by kernel_rfl
theorem ty_str:typeOf (.type "str")=pure (.type "type"):=by kernel_rfl
theorem ty_bool:typeOf (.type "bool")=pure (.type "type"):=by kernel_rfl
theorem ty_bytearray:typeOf (.type "bytearray")=pure (.type "type"):=by kernel_rfl
theorem sub_bytes_bytearray:isSubtype (.type "bytes") (.type "bytearray")=pure false:=by rw [isSubtype_type];kernel_rfl
theorem sub_bytes_str:isSubtype (.type "bytes") (.type "str")=pure false:=by rw [isSubtype_type];kernel_rfl
theorem QDd{n:Array UInt8}{u:Tok}{T:String}(hne:(Value.type "bytes"==Value.type T)=false)(hty:typeOf (.type T)=pure (.type "type"))(hsub:isSubtype (.type "bytes") (.type T)=pure false):
  Meets (Builtin.«isinstance» ⟨[.bytes n u,.type T],[]⟩) (fun _ R s=>R (.ok (.ret (.bool false))) {s with toks:=s.toks+1}):=
 fun _ _ _ _ s hs=>by
  obtain ⟨h,g,d,t,os⟩:=s
  exact isinstance_outer (isinstance_nested_false_bytes hne hty hsub hs)
inductive QHy:D→D→Bool→Prop
 |bb {b:Array UInt8}:QHy (.bytes b) (.typ "bytes") true
 |ib {i:Int}:QHy (.int i) (.typ "bool") false
 |ss {x:Str}:QHy (.str x) (.typ "str") true
 |bs {b:Array UInt8}:QHy (.bytes b) (.typ "str") false
 |bt {b:Array UInt8}:QHy (.bytes b) (.tup [.typ "bytes",.typ "bytearray"]) true
theorem QPr{xs:List D}(h:QTO xs=true):xs=[.typ "bytes",.typ "bytearray"]:=by
 cases xs with
 |nil=>exact absurd h QAS
 |cons x r=>cases x<;>first|exact absurd h QAS|(cases r with
  |nil=>exact absurd h QAS
  |cons y r'=>cases y<;>first|exact absurd h QAS|(cases r' with
   |cons=>exact absurd h QAS
   |nil=>
    refine oA (Bool.and_eq_true_iff.mp h) fun h1 h2=>?_
    rw [eq_of_beq h1,eq_of_beq h2]))
set_option tactic.hygienic true in
theorem QPU{x T:D}{b:Bool}(h:QJc x T=some b):QHy x T b:=by
 cases x<;>first|exact QAV h|(cases T<;>first|exact QAV h|skip)
 ·refine oA (QAn h) fun ζ0 ζ1=>?_;subst ζ0;subst ζ1;exact .ib
 ·refine oA (QAn h) fun ζ0 ζ1=>?_;subst ζ0;subst ζ1;exact .ss
 ·rename_i x n
  have h:(if n="bytes" then some true else if n="str" then some false else none)=some b:=h
  by_cases q:n="bytes"
  ·rw [if_pos q] at h;cases h;rw [q];exact .bb
  ·rw [if_neg q] at h;(refine oA (QAn h) fun ζ0 ζ1=>?_;subst ζ0;subst ζ1);exact .bs
 ·refine oA (QAn h) fun q ζ1=>?_;subst ζ1;rw [QPr q];exact .bt
inductive QGV:Str→List D→D→Prop
 |len {xs:List D} (c:xs.length≤1000):QGV QL5 [.list xs] (.int xs.length)
 |bytes {xs:List D} {is:List Int} {bs:List UInt8} (hi:QB3 xs=some is) (hb:QF7 QIW is=some bs) (c:bs.length≤1000):QGV QGN [.list xs] (.bytes bs.toArray)
 |inst {x T:D} {b:Bool} (h:QJc x T=some b):QGV QCM [x,T] (.bool b)
 |type {x:D} {T:String} (h:QOJ x=some T):QGV QFn [x] (.typ T)
 |str {i:Int} (c:0≤i∧i<1000):QGV QL0 [.int i] (.str (Qc (toString i)))
 |sorted {xs:List D} {is:List Int} (hi:QB3 xs=some is) (c:is.length<64):QGV QE2 [.list xs] (.list ((sortI is).map .int))
theorem QMI{f:Str}{ds:List D}{d:D}(h:dCall f ds=some d):QGV f ds d:=by
 refine QF1 h (fun e h=>un h fun x e1 h=>un h fun xs e2 h=>oA (QAn h) fun c e3=>?_) fun h=>QF1 h (fun e h=>un h fun x e1 h=>un h fun xs e2 h=>un h fun is e4 h=>un h fun bs e5 h=>oA (QAn h) fun c e3=>?_)
  fun h=>QF1 h (fun e h=>un h fun p e1 h=>oEA (Option.map_eq_some_iff.mp h) fun b q e3=>?_) fun h=>QF1 h (fun e h=>un h fun x e1 h=>oEA (Option.map_eq_some_iff.mp h) fun b q e3=>?_)
  fun h=>QF1 h (fun e h=>un h fun x e1 h=>un h fun i e2 h=>oA (QAn h) fun c e3=>?_) fun h=>QF1 h (fun e h=>un h fun x e1 h=>un h fun xs e2 h=>un h fun is e4 h=>oA (QAn h) fun c e3=>?_) QAV
 ·rw [eq_of_beq e,QBT e1,QEk e2,←e3];exact .len c
 ·rw [eq_of_beq e,QBT e1,QEk e2,←e3];exact .bytes e4 e5 c
 ·rw [eq_of_beq e,QG0 e1,←e3];exact .inst q
 ·rw [eq_of_beq e,QBT e1,←e3];exact .type q
 ·rw [eq_of_beq e,QBT e1,QFi e2,←e3];exact .str c
 ·rw [eq_of_beq e,QBT e1,QEk e2,←e3];exact .sorted e4 c
theorem DenL.one{vs:List QS}{x:D}(h:DenL g vs [x]):∃v,vs=[v]∧Den g v x:=by
 apply QCh h.out;intro v r a b
 rw [b.out]
 exact ⟨v,rfl,a⟩
theorem DenL.two{vs:List QS}{x y:D}(h:DenL g vs [x,y]):∃v u,vs=[v,u]∧Den g v x∧Den g u y:=by
 apply QCh h.out;intro v r a b
 apply wEA (DenL.one b);intro u c
 exact ⟨v,u,rfl,a,c⟩
theorem QRa{x:D}{T:String}{v:QS}(q:QOJ x=some T)(h:Den g v x):s.TypeIs v T∧(Value.type T==Value.type "builtin_function_or_method")=false:=by
 cases x with
 |none=>cases q;rw [h.out];exact ⟨rfl,by decide⟩
 |bool b=>cases q;rw [h.out];exact ⟨rfl,by decide⟩
 |int i=>cases q;(apply wE h.out;intro t);exact ⟨rfl,by decide⟩
 |str x=>cases q;(apply wE h.out;intro t);exact ⟨rfl,by decide⟩
 |bytes x=>cases q;(apply wE h.out;intro t);exact ⟨rfl,by decide⟩
 |_=>exact QAV q
theorem QRv{x T:D}{b:Bool}{v u:QS}{Q:QS→QR→Prop}(h:QJc x T=some b)(h1:Den g v x)(h2:Den g u T)(fi:FIn g s.heap)(k:∀tk,Q (.bool b) {s with toks:=tk}):Qa (model prog w) A (call (.builtin "isinstance") [v,u]) Q E s:=by
 have hR:=QPU h
 clear h
 induction hR with
 |bb=>(apply wE h1.out;intro _);cases h2.out;exact call_isinstance (isinstance_true (Tx:="bytes") ty_bytes PySem.F.sub_bytes_bytes) ⟨rfl,k _⟩
 |ib=>(apply wE h1.out;intro _);cases h2.out;exact call_isinstance (isinstance_false_int (by decide) ty_bool PySem.F.sub_int_bool) (k _)
 |ss=>(apply wE h1.out;intro _);cases h2.out;exact call_isinstance (isinstance_true (Tx:="str") ty_str PySem.F.sub_str_str) ⟨rfl,k _⟩
 |bs=>(apply wE h1.out;intro _);cases h2.out;exact call_isinstance (QDd (by decide) ty_str sub_bytes_str) (k _)
 |bt=>
  apply wE h1.out;intro _
  refine QBO h2.out fun a ζ1 ζ2 o1 l1=>?_
  obtain ⟨l⟩:=ζ1
  subst ζ2
  refine QBO (DenL.two (vs:=l) l1) fun v u e a1 a2=>?_
  subst e
  cases a1.out
  cases a2.out
  exact call_isinstance (isinstance_tuple (cs:=[.type "bytes",.type "bytearray"]) (vs:=[true,false]) (.cons (.of_true ty_bytes PySem.F.sub_bytes_bytes) (.cons (fun _ _ _ _ _ _ s hs=>by obtain ⟨h,g,d,t,os⟩:=s;(revert hs;refine rA fun _ hq=>?_);exact isinstance_nested_false_bytes (by decide) ty_bytearray sub_bytes_bytearray (hq (t+1))) .nil))) ⟨rfl,fi.sq o1 rfl,fun tk=>k _⟩
theorem QPL{xs:List D}{is:List Int}{v:QS}{Q:QS→QR→Prop}(hi:QB3 xs=some is)(hlen:is.length<64)(hx:Den g v (.list xs))(fi:FIn g s.heap)
  (k:∀g' s' v,Ext g s g' s'→Den g' v (.list ((sortI is).map .int))→Q v s'):Qa (model prog w) A (call (.builtin "sorted") [v]) Q E s:=by
 rw [QDb hi] at hx
 apply QDI hx.lst;intro a vs l1 e1 hL
 have l2:=intsAre_of l1
 have e1:=l2.length
 refine sorted_ints (vs:=vs.toList) (by rw [Array.toArray_toList];exact hL _ fi) l2 (by rw [e1];exact hlen) fun out ns' a1 a2 a3=>?_
 refine oE (sortedAll_at s.heap vs.toList out) fun e he=>?_
 have hn:s.heap.get? (s.heap.objs.size+1)=none:=by
  cases q:s.heap.get? (s.heap.objs.size+1) with
  |none=>rfl
  |some o=>exact absurd (Heap.lt_size q) (Nat.not_lt.mpr (Nat.le_succ _))
 refine k _ _ _ (Ext.add (g:=g) (tk:=s.toks) fi (.of fun _ _=>sortedAll_old) hn he) (.list (Fz.add_self _ _ _) ⟨rfl,rfl,rfl⟩ rfl ?_)
 have:sortI is=ns':=by
  refine (List.mergeSort_perm is (fun a b=>decide (a≤b))).trans a2.symm|>.eq_of_pairwise (fun a b _ _ h1 h2=>QAH h1 h2) ?_ a3
  have:=List.pairwise_mergeSort (le:=fun a b:Int=>decide (a≤b)) (fun a b c h1 h2=>decide_eq_true (QAJ (of_decide_eq_true h1) (of_decide_eq_true h2))) (fun a b=>by rcases Int.le_total a b with h|h<;>simp [h]) is
  exact this.imp of_decide_eq_true
 rw [this]
 exact QG9 a1
theorem QSD{f:Str}{ds:List D}{d:D}{vs:List QS}{Q:QS→QR→Prop}(h:dCall f ds=some d)(hd:DenL g vs ds)(fi:FIn g s.heap)(r:Rm A 10)
  (k:∀g' s' v,Ext g s g' s'→Den g' v d→Q v s'):∃c,QCw f=some c∧Qa (model prog w) A (call c vs) Q E s:=by
 have hR:=QMI h
 clear h
 induction hR with
 |len c=>
  apply wEA (DenL.one hd);intro v hx
  apply QDI hx.lst;intro a vs l1 e1 hL
  refine ⟨_,rfl,Calls.call_len_list (hL _ fi) (by omega) ?_⟩
  rw [e1]
  exact k _ _ _ (.tok fi) (.int _ _)
 | @bytes xs is bs hi hbs hlen=>
  apply wEA (DenL.one hd);intro v hx
  rw [QDb hi] at hx
  apply QDI hx.lst;intro a vs l1 e1 hL
  refine oA (QKt hbs) fun h1 h2=>?_
  have l2:=intsAre_of l1
  have e1:=l2.length
  refine ⟨_,rfl,call_bytes_ints (vs:=vs.toList) (by rw [Array.toArray_toList];exact hL _ fi) l2 h1 (by rw [e1];rw [h2,Qs] at hlen;have:=QAb;exact zn2 [_,_] 1 (.v 0) (.v 1) 1 (.v 0) (.n 1000) 1 (.n 100000) (.v 1) rfl hlen this) (r.hnd (by decide)) fun h' t tk hk=>?_⟩
  refine k _ _ _ (.grow fi (.of hk)) ?_
  rw [h2]
  exact .bytes _ _
 |inst hi=>
  apply QCh (DenL.two hd);intro v u h1 h2
  exact ⟨_,rfl,QRv hi h1 h2 fi fun tk=>k _ _ _ (.tok fi) (.bool _)⟩
 |type q=>
  apply wEA (DenL.one hd);intro v hx
  refine oA (QRa (s:=s) q hx) fun t1 t2=>?_
  exact ⟨_,rfl,call_type_of t1 t2 (k _ _ _ (.refl fi) (.typ _))⟩
 | @str i hb=>
  apply wEA (DenL.one hd);intro v hx
  apply wE hx.out;intro t
  refine ⟨_,rfl,P.str_of_int ?_ (k _ _ _ (.tok fi) (.str _ _))⟩
  by_cases q:i.natAbs=0
  ·rw [q];decide
  ·exact Nat.lt_trans ((Nat.log2_lt q).mpr (show i.natAbs<2^10 by omega)) (by decide)
 |sorted hi hlen=>
  apply wEA (DenL.one hd);intro v hx
  exact ⟨_,rfl,QPL hi hlen hx fi k⟩
end
structure Gd (prog:QV)(w:QX) where
 h:Heap
 sz:∃o,h.get? (gsz-1)=some o
 mg:Str→Option QS
 mb:Str→Option QS
 ns:h.Ns mainGlobals mg
 nb:h.Ns builtinsNs mb
 nolim:h.NoLimit
 bn:∀x c,QCw x=some c→mg x=none∧mb x=some c
 tn:∀x c,(x,c)∈[(QER,"range"),(QG6,"zip"),(QBs,"enumerate"),(QFp,"dict")]→mg x=none∧mb x=some (.type c)
 ti:∃tl:List QW,(∀b∈tl,b<gsz∧∃o,h.get? b=some o)∧∀h':Heap,(∀b∈tl,∀o,h.get? b=some o→h'.get? b=some o)→∀a o,h'.get? a=some o→o.cls= .ref 166→
  Looks (model prog w) h' (specialOf (.ref a) "__iter__") (some (.builtin "tuple.__iter__"))∧Looks (model prog w) h' (isInstance (.ref a) (.type "tuple")) true
section
variable {prog:QV}{w:QX}{G:Gd prog w}
noncomputable def QME(env:Env)(g:Fz)(h:Heap)(k:Option NameKind)(x:Str)(d:D):Prop:=
 ∃v,Den g v d∧((k=some .local∧∃m,h.Ns env.locals m∧m x=some v)∨((k=some .cell∨k=some .free)∧∃c,env.cells.lookup x=some c∧h.IsCell c (some v)))
noncomputable def QCr(A:QT)(h:Heap):Prop:=∃fr,A.frames=some fr∧∀e∈fr,e.scope.kind≠ .module∧∃L o es ep,e.frame=some L∧gsz≤L∧h.get? L=some o∧o.data= .dict es ep
theorem QCr.up{A:QT}{h h':Heap}(x:QCr A h)(k:HLe h h'):QCr A h':=by
 revert x
 refine rEA fun fr e H=>?_
 refine ⟨fr,e,fun v hv=>?_⟩
 refine oA (H v hv) fun h1=>QEZ fun L o es ep=>QEg fun h2 hz h3 h4=>?_
 refine oEA (k L o h3) fun o' h5 s=>?_
 exact ⟨h1,L,o',es,ep,h2,hz,h5,s.data.trans h4⟩
structure Vw (G:Gd prog w)(A:QT)(env:Env)(ρ:PE)(g:Fz)(h:Heap):Prop where
 kind:env.scope.kind= .function
 sc:env.scope.names=ρ.sc
 glo:env.globals=mainGlobals
 bui:env.builtins=builtinsNs
 vars:∀x d,ρ.get x=some d→QME env g h (ρ.kind x) x d
 cel:∀x,(ρ.kind x=some .cell∨ρ.kind x=some .free)→∃c,env.cells.lookup x=some c
 inn:FIn g h
 base:FLe G.h.get? g
 fr:QCr A h
theorem Vw.kindOf{A:QT}{env:Env}{ρ:PE}{g:Fz}{h:Heap}(V:Vw G A env ρ g h)(x:Str):env.kindOf x=ρ.kind x:=by
 unfold Env.kindOf PE.kind;rw [V.sc]
theorem QME.up{env:Env}{g g':Fz}{h h':Heap}{k:Option NameKind}{x:Str}{d:D}(v:QME env g h k x d)(l:FLe g g')(k':HLe h h'):QME env g' h' k x d:=by
 revert v
 refine rEA fun u hu hv=>?_
 refine ⟨u,hu.mono l,?_⟩
 refine Or.elim hv (QCx fun hk m hn hm=>?_) (QCx fun hk c hc hi=>?_)
 ·exact .inl ⟨hk,m,k'.ns hn,hm⟩
 ·exact .inr ⟨hk,c,hc,k'.cell hi⟩
theorem Vw.up{A:QT}{env:Env}{ρ:PE}{g g':Fz}{s s':QR}(V:Vw G A env ρ g s.heap)(x:Ext g s g' s'):Vw G A env ρ g' s'.heap:=
 ⟨V.kind,V.sc,V.glo,V.bui,fun y d h=>(V.vars y d h).up x.le x.heap,V.cel,x.inn,V.base.trans x.le,V.fr.up x.heap⟩
theorem Vw.low{A:QT}{env:Env}{ρ:PE}{g:Fz}{h:Heap}(V:Vw G A env ρ g h){a:QW}{o:Obj}(ha:a<gsz)(e:G.h.get? a=some o):h.get? a=some o:=by
 refine oEA (V.inn a o (V.base a o e)) fun o' e' s=>?_
 rw [s.low ha] at e';exact e'
theorem QOe{g:Fz}{h:Heap}(fi:FIn g h)(base:FLe G.h.get? g):gsz≤h.objs.size:=by
 refine oE G.sz fun o e=>?_
 refine oEA (fi _ _ (base _ _ e)) fun o' e' _=>?_
 have h1:(473:Nat)<h.objs.size:=Heap.lt_size e'
 exact h1
theorem Vw.hle{A:QT}{env:Env}{ρ:PE}{g:Fz}{h:Heap}(V:Vw G A env ρ g h):HLe G.h h:=fun a o e=>V.inn a o (V.base a o e)
noncomputable def QAW(G:Gd prog w)(N:Nat)(e:Expr)(ρ:PE)(d:D):Prop:=
 ∀(A:QT) (env:Env) (g:Fz) (s:QR) (Q E:QS→QR→Prop),Rm A N→Vw G A env ρ g s.heap→
  (∀g' s' v,Ext g s g' s'→Den g' v d→Q v s')→Qa (model prog w) A (eval e env) Q E s
noncomputable def QAl(G:Gd prog w)(N:Nat)(e:Expr)(ρ:PE)(b:Bool):Prop:=
 ∀(A:QT) (env:Env) (g:Fz) (s:QR) (Q:Bool→QR→Prop) (E:QS→QR→Prop),Rm A N→Vw G A env ρ g s.heap→
  (∀g' s',Ext g s g' s'→Q b s')→Qa (model prog w) A (isTrue e env (eval e env)) Q E s
noncomputable def QGl(G:Gd prog w)(a:QW):Prop:=∀h,HLe G.h h→∃k,(k=Keeper.frame∨k=Keeper.machine∨k=Keeper.boundFrame)∧Looks (model prog w) h (keeperOf (.ref a)) k
theorem QOl{a:QW}{o:Obj}{fd:QZ}(ho:G.h.get? a=some o)(hd:o.data= .func fd):QGl G a:=fun h x=>by
 refine ⟨.frame,.inl rfl,fun A Q E s k q=>?_⟩
 have ho':s.heap.get? a=some o:=k _ _ (x.exact ho fun _ _ e=>by rw [hd] at e;cases e)
 unfold keeperOf
 refine QB (wpAny_load ho' ?_)
 rw [hd]
 exact QC q
noncomputable def QBB(G:Gd prog w)(N:Nat)(a:QW)(sem:QBR):Prop:=
  ∀(A:QT) (g:Fz) (s:QR) (vs kvs:List QS) (ds:List D) (kds:List (Str×D)) (d:D) (Q E:QS→QR→Prop),sem ds kds d→Rm A N→QCr A s.heap→FIn g s.heap→FLe G.h.get? g→
   DenL g vs ds→DenL g kvs (kds.map (·.2))→(∀g' s' v,Ext g s g' s'→Den g' v d→Q v s')→Qa (model prog w) A (call (.ref a) vs ((kds.map (·.1)).zip kvs)) Q E s
noncomputable def QB6(G:Gd prog w)(N:Nat)(f:Str)(sem:QBR):Prop:=
 ∃a,G.mg f=some (.ref a)∧QGl G a∧QBB G N a sem
noncomputable def COk(G:Gd prog w)(C:QCl):Prop:=∀x d,C x=some d→(x==("__debug__":Str))=false∧∃v,Den G.h.get? v d∧(G.mg x=some v∨(G.mg x=none∧G.mb x=some v))
noncomputable def FOk(G:Gd prog w)(N:Nat)(F:QC9):Prop:=∀f sem,F f=some sem→(f==("__debug__":Str))=false∧QB6 G N f sem
theorem QAw{A:QT}{env:Env}{ρ:PE}{g:Fz}{s:QR}{x:Str}{v:QS}{Q E:QS→QR→Prop}(V:Vw G A env ρ g s.heap)(hk:ρ.kind x=some .globalImplicit)
  (hv:G.mg x=some v∨(G.mg x=none∧G.mb x=some v)) (h:Q v s):Qa (model prog w) A (loadName env x) Q E s:=by
 unfold loadName
 have hb:env.blockKind= .function:=by unfold Env.blockKind;rw [V.kind];rfl
 rw [V.kind,if_neg (c:=(ScopeKind.isAnnotationScope .function&&_&&_)=true) QAS]
 rw [hb,V.kindOf,hk]
 show Qa _ A (loadGlobal env x) Q E s
 unfold loadGlobal
 rw [V.glo,V.bui]
 refine QB (wpAny_nsGet (V.hle.ns G.ns) ?_)
 refine Or.elim hv (fun hv=>?_) (rA fun hv hb=>?_)
 ·rw [hv];exact QC h
 ·rw [hv]
  refine QB (wpAny_nsGet (V.hle.ns G.nb) ?_)
  rw [hb];exact QC h
theorem QBP{A:QT}{env:Env}{ρ:PE}{g:Fz}{s:QR}{x:Str}{d:D}{Q E:QS→QR→Prop}(V:Vw G A env ρ g s.heap)(hx:ρ.get x=some d)(hd:(x==("__classdict__":Str))=false)
  (h:∀v,Den g v d→Q v s):Qa (model prog w) A (loadName env x) Q E s:=by
 refine oEA (V.vars x d hx) fun v hv hc=>?_
 rcases hc with ⟨hk,m,hn,hm⟩|⟨hk|hk,c,hcl,hi⟩
 ·exact wpAny_loadName_local V.kind (by rw [V.kindOf,hk]) hn hm (h v hv)
 ·exact wpAny_loadName_cell V.kind (by rw [V.kindOf,hk]) hcl hi (h v hv)
 ·exact wpAny_loadName_free V.kind (by rw [V.kindOf,hk]) hcl hi (h v hv) hd
theorem QAt{e:Expr}{r:List Expr}(hs:QAh (e::r)=true):QAh r=true∧∀env,starEach (e::r) env=(false,eval e env)::starEach r env:=by
 cases e<;>first|exact ⟨hs,fun _=>rfl⟩|exact absurd hs QAS
noncomputable def L2{α:Type}(P:α→D→Prop):List α→List D→Prop
 |[],ds=>ds=[]
 |e::es,ds=>∃d r,ds=d::r∧P e d∧L2 P es r
theorem L2.len{α:Type}{P:α→D→Prop}{es:List α}:∀{ds:List D},L2 P es ds→ds.length=es.length:=by
 induction es with
 |nil=>intro ds h;cases h;rfl
 |cons e r ih=>intro ds h;(apply QCh h;intro d t _ h);exact congrArg (· +1) (ih h)
theorem L2.one{α:Type}{P:α→D→Prop}{e:α}{d:D}(h:P e d):L2 P [e] [d]:=⟨d,[],rfl,h,rfl⟩
theorem QBf{N:Nat}{A:QT}{env:Env}{ρ:PE}{pos:Pos}{es:List Expr}:∀{ds:List D} {g:Fz} {s:QR} {Q:List QS→QR→Prop} {E:QS→QR→Prop},
  L2 (fun e d=>QAW G N e ρ d) es ds→QAh es=true→Rm A N→Vw G A env ρ g s.heap→
  (∀g' s' vs,Ext g s g' s'→DenL g' vs ds→Q vs s')→Qa (model prog w) A (spliced (backTo pos (starEach es env))) Q E s:=by
 induction es with
 |nil=>intro ds g s Q E h _ _ V k;cases h;exact QK (k _ _ _ (.refl V.inn) .nil)
 |cons e r ih=>
  intro ds g s Q E h hs R V k
  revert h
  refine QFC fun d ds' ζ2 hd hds=>?_
  subst ζ2
  refine oA (QAt hs) fun hsr hse=>?_
  exact QH (hd A env g s _ E R V fun g' s' v x dv=>ih hds hsr R (V.up x) fun g'' s'' vs y dvs=>k _ _ _ (x.trans y) (.cons (dv.mono y.le) dvs)) (hse env)
theorem QKc{N:Nat}{A:QT}{env:Env}{ρ:PE}{pos:Pos}{es:List Keyword}:∀{ds:List D} {g:Fz} {s:QR} {Q:List QS→QR→Prop} {E:QS→QR→Prop},
  L2 (fun e d=>QAW G N e.value ρ d) es ds→Rm A N→Vw G A env ρ g s.heap→
  (∀g' s' vs,Ext g s g' s'→DenL g' vs ds→Q vs s')→Qa (model prog w) A (evalAll ((backToKw pos (keywordEach es env)).map (·.2))) Q E s:=by
 induction es with
 |nil=>intro ds g s Q E h _ V k;cases h;exact wpAny_evalAll_nil (k _ _ _ (.refl V.inn) .nil)
 |cons e r ih=>
  intro ds g s Q E h R V k
  revert h
  refine QFC fun d ds' ζ2 hd hds=>?_
  subst ζ2
  obtain ⟨nm,e,p⟩:=e
  refine wpAny_evalAll_cons (QB (QL (hd A env g s (fun v s₁=>Qa (model prog w) A (evalAll ((backToKw pos (keywordEach r env)).map (·.2))) (fun vs s₂=>Q (v::vs) s₂) E s₁) E R V fun g' s' v x dv=>?_) (fun v s₁ h₁=>QB (wpAny_standAt (QC h₁))) fun _ _ e=>e))
  exact ih hds R (V.up x) fun g'' s'' vs y dvs=>k _ _ _ (x.trans y) (.cons (dv.mono y.le) dvs)
end
theorem QEx{M:Model}{A:QT}{E:QS→QR→Prop}{s:QR}{a:QW}{Q:Option Obj→QR→Prop}(h:Q (s.heap.get? a) s):Qa M A (loadIfAlive a) Q E s:=fun _ _ _=>h
noncomputable abbrev QDj(h:Heap)(z TI TO T:QW)(b:Bool):Prop:=
 h.get? z=some {cls:= .type "zip",dict:=none,data:= .fields #[rawInt T,.bool b,.bool false,.ref TI,.ref TO],slots:= #[]}
section
variable {prog:QV}{w:QX}{A:QT}{E:QS→QR→Prop}{s:QR}
theorem QJk{z TI TO T:QW}{b:Bool}{o:Obj}{Q:Bool→QR→Prop}(hz:QDj s.heap z TI TO T b)(hT:s.heap.get? T=some o)
  (hQ:∀h',QDj h' z TI TO T true→Heap.SameBut z s.heap h'→Q false {s with heap:=h'}):Qa (model prog w) A (Builtin.SmallTypes.ownedTupleIsFree (.ref z)) Q E s:=by
 skip
 refine QB (wpAny_field hz rfl (x:=rawInt T) rfl ?_)
 refine QB (QEx ?_)
 have e:((T:Int)).toNat=T:=QAD T
 rw [e,hT]
 rw [if_neg (by rw [Option.isNone_some];exact QAS)]
 refine QB (wpAny_field hz rfl (x:= .bool b) rfl ?_)
 cases b with
 |true=>exact QC (hQ s.heap hz (Heap.SameBut.refl ..))
 |false=>exact QB (wpAny_setField_rec hz (by simp) fun h₁ hz₁ hs₁=>QC (hQ h₁ hz₁ hs₁))
theorem QHd{z TI TO T i1 i2 l1 l2:QW}{k1 k2:Nat}{xs ys:Array QS}{x y:QS}{b:Bool}{o:Obj}{Q:QS→QR→Prop}(D:ZipApart z TI TO i1 i2 l1 l2)
  (hz:QDj s.heap z TI TO T b) (hTI:IsPair s.heap TI (.ref i1) (.ref i2)) (hT:s.heap.get? T=some o)
  (h1:s.heap.IsListIter i1 l1 k1) (h2:s.heap.IsListIter i2 l2 k2) (hl1:s.heap.IsList l1 xs) (hl2:s.heap.IsList l2 ys) (hx:xs[k1]? =some x) (hy:ys[k2]? =some y)
  (hQ:∀h',QDj h' z TI TO T true→h'.IsListIter i1 l1 (k1+1)→h'.IsListIter i2 l2 (k2+1)→IsPair h' s.heap.objs.size x y→h'.objs.size=s.heap.objs.size+1→
   (∀c o,c≠z→c≠i1→c≠i2→s.heap.get? c=some o→h'.get? c=some o)→Q (.ref s.heap.objs.size) {s with heap:=h'}):
  Qa (model prog w) A (Builtin.«zip.__next__» ⟨[.ref z],[]⟩) (fun fin s'=>∃v,fin= .done (.ret v)∧Q v s') E s:=by
 show Qa _ _ (field (.ref z) 2>>=_) _ _ _
 refine QB (wpAny_field hz rfl (x:= .bool false) rfl ?_)
 skip
 refine QB (wpAny_field hz rfl (x:= .ref TI) rfl ?_)
 refine QB (wpAny_seqItems hTI rfl ?_)
 skip
 refine QB (QJk hz hT fun h₁ hz₁ hs₁=>?_)
 rw [if_neg QAS]
 refine QB ?_
 rw [←Array.forIn_toList]
 skip
 refine QB (QB (QF ?_))
 skip
 refine QB (wpAny_nextOf_list_item (h1.extBut hs₁.extBut D.i1z) (hl1.extBut hs₁.extBut D.l1z) hx fun h₂ h1₂ hs₂=>QC ?_)
 refine QC ?_
 refine QB (QB (QF ?_))
 skip
 refine QB (wpAny_nextOf_list_item ((h2.extBut hs₁.extBut D.i2z).extBut hs₂.extBut D.i12.symm) ((hl2.extBut hs₁.extBut D.l2z).extBut hs₂.extBut D.l2i1) hy fun h₃ h2₃ hs₃=>QC ?_)
 refine QC (QC ?_)
 refine QB (wpAny_newTuple (h:=?_) (hsz:=show 2≤sizeLine by decide))
 have hsz:h₃.objs.size=s.heap.objs.size:=by rw [hs₃.1,hs₂.1,hs₁.1]
 have up:∀c o,c≠i1→c≠i2→h₁.get? c=some o→(h₃.push {cls:= .type "tuple",data:= .seq #[x,y]}).get? c=some o:=fun c o c3 c4 e=>Heap.get?_push_of_some _ (hs₃.extBut _ _ c4 (hs₂.extBut _ _ c3 e))
 refine QC ⟨_,rfl,?_⟩
 skip
 have hp:IsPair (h₃.push {cls:= .type "tuple",data:= .seq #[x,y]}) h₃.objs.size x y:=Heap.get?_push_size _ rfl
 rw [hsz] at hp⊢
 exact hQ _ (up _ _ D.i1z.symm D.i2z.symm hz₁) ((h1₂.extBut hs₃.extBut D.i12).at fun o e=>Heap.get?_push_of_some _ e) (h2₃.at fun o e=>Heap.get?_push_of_some _ e) hp (by rw [Heap.size_push,hsz]) fun c o c1 c3 c4 e=>up _ _ c3 c4 (hs₁.extBut _ _ c1 e)
theorem QIg{z TI TO T i1 i2 l1 l2:QW}{k1:Nat}{xs:Array QS}{b:Bool}{o:Obj}{Q:Fin→QR→Prop}(hh:A.handled=none)(D:ZipApart z TI TO i1 i2 l1 l2)
  (hz:QDj s.heap z TI TO T b) (hTI:IsPair s.heap TI (.ref i1) (.ref i2)) (hT:s.heap.get? T=some o)
  (h1:s.heap.IsListIter i1 l1 k1) (hl1:s.heap.IsList l1 xs) (hx:xs[k1]? =none)
  (hE:∀h' e,(∀c o,c≠z→c≠i1→c≠i2→s.heap.get? c=some o→h'.get? c=some o)→(∃o,h'.get? e=some o∧o.cls= .type "StopIteration")→E (.ref e) {s with heap:=h'}):
  Qa (model prog w) A (Builtin.«zip.__next__» ⟨[.ref z],[]⟩) Q E s:=by
 show Qa _ _ (field (.ref z) 2>>=_) _ _ _
 refine QB (wpAny_field hz rfl (x:= .bool false) rfl ?_)
 skip
 refine QB (wpAny_field hz rfl (x:= .ref TI) rfl ?_)
 refine QB (wpAny_seqItems hTI rfl ?_)
 skip
 refine QB (QJk hz hT fun h₁ hz₁ hs₁=>?_)
 rw [if_neg QAS]
 refine QB ?_
 rw [←Array.forIn_toList]
 skip
 refine QB (QB (QF ?_))
 skip
 refine QB (wpAny_nextOf_list_end hh (h1.extBut hs₁.extBut D.i1z) (hl1.extBut hs₁.extBut D.l1z) hx fun h₂ e hs₂ he=>?_)
 exact hE h₂ e (fun c o c1 c3 _ q=>hs₂ _ _ c3 (hs₁.extBut _ _ c1 q)) he
theorem QDs{z TI TO T i1 i2 l1 l2:QW}{k1 k2:Nat}{xs ys:Array QS}{x y:QS}{b:Bool}{o:Obj}{Q:Option QS→QR→Prop}(D:ZipApart z TI TO i1 i2 l1 l2)
  (hz:QDj s.heap z TI TO T b) (hTI:IsPair s.heap TI (.ref i1) (.ref i2)) (hT:s.heap.get? T=some o)
  (h1:s.heap.IsListIter i1 l1 k1) (h2:s.heap.IsListIter i2 l2 k2) (hl1:s.heap.IsList l1 xs) (hl2:s.heap.IsList l2 ys) (hx:xs[k1]? =some x) (hy:ys[k2]? =some y)
  (hQ:∀h',QDj h' z TI TO T true→h'.IsListIter i1 l1 (k1+1)→h'.IsListIter i2 l2 (k2+1)→IsPair h' s.heap.objs.size x y→h'.objs.size=s.heap.objs.size+1→
   (∀c o,c≠z→c≠i1→c≠i2→s.heap.get? c=some o→h'.get? c=some o)→Q (some (.ref s.heap.objs.size)) {s with heap:=h'}):
  Qa (model prog w) A (pyNext (.ref z)) Q E s:=by
 have hT':s.TypeIs (.ref z) "zip":=⟨_,hz,rfl⟩
 skip
 exact QB (wpAny_attempt (wpAny_callSpecial?_slot (name:=Qc "__next__") hT' F.slot_zip_next
  (QJ F.slot_zip_next hT' F.entry_zip_next
   (QHd D hz hTI hT h1 h2 hl1 hl2 hx hy fun h' a1 a2 a3 a4 a5 a6=>QC (hQ h' a1 a2 a3 a4 a5 a6)) (F.args_zip_next_1 _))))
theorem QEW{z TI TO T i1 i2 l1 l2:QW}{k1:Nat}{xs:Array QS}{b:Bool}{o:Obj}{Q:Option QS→QR→Prop}(hh:A.handled=none)(D:ZipApart z TI TO i1 i2 l1 l2)
  (hz:QDj s.heap z TI TO T b) (hTI:IsPair s.heap TI (.ref i1) (.ref i2)) (hT:s.heap.get? T=some o)
  (h1:s.heap.IsListIter i1 l1 k1) (hl1:s.heap.IsList l1 xs) (hx:xs[k1]? =none)
  (hQ:∀h',(∀c o,c≠z→c≠i1→c≠i2→s.heap.get? c=some o→h'.get? c=some o)→Q none {s with heap:=h'}):Qa (model prog w) A (pyNext (.ref z)) Q E s:=by
 have hT':s.TypeIs (.ref z) "zip":=⟨_,hz,rfl⟩
 skip
 refine QB (wpAny_attempt (wpAny_callSpecial?_slot (name:=Qc "__next__") hT' F.slot_zip_next
  (QJ F.slot_zip_next hT' F.entry_zip_next (QIg hh D hz hTI hT h1 hl1 hx fun h' e hk he=>?_) (F.args_zip_next_1 _))))
 revert he
 refine rEA fun o ho hc=>?_
 refine QB (wpAny_isInstance (T:="StopIteration") (b:=true) ⟨o,ho,hc⟩ isSubtype_stop ?_)
 exact QC (hQ _ hk)
end
theorem QH6:entryFor table "dict.update.loop"=some Builtin.«dict.update.loop»:=entryFor_of_tree (by kernel_rfl)
theorem QDU:plainId "dict.update.loop"=true:=by decide+kernel
noncomputable def QCW(acc:List (Int×QS)):List (QS×QS)→List (Int×QS)
 |[]=>acc
 |(.int k _,v)::r=>QCW (stored acc k v) r
 |_::r=>QCW acc r
section
variable {prog:QV}{w:QX}
theorem QD5{A:QT}{E:QS→QR→Prop}{s:QR}{T:QW}{x y:QS}{Q:List QS→QR→Prop}(hT:IsPair s.heap T x y)(h:Q [x,y] s):Qa (model prog w) A (Builtin.Dict.pairItems (.ref T)) Q E s:=by
 skip
 refine QB (wpAny_typeOf (T:="tuple") ⟨_,hT,rfl⟩ ?_)
 rw [if_pos (by decide)]
 exact QB (wpAny_seqItems hT rfl (QC h))
theorem QMf{A:QT}(hh:A.handled=none){z TI TO i1 i2 l1 l2 d:QW}(D:ZipApart z TI TO i1 i2 l1 l2)(dz:d≠z)(d1:d≠i1)(d2:d≠i2)(dTI:d≠TI)(dl1:d≠l1)(dl2:d≠l2){xs ys:Array QS}(hlen:xs.size≤ys.size)(hint:∀(k:Nat) (x:QS),xs[k]? =some x→∃a t,x=Value.int a t){R:Result→QR→Prop}:
  ∀(n k i:Nat) (s:QR) (acc:List (Int×QS)) (T:QW) (b:Bool) (o:Obj),xs.size-k<n→acc.length+(xs.size-k)≤sizeLine→QDj s.heap z TI TO T b→s.heap.get? T=some o→T≠z→T≠i1→T≠i2→T≠d→IsPair s.heap TI (.ref i1) (.ref i2)→
   s.heap.IsListIter i1 l1 k→s.heap.IsListIter i2 l2 k→s.heap.IsList l1 xs→s.heap.IsList l2 ys→s.heap.DictOf (intKind prog w) d acc→
   (∀h' tk,h'.DictOf (intKind prog w) d (QCW acc ((xs.toList.zip ys.toList).drop k))→(∀c o,c≠d→c≠z→c≠i1→c≠i2→s.heap.get? c=some o→h'.get? c=some o)→R (.ok (.ret .none)) {s with heap:=h',toks:=tk})→
   codeAny (model prog w) A (.builtin "dict.update.loop" ⟨[.ref d,.ref z,rawInt i,.none],[]⟩) R s:=by
  intro n
  induction n with
  |zero=>exact fun _ _ _ _ _ _ _ h=>absurd h (Nat.not_lt_zero _)
  |succ n ih=>
  intro k i s acc T b o hn hsz hz hT Tz T1 T2 Td hTI h1 h2 hl1 hl2 hd hR
  refine codeAny_builtin QH6 ?_
  rw [Around.under_plainId QDU _]
  skip
  cases hx:xs[k]? with
  |none=>
   refine QB (QEW hh D hz hTI hT h1 hl1 hx fun h' hk=>?_)
   have hle:(xs.toList.zip ys.toList).drop k=[]:=by
    have:xs.size≤k:=by simpa using hx
    exact List.drop_eq_nil_of_le (by rw [List.length_zip];exact Qd (Nat.min_le_left _ _) this)
   rw [hle] at hR
   have dd:h'.DictOf (intKind prog w) d acc:=by
    revert hd
    refine QCg fun o' es ep ho r=>?_
    exact ⟨o',es,ep,hk _ _ dz d1 d2 ho,r⟩
   exact QB (QC (QC (hR h' s.toks dd fun c o _ c2 c3 c4 q=>hk c o c2 c3 c4 q)))
  |some x=>
   have hlt:k<xs.size:=by
    rcases Nat.lt_or_ge k xs.size with h|h
    ·exact h
    ·rw [Array.getElem?_eq_none h] at hx;cases hx
   obtain ⟨y,hy⟩:∃y,ys[k]? =some y:=⟨ys[k]'(by exact zn2 [_,_,_] 1 (.a (.v 0) (.n 1)) (.v 1) 1 (.v 2) (.v 1) 1 (.a (.v 0) (.n 1)) (.v 2) rfl hlen hlt),Array.getElem?_eq_getElem (by exact zn2 [_,_,_] 1 (.a (.v 0) (.n 1)) (.v 1) 1 (.v 2) (.v 1) 1 (.a (.v 0) (.n 1)) (.v 2) rfl hlen hlt)⟩
   refine oEE (hint k x hx) fun a t ζ2=>?_
   subst ζ2
   have hdrop:(xs.toList.zip ys.toList).drop k=(Value.int a t,y)::(xs.toList.zip ys.toList).drop (k+1):=by
    have e:(xs.toList.zip ys.toList)[k]? =some (Value.int a t,y):=by
     rw [List.getElem?_zip_eq_some];exact ⟨by rw [Array.getElem?_toList];exact hx,by rw [Array.getElem?_toList];exact hy⟩
    refine oE (List.getElem?_eq_some_iff.mp e) fun hl e'=>?_
    rw [List.drop_eq_getElem_cons hl,e']
   rw [hdrop] at hR
   refine QB (QDs D hz hTI hT h1 h2 hl1 hl2 hx hy fun h' hz' h1' h2' hp hs hk=>?_)
   have hdlt:d<s.heap.objs.size:=by (revert hd;refine QCg fun _ _ _ ho _=>?_);exact Heap.lt_size ho
   have hd':h'.DictOf (intKind prog w) d acc:=by
    revert hd
    refine QCg fun o' es ep ho r=>?_
    exact ⟨o',es,ep,hk _ _ dz d1 d2 ho,r⟩
   refine QB (QF (QB (wpAny_tryCatch ?_)))
   refine QD5 hp ?_
   skip
   refine QF (wpAny_dictSet_pairs (knd:=intKind prog w) (k:=a) (show (a==a)=true from beq_self_eq_true a) hd' (fun h'' hd'' hs''=>?_) (by exact zn1 [_,_,_] 1 (.v 0) (.v 1) 1 (.a (.v 0) (.v 2)) (.v 1) rfl hsz))
   have hlen2:(stored acc a y).length≤acc.length+1:=stored_length_le acc a y
   have up:∀c o,c≠d→c≠z→c≠i1→c≠i2→s.heap.get? c=some o→h''.get? c=some o:=fun c o c1 c2 c3 c4 q=>hs''.extBut _ _ c1 (hk c o c2 c3 c4 q)
   have u2:∀c o,c≠d→h'.get? c=some o→h''.get? c=some o:=fun c o c1 q=>hs''.extBut _ _ c1 q
   have hn0:xs.size-(k+1)<n:=Qp (Nat.sub_lt_sub_left (Array.getElem?_eq_some_iff.mp hx).1 (Qn k)) (Qq hn)
   have TIz:=D.TIz;have TI1:=D.TIi1;have TI2:=D.TIi2
   refine QC ⟨plainId_quiet QDU _,?_⟩
   have:=ih (k+1) (i+1) {s with heap:=h'',toks:=s.toks+1} (stored acc a y) T true o hn0 (by omega) (u2 _ _ dz.symm hz') (up _ _ Td Tz T1 T2 hT) Tz T1 T2 Td (up _ _ dTI.symm TIz TI1 TI2 hTI)
    (h1'.at fun o e=>u2 _ o d1.symm e) (h2'.at fun o e=>u2 _ o d2.symm e) (hl1.at fun o e=>up _ o dl1.symm D.l1z D.l1i1 D.l1i2 e) (hl2.at fun o e=>up _ o dl2.symm D.l2z D.l2i1 D.l2i2 e) hd''
    fun h3 tk hd3 hk3=>hR h3 tk hd3 fun c o c1 c2 c3 c4 q=>hk3 c o c1 c2 c3 c4 (up c o c1 c2 c3 c4 q)
   exact this
end
section
variable {prog:QV}{w:QX}
theorem QLB{A:QT}(hh:A.handled=none){z TI TO i1 i2 l1 l2 d:QW}(D:ZipApart z TI TO i1 i2 l1 l2)(dz:d≠z)(d1:d≠i1)(d2:d≠i2)(dTI:d≠TI)(dTO:d≠TO)(dl1:d≠l1)(dl2:d≠l2){xs ys:Array QS}(hlen:xs.size≤ys.size)(hsz:xs.size≤sizeLine)(hint:∀(k:Nat) (x:QS),xs[k]? =some x→∃a t,x=Value.int a t){R:Result→QR→Prop}
  {s:QR} {p q:QS} (hz:IsZip s.heap z TI TO .none) (hTO:IsPair s.heap TO p q) (hTI:IsPair s.heap TI (.ref i1) (.ref i2)) (h1:s.heap.IsListIter i1 l1 0) (h2:s.heap.IsListIter i2 l2 0) (hl1:s.heap.IsList l1 xs) (hl2:s.heap.IsList l2 ys) (hd:s.heap.DictOf (intKind prog w) d [])
  (hR:∀h' tk,h'.DictOf (intKind prog w) d (QCW [] (xs.toList.zip ys.toList))→(∀c o,c≠d→c≠z→c≠TO→c≠i1→c≠i2→s.heap.get? c=some o→h'.get? c=some o)→R (.ok (.ret .none)) {s with heap:=h',toks:=tk}):
  codeAny (model prog w) A (.builtin "dict.update.loop" ⟨[.ref d,.ref z,rawInt 0,.none],[]⟩) R s:=by
 refine codeAny_builtin QH6 ?_
 rw [Around.under_plainId QDU _]
 skip
 cases hx:xs[0]? with
 |none=>
  refine QB (wpAny_pyNext_zip_end hh D hz hTI hTO h1 h2 hl1 hl2 (.inl hx) fun h' hk=>?_)
  have hle:xs.toList.zip ys.toList=[]:=by
   have:xs.size=0:=by simpa using hx
   have:xs.toList=[]:=List.length_eq_zero_iff.mp (by exact this)
   rw [this];rfl
  rw [hle] at hR
  have dd:h'.DictOf (intKind prog w) d []:=by
   revert hd
   refine QCg fun o' es ep ho r=>?_
   exact ⟨o',es,ep,hk _ _ dz dTO d1 d2 ho,r⟩
  exact QB (QC (QC (hR h' s.toks dd fun c o _ c2 c3 c4 c5 q=>hk c o c2 c3 c4 c5 q)))
 |some x=>
  have hlt:0<xs.size:=by
   rcases Nat.lt_or_ge 0 xs.size with h|h
   ·exact h
   ·rw [Array.getElem?_eq_none h] at hx;cases hx
  obtain ⟨y,hy⟩:∃y,ys[0]? =some y:=⟨ys[0]'(by exact zn2 [_,_] 1 (.a (.n 0) (.n 1)) (.v 0) 1 (.v 1) (.v 0) 1 (.a (.n 0) (.n 1)) (.v 1) rfl hlen hlt),Array.getElem?_eq_getElem (by exact zn2 [_,_] 1 (.a (.n 0) (.n 1)) (.v 0) 1 (.v 1) (.v 0) 1 (.a (.n 0) (.n 1)) (.v 1) rfl hlen hlt)⟩
  refine oEE (hint 0 x hx) fun a t ζ2=>?_
  subst ζ2
  have hdrop:xs.toList.zip ys.toList=(Value.int a t,y)::(xs.toList.zip ys.toList).drop 1:=by
   have e:(xs.toList.zip ys.toList)[0]? =some (Value.int a t,y):=by
    rw [List.getElem?_zip_eq_some];exact ⟨by rw [Array.getElem?_toList];exact hx,by rw [Array.getElem?_toList];exact hy⟩
   refine oE (List.getElem?_eq_some_iff.mp e) fun hl e'=>?_
   have:=List.drop_eq_getElem_cons hl
   rw [e',List.drop_zero] at this;exact this
  rw [hdrop] at hR
  refine QB (wpAny_pyNext_zip_item D hz hTI hTO h1 h2 hl1 hl2 hx hy fun h' hz' hTO' h1' h2' hp hs hk=>?_)
  have lo:∀{c o},s.heap.get? c=some o→s.heap.objs.size≠c:=fun h=>(Qi (Heap.lt_size h)).symm
  have hd0:s.heap.objs.size≠d:=by (revert hd;refine QCg fun _ _ _ ho _=>?_);exact lo ho
  have hi1:s.heap.objs.size≠i1:=by (revert h1;refine rEA fun _ ho _=>?_);exact lo ho
  have hi2:s.heap.objs.size≠i2:=by (revert h2;refine rEA fun _ ho _=>?_);exact lo ho
  have hd':h'.DictOf (intKind prog w) d []:=by
   revert hd
   refine QCg fun o' es ep ho r=>?_
   exact ⟨o',es,ep,hk _ _ dz dTO d1 d2 ho,r⟩
  refine QB (QF (QB (wpAny_tryCatch ?_)))
  refine QD5 hp ?_
  skip
  refine QF (wpAny_dictSet_pairs (knd:=intKind prog w) (k:=a) (show (a==a)=true from beq_self_eq_true a) hd' (fun h'' hd'' hs''=>?_) (by exact Ql _))
  have up:∀c o,c≠d→c≠z→c≠TO→c≠i1→c≠i2→s.heap.get? c=some o→h''.get? c=some o:=fun c o c1 c2 c3 c4 c5 q=>hs''.extBut _ _ c1 (hk c o c2 c3 c4 c5 q)
  have u2:∀c o,c≠d→h'.get? c=some o→h''.get? c=some o:=fun c o c1 q=>hs''.extBut _ _ c1 q
  refine QC ⟨plainId_quiet QDU _,?_⟩
  have hst:=stored_length_le ([]:List (Int×QS)) a y
  rw [List.length_nil] at hst
  have:=QMf hh D dz d1 d2 dTI dl1 dl2 hlen hint (R:=R) xs.size 1 1 {s with heap:=h'',toks:=s.toks+1} (stored [] a y) s.heap.objs.size false _ (by omega) (by omega) (u2 _ _ dz.symm hz') (u2 _ _ hd0 hp) (lo hz) hi1 hi2 hd0 (up _ _ dTI.symm D.TIz D.TITO D.TIi1 D.TIi2 hTI)
   (h1'.at fun o e=>u2 _ o d1.symm e) (h2'.at fun o e=>u2 _ o d2.symm e) (hl1.at fun o e=>up _ o dl1.symm D.l1z D.l1TO D.l1i1 D.l1i2 e) (hl2.at fun o e=>up _ o dl2.symm D.l2z D.l2TO D.l2i1 D.l2i2 e) hd''
   fun h3 tk hd3 hk3=>hR h3 tk hd3 fun c o c1 c2 c3 c4 c5 q=>hk3 c o c1 c2 c4 c5 (up c o c1 c2 c3 c4 c5 q)
  exact this
end
theorem QJO:entryFor table "zip.__getattribute__"=some Builtin.«object.__getattribute__»:=
 entryFor_alias (id':="object.__getattribute__") (by kernel_rfl) (by first|rfl|decide+kernel) (by decide+kernel) (by kernel_rfl)
theorem QJe:typeLookup (.type "zip") "keys"=pure none:=by rw [typeLookup_type,builtinLookup_eq_fast];kernel_rfl
theorem QFf:typeLookup (.type "zip") "__getattr__"=pure none:=by rw [typeLookup_type,builtinLookup_eq_fast];kernel_rfl
theorem QGm(z TI TO:QW)(u:Tok):
  Meets (Builtin.«object.__getattribute__» ⟨[.ref z,.str "keys" u],[]⟩) (fun A R s=>IsZip s.heap z TI TO .none∧raisesAttr (.ref z) "keys" A R s):=
 Meets.of_wp fun prog w A R s hs=>by
  obtain ⟨hp,g,d,tk,os⟩:=s
  revert hs
  refine rA fun hx hs=>?_
  have hT:(⟨hp,g,d,tk,os⟩:QR).TypeIs (.ref z) "zip":=⟨_,hx,rfl⟩
  have f4:=QJe
  unfold Builtin.«object.__getattribute__»
  repeat (any_goals (first|assumption|wp_step))
  exact wpAny_raiseAttrError hs.1 hs.2 (attrMsg_fits (by decide+kernel) (by decide+kernel))
section
variable {prog:QV}{w:QX}{A:QT}{E:QS→QR→Prop}{s:QR}
theorem QOU{z TI TO:QW}{Q:Option QS→QR→Prop}(hx:IsZip s.heap z TI TO .none)(hA:A.handled=none)
  (h:∀h' tk,(∀b o,s.heap.get? b=some o→h'.get? b=some o)→Q none {s with heap:=h',toks:=tk}):Qa (model prog w) A (getAttr? (.ref z) "keys") Q E s:=by
 obtain ⟨hp,g,d,tk,os⟩:=s
 have hT:∀tk',(⟨hp,g,d,tk',os⟩:QR).TypeIs (.ref z) "zip":=fun _=>⟨_,hx,rfl⟩
 have f1:=sub_AttributeError
 have f3:=F.slot_zip_getattribute.lookup
 have f4:=F.slot_zip_getattribute.bind (.ref z)
 have f5:=QFf
 unfold getAttr? getAttrBy? getAttrBy
 repeat (any_goals (first|assumption|exact hT _|((with_reducible show Qa _ _ (call (Value.builtin "zip.__getattribute__") _ _) _ _ _);refine call_meets F.slot_zip_getattribute (hT _) QJO (F.args_zip_getattribute_2 _ _) (QGm z TI TO _) ⟨hx,hA,fun h' tk' e hx'=>?_⟩)|wp_step))
 refine oEE hx'.there fun t' u' he=>?_
 have hi:∀Q':Bool→QR→Prop,∀E':QS→QR→Prop,Q' true ⟨h',g,d,tk',os⟩→Qa (model prog w) A (isInstance (.ref e) (.type "AttributeError")) Q' E' ⟨h',g,d,tk',os⟩:=fun Q' E' q=>wpAny_isInstance (T:="AttributeError") (b:=true) ⟨_,he,rfl⟩ f1 q
 show Qa _ _ (getattributeRaised _ _ _ _ _ _ _) _ _ _
 unfold getattributeRaised
 refine QB (hi _ _ ?_)
 rw [if_pos rfl]
 unfold hookBehind hookOrError attributeErrorLeaves
 rw [show onTheHeap (Value.type "zip")=false from rfl]
 rw [if_neg QAS]
 rw [f5]
 refine QB (QC ?_)
 dsimp only
 rw [if_neg QAS]
 refine wpAny_throw ?_
 refine QB (hi _ _ ?_)
 rw [if_pos rfl]
 exact QC (h h' tk' hx'.keeps)
end
section
variable {prog:QV}{w:QX}{A:QT}{E:QS→QR→Prop}{s:QR}
theorem QHf(hh:A.handled=none){z TI TO i1 i2 l1 l2:QW}(D:ZipApart z TI TO i1 i2 l1 l2){xs ys:Array QS}(hlen:xs.size≤ys.size)(hsz:xs.size≤sizeLine)(hint:∀(k:Nat) (x:QS),xs[k]? =some x→∃a t,x=Value.int a t)
  {p q:QS} {Q:QS→QR→Prop} (hz:IsZip s.heap z TI TO .none) (hTO:IsPair s.heap TO p q) (hTI:IsPair s.heap TI (.ref i1) (.ref i2)) (h1:s.heap.IsListIter i1 l1 0) (h2:s.heap.IsListIter i2 l2 0) (hl1:s.heap.IsList l1 xs) (hl2:s.heap.IsList l2 ys)
  (hR:∀h' tk,h'.DictOf (intKind prog w) s.heap.objs.size (QCW [] (xs.toList.zip ys.toList))→(∀c o,c≠z→c≠TO→c≠i1→c≠i2→s.heap.get? c=some o→h'.get? c=some o)→Q (.ref s.heap.objs.size) {s with heap:=h',toks:=tk}):
  Qa (model prog w) A (call (.type "dict") [.ref z]) Q E s:=by
 refine callType_codes (Q₁:=fun obj s₁=>obj= .ref s.heap.objs.size∧s₁={s with heap:=s.heap.push {cls:= .type "dict",data:= .dict #[]}}) F.kt_called_dict (F.kt_typeCall_dict_1 _) F.entry_dict_init (kt_code_dict_new _ ⟨rfl,rfl⟩) ?_
 intro obj s₁
 refine rA fun ζ0 ζ1=>?_
 cases ζ0
 cases ζ1
 have hnew:(s.heap.push {cls:= .type "dict",data:= .dict #[]}).DictOf (intKind prog w) s.heap.objs.size []:=Heap.DictOf.new s.heap
 refine ⟨hnew.typeIs,F.args_dict_init_2 _ _,?_⟩
 unfold Builtin.«dict.__init__»
 refine QB ?_
 unfold Builtin.Dict.selfAndRest
 refine QB (wpAny_notOrdered_dict hnew.typeIs ?_)
 show Qa _ _ (pure (s.heap.objs.size,[Value.ref z])) _ _ _
 refine QC ?_
 show Qa _ _ (Builtin.Dict.updateFrom "dict.__init__" s.heap.objs.size (.ref z) [] .none) _ _ _
 unfold Builtin.Dict.updateFrom
 have up:∀c o,s.heap.get? c=some o→(s.heap.push {cls:= .type "dict",data:= .dict #[]}).get? c=some o:=fun c o e=>Heap.get?_push_of_some _ e
 refine QB (wpAny_typeOf (T:="zip") ⟨_,up _ _ hz,rfl⟩ ?_)
 rw [if_pos (by decide)]
 refine QB (QOU (up _ _ hz) hh fun h' tk hk=>?_)
 have u2:∀c o,s.heap.get? c=some o→h'.get? c=some o:=fun c o e=>hk _ _ (up _ _ e)
 have lo:∀{c o},s.heap.get? c=some o→s.heap.objs.size≠c:=fun h=>(Qi (Heap.lt_size h)).symm
 have hi1:s.heap.objs.size≠i1:=by (revert h1;refine rEA fun _ ho _=>?_);exact lo ho
 have hi2:s.heap.objs.size≠i2:=by (revert h2;refine rEA fun _ ho _=>?_);exact lo ho
 have hL1:s.heap.objs.size≠l1:=by (revert hl1;refine rEA fun _ ho _=>?_);exact lo ho
 have hL2:s.heap.objs.size≠l2:=by (revert hl2;refine rEA fun _ ho _=>?_);exact lo ho
 have hd':h'.DictOf (intKind prog w) s.heap.objs.size []:=by
  revert hnew
  refine QCg fun o' es ep ho r=>?_
  exact ⟨o',es,ep,hk _ _ ho,r⟩
 rw [if_pos Option.isNone_none]
 refine QB (QQ (QB (wpAny_pyIter_zip (u2 _ _ hz) ?_)))
 refine QC ⟨plainId_quiet QDU _,?_⟩
 refine QLB (A:=A.in1) hh D (lo hz) hi1 hi2 (lo hTI) (lo hTO) hL1 hL2 hlen hsz hint (u2 _ _ hz) (u2 _ _ hTO) (u2 _ _ hTI) (h1.at fun o e=>u2 _ o e) (h2.at fun o e=>u2 _ o e) (hl1.at fun o e=>u2 _ o e) (hl2.at fun o e=>u2 _ o e) hd' fun h3 tk3 hd3 hk3=>?_
 exact ⟨rfl,hR h3 tk3 hd3 fun c o c2 c3 c4 c5 e=>hk3 c o (lo e).symm c2 c3 c4 c5 (u2 _ _ e)⟩
end
section
variable {prog:QV}{w:QX}{G:Gd prog w}{N:Nat}
theorem QGZ{α:Type}{c:Prop}[Decidable c]{x a:α}{o:Option α}(h:(if c then some x else o)=some a):x=a∨o=some a:=by
 by_cases q:c
 ·rw [if_pos q] at h;exact .inl (Option.some.inj h)
 ·rw [if_neg q] at h;exact .inr h
theorem QHS{f:Str}{c:QS}(h:QCw f=some c):∀a,c≠ .ref a:=by
 intro a e
 subst e
 skip
 rcases QGZ h with h|h
 ·cases h
 rcases QGZ h with h|h
 ·cases h
 rcases QGZ h with h|h
 ·cases h
 rcases QGZ h with h|h
 ·cases h
 rcases QGZ h with h|h
 ·cases h
 exact absurd (QAn h).2 (fun e=>nomatch e)
theorem QHk{f:Str}{ds:List D}{d:D}(h:dCall f ds=some d):∃c,QCw f=some c:=by
 (have hR:=QMI h;clear h;induction hR<;>exact ⟨_,rfl⟩)
theorem constOk{c:Const}{k:Nat}{pos:Pos}{ρ:PE}{d:D}(h:QNw c=some d):QAW G N (.Constant c k pos) ρ d:=by
 intro A env g s Q E R V kk
 cases c with
 |none=>cases h;exact wpAny_Constant_none (kk _ _ _ (.refl V.inn) .none)
 |bool b=>cases h;exact wpAny_Constant_bool (kk _ _ _ (.refl V.inn) (.bool _))
 |int i=>cases h;exact wpAny_Constant_int (kk _ _ _ (.tok V.inn) (.int _ _))
 |str x=>cases h;exact wpAny_Constant_str (kk _ _ _ (.tok V.inn) (.str _ _))
 |bytes b=>cases h;exact Constant_bytes (kk _ _ _ (.tok V.inn) (.bytes _ _))
 |_=>exact QAV h
theorem QBD{x:Str}(hp:plainName x=true):(x==("__debug__":Str))=false∧(x==("__classdict__":Str))=false:=by
 refine oA (Bool.and_eq_true_iff.mp hp) fun h1 h2=>?_
 exact ⟨eq_of_beq h1,eq_of_beq h2⟩
set_option tactic.hygienic true in
theorem QG5{C:QCl}(hC:COk G C){x:Str}{pos:Pos}{ρ:PE}{d:D}(hp:plainName x=true)(h:(if ρ.kind x=some .globalImplicit then C x else ρ.get x)=some d):QAW G N (.Name x pos) ρ d:=by
 intro A env g s Q E R V kk
 replace hp:=QBD hp
 refine QM ?_ hp.1
 split at h
 ·rename_i hk
  refine QE0 (hC x d h) fun _ v dv hv=>?_
  exact QAw V hk hv (kk _ _ _ (.refl V.inn) (dv.mono V.base))
 ·exact QBP V h hp.2 fun v dv=>kk _ _ _ (.refl V.inn) dv
theorem QPk{l r:Expr}{op:Operator}{pos:Pos}{ρ:PE}{a b d:D}(h1:QAW G N l ρ a)(h2:QAW G N r ρ b)(h:QB1 op a b=some d):QAW G N (.BinOp l op r pos) ρ d:=by
 intro A env g s Q E R V k
 refine wpAny_BinOp (h1 A env g s _ E R V fun g1 s1 v1 x1 d1=>h2 A env g1 s1 _ E R (V.up x1) fun g2 s2 v2 x2 d2=>?_)
 exact QS8 h (d1.mono x2.le) d2 x2.inn fun g3 s3 v3 x3 d3=>k _ _ _ ((x1.trans x2).trans x3) d3
theorem QTI{e:Expr}{pos:Pos}{ρ:PE}{i:Int}(h:QAW G N e ρ (.int i)):QAW G N (.UnaryOp .USub e pos) ρ (.int (-i)):=by
 intro A env g s Q E R V k
 refine wpAny_UnaryOp (h A env g s _ E R V fun g1 s1 v1 x1 d1=>?_)
 apply wE d1.out;intro t
 exact P.neg_int (k _ _ _ (x1.trans (.tok x1.inn)) (.int _ _))
theorem QTC{e:Expr}{pos:Pos}{ρ:PE}{d:D}{b:Bool}(h:QAW G N e ρ d)(hb:QC2 d=some b):QAW G N (.UnaryOp .Not e pos) ρ (.bool (!b)):=by
 intro A env g s Q E R V k
 refine wpAny_UnaryOp (h A env g s _ E R V fun g1 s1 v1 x1 d1=>?_)
 exact not_value (QIi hb d1 x1.inn fun tk=>k _ _ _ (x1.trans (.tok x1.inn)) (.bool _))
theorem QQj{t b o:Expr}{pos:Pos}{ρ:PE}{c:Bool}{d:D}(ht:QAl G N t ρ c)(h:QAW G N (if c then b else o) ρ d):QAW G N (.IfExp t b o pos) ρ d:=by
 intro A env g s Q E R V k
 refine wpAny_IfExp (ht A env g s _ E R V fun g1 s1 x1=>?_)
 cases c
 ·exact h A env g1 s1 Q E R (V.up x1) fun g2 s2 v2 x2 d2=>k _ _ _ (x1.trans x2) d2
 ·exact h A env g1 s1 Q E R (V.up x1) fun g2 s2 v2 x2 d2=>k _ _ _ (x1.trans x2) d2
theorem QMy{t b o:Expr}{pos:Pos}{ρ:PE}{c:Bool}{d:Bool}(ht:QAl G N t ρ c)(h:QAl G N (if c then b else o) ρ d):QAl G N (.IfExp t b o pos) ρ d:=by
 intro A env g s Q E R V k
 rw [arm_isTrue_IfExp]
 refine QB (ht A env g s _ E R V fun g1 s1 x1=>?_)
 cases c
 ·exact h A env g1 s1 Q E R (V.up x1) fun g2 s2 x2=>k _ _ (x1.trans x2)
 ·exact h A env g1 s1 Q E R (V.up x1) fun g2 s2 x2=>k _ _ (x1.trans x2)
theorem notTest{e:Expr}{pos:Pos}{ρ:PE}{b:Bool}(h:QAl G N e ρ b):QAl G N (.UnaryOp .Not e pos) ρ (!b):=by
 intro A env g s Q E R V k
 exact wpAny_isTrue_Not (h A env g s _ E R V fun g1 s1 x1=>k _ _ x1)
theorem QK9{l r:Expr}{op:CmpOp}{pos:Pos}{ρ:PE}{a b:D}{c:Bool}(hm:behindInMarks op r=false)(h1:QAW G N l ρ a)(h2:QAW G N r ρ b)(h:QA8 op a b=some c)(hN:1≤N):
  QAW G N (.Compare l [op] [r] pos) ρ (.bool c):=by
 intro A env g s Q E R V k
 have hu:A.units+8<cLine:=by have:=R.uni;exact zn2 [_,_,_] 1 (.a (.a (.v 0) (.n 8)) (.n 1)) (.v 1) 8 (.n 1) (.v 2) 1 (.a (.a (.v 0) (.m 8 (.v 2))) (.n 1)) (.v 1) rfl hN this
 refine wpAny_Compare1 (h1 A env g s _ E R V fun g1 s1 v1 x1 d1=>h2 A env g1 s1 _ E R (V.up x1) fun g2 s2 v2 x2 d2=>?_) hm
 exact QKb h (d1.mono x2.le) d2 x2.inn hu (k _ _ _ (x1.trans x2) (.bool _))
theorem QIR{e:Expr}{ρ:PE}{d:D}{b:Bool}(h:QAW G N e ρ d)(hb:QC2 d=some b)(hi:∀env whole,isTrue e env whole=(do let v←whole;standAt e.pos;holding [v] (truthy v))):QAl G N e ρ b:=by
 intro A env g s Q E R V k
 rw [hi]
 refine QB (h A env g s _ E R V fun g1 s1 v1 x1 d1=>QB (wpAny_standAt (QF ?_)))
 exact QIi hb d1 x1.inn fun tk=>k _ _ (x1.trans (.tok x1.inn))
theorem QKS{op:BoolOp}{x y:Expr}{pos:Pos}{ρ:PE}{d e:D}{b:Bool}(h1:QAW G N x ρ d)(hb:QC2 d=some b)
  (h:if (match op,b with| .And,false=>true| .Or,true=>true|_,_=>false)=true then e=d else QAW G N y ρ e):QAW G N (.BoolOp op [x,y] pos) ρ e:=by
 intro A env g s Q E R V k
 rw [arm_eval_BoolOp]
 skip
 skip
 refine QB (h1 A env g s _ E R V fun g1 s1 v1 x1 d1=>QB (wpAny_standAt (QB (QF (QIi hb d1 x1.inn fun tk=>?_)))))
 have x1':=x1.trans (.tok x1.inn (tk:=tk))
 cases op<;>cases b<;>simp only [Bool.false_eq_true,if_false,if_true] at h⊢
 ·subst h;exact QC (k _ _ _ x1' d1)
 ·exact h A env g1 _ Q E R (V.up x1') fun g2 s2 v2 x2 d2=>k _ _ _ (x1'.trans x2) d2
 ·exact h A env g1 _ Q E R (V.up x1') fun g2 s2 v2 x2 d2=>k _ _ _ (x1'.trans x2) d2
 ·subst h;exact QC (k _ _ _ x1' d1)
theorem QRH{es:List Expr}{pos:Pos}{ρ:PE}{ds:List D}(h:L2 (fun e d=>QAW G N e ρ d) es ds)(hs:QAh es=true)(hl:es.length≤20):
  QAW G N (.List es pos) ρ (.list ds):=by
 intro A env g s Q E R V k
 have hlen:ds.length=es.length:=h.len
 refine wpAny_List (QBf h hs R V fun g1 s1 vs x1 dvs=>⟨?_,?_⟩)
 ·have:=dvs.length;have:=QAb;omega
 ·have x:=Ext.add (g:=g1) (tk:=s1.toks) x1.inn (QAm s1.heap _) (QAp s1.heap) (Heap.get?_push_size (o:={cls:= .type "list",data:= .seq vs.toArray}) s1.heap rfl)
  exact k _ _ _ (x1.trans x) (.list (Fz.add_self _ _ _) ⟨rfl,rfl,rfl⟩ rfl (by simpa using dvs.mono x.le))
theorem QQw{es:List Expr}{n:Nat}{pos:Pos}{ρ:PE}{ds:List D}(h:L2 (fun e d=>QAW G N e ρ d) es ds)(hs:QAh es=true)(hl:es.length≤20):
  QAW G N (.Tuple es n pos) ρ (.tup ds):=by
 intro A env g s Q E R V k
 have hlen:ds.length=es.length:=h.len
 refine wpAny_Tuple (QBf h hs R V fun g1 s1 vs x1 dvs=>⟨?_,?_⟩)
 ·have:=dvs.length;have:=QAb;omega
 ·have x:=Ext.add (g:=g1) (tk:=s1.toks) x1.inn (QAm s1.heap _) (QAp s1.heap) (Heap.get?_push_size (o:={cls:= .type "tuple",data:= .seq vs.toArray}) s1.heap rfl)
  exact k _ _ _ (x1.trans x) (.tup (Fz.add_self _ _ _) (by simpa using dvs.mono x.le))
theorem QMH{v i:Expr}{pos:Pos}{ρ:PE}{a b d:D}(h1:QAW G N v ρ a)(h2:QAW G N i ρ b)(h:QBb a b=some d):QAW G N (.Subscript v i pos) ρ d:=by
 intro A env g s Q E R V k
 refine Subscript_ (h1 A env g s _ E R V fun g1 s1 v1 x1 d1=>h2 A env g1 s1 _ E R (V.up x1) fun g2 s2 v2 x2 d2=>?_)
 exact QP9 h (d1.mono x2.le) d2 x2.inn fun g3 s3 v3 x3 d3=>k _ _ _ ((x1.trans x2).trans x3) d3
noncomputable def QJq(G:Gd prog w)(N:Nat)(e:Option Expr)(ρ:PE)(d:D):Prop:=match e with
 |some e=>QAW G N e ρ d
 |none=>d= .none
theorem QPF{e:Option Expr}{ρ:PE}{d:D}(h:QJq G N e ρ d){A:QT}{env:Env}{g:Fz}{s:QR}{Q E:QS→QR→Prop}(R:Rm A N)(V:Vw G A env ρ g s.heap)
  (k:∀g' s' v,Ext g s g' s'→Den g' v d→Q v s'):Qa (model prog w) A (valueOrNone (evalOpt e env)) Q E s:=by
 cases e with
 |some e=>exact h A env g s Q E R V k
 |none=>cases h;exact QC (k _ _ _ (.refl V.inn) .none)
theorem QGk{v:Expr}{lo hi st:Option Expr}{p pos:Pos}{ρ:PE}{a l u t d:D}(h1:QAW G N v ρ a)(hl:QJq G N lo ρ l)(hu:QJq G N hi ρ u)(ht:QJq G N st ρ t)(h:QDy a l u t=some d):
  QAW G N (.Subscript v (.Slice lo hi st p) pos) ρ d:=by
 intro A env g s Q E R V k
 refine Subscript_ (h1 A env g s _ E R V fun g1 s1 v1 x1 d1=>?_)
 rw [arm_eval_Slice]
 refine QB (QPF hl R (V.up x1) fun g2 s2 v2 x2 d2=>QB (QF (QPF hu R ((V.up x1).up x2) fun g3 s3 v3 x3 d3=>QB (QF (QPF ht R (((V.up x1).up x2).up x3) fun g4 s4 v4 x4 d4=>?_)))))
 refine wpAny_newObj_type ?_ (by size_fits)
 have x:=((x1.trans x2).trans x3).trans x4
 refine QPl h (((d1.mono x2.le).mono x3.le).mono x4.le) ((d2.mono x3.le).mono x4.le) (d3.mono x4.le) d4 x4.inn fun g5 s5 v5 x5 d5=>k _ _ _ (x.trans x5) d5
theorem QIw{f:QS}(hf:∀a,f≠ .ref a):keeperOf f=pure .machine:=by
 cases f<;>first|rfl|exact absurd rfl (hf _)
theorem QHq{args:List Expr}{env:Env}{pos:Pos}(hs:QAh args=true):(backTo pos (starEach args env)).any (·.1)=false:=by
 induction args with
 |nil=>rfl
 |cons e r ih=>
  refine oA (QAt hs) fun hsr hse=>?_
  rw [hse env]
  exact ih hsr
theorem QBo{M:Model}{A:QT}{E:QS→QR→Prop}{s:QR}{f:QS}{args:List Expr}{env:Env}{pos:Pos}{keywords:List (Option Str×Sem QS)}{Q:Args→QR→Prop}(hs:QAh args=true)
  (hall:keywords.all (·.1.isSome)=true)
  (h:Qa M A (spliced (backTo pos (starEach args env))) (fun vs s₁=>Qa M A (evalAll (keywords.map (·.2))) (fun ks s₂=>Q ⟨vs,(keywords.filterMap (·.1)).zip ks⟩ s₂) E s₁) E s):
  Qa M A (evalArgs f true (backTo pos (starEach args env)) keywords) Q E s:=by
 cases args with
 |nil=>exact evalArgs_kw_nil hall fun Γ p hΓ=>h Γ p hΓ Γ p hΓ
 |cons e r=>
  rw [(QAt hs).2 env] at h⊢
  exact evalArgs_kw hall h
theorem QCo{args:List Expr}{env:Env}{pos:Pos}{keywords:List (Option Str×Sem QS)}(hs:QAh args=true)(hall:keywords.all (·.1.isSome)=true):((backTo pos (starEach args env)).any (·.1)||keywords.any (·.1.isNone))=false:=by
 rw [QHq hs,Bool.false_or,List.any_eq_false]
 intro x hx
 have:=List.all_eq_true.mp hall x hx
 cases q:x.1 with
 |none=>rw [q] at this;exact absurd this QAS
 |some y=>exact QAS
theorem QAf{M:Model}{A:QT}{E:QS→QR→Prop}{s:QR}{f:QS}(hf:∀a,f≠ .ref a){first:List QS}{args:List Expr}{env:Env}{pos p2:Pos}{Q:QS→QR→Prop}(hs:QAh args=true)
  (h:Qa M A (spliced (backTo p2 (starEach args env))) (fun vs s₁=>Qa M A (call f (first++vs) []) Q E s₁) E s):Qa M A (callWith pos f first (backTo p2 (starEach args env)) []) Q E s:=by
 skip
 refine QB (QF (QBo hs rfl (QL h (fun vs s₁ h₁=>wpAny_evalAll_nil ?_) fun _ _ e=>e)))
 refine QB (wpAny_standAt ?_)
 rw [QIw hf,QHq hs]
 refine QB (QC ?_)
 exact QB (QL h₁ (fun r s₂ hr=>QB (QF (wpAny_point (QC hr)))) fun _ _ x=>x)
theorem QKy{env:Env}{pos:Pos}:∀{l:List Keyword} {ns:List Str},QFF l=some ns→(backToKw pos (keywordEach l env)).filterMap (·.1)=ns∧(backToKw pos (keywordEach l env)).all (·.1.isSome)=true∧ns.length=l.length:=by
 intro l
 induction l with
 |nil=>intro ns h;cases h;exact ⟨rfl,rfl,rfl⟩
 |cons x r ih=>
  intro ns h
  obtain ⟨nm,v,pp⟩:=x
  cases nm with
  |none=>exact QAV h
  |some nm=>
   have h:(QFF r).map (nm:: ·)=some ns:=h
   refine oEA (Option.map_eq_some_iff.mp h) fun l q ζ2=>?_
   subst ζ2
   refine oAA (ih q) fun a1 a2 a3=>?_
   exact ⟨by rw [←a1];rfl,by rw [←a2];rfl,congrArg (· +1) a3⟩
theorem QDJ{f:Str}{p pos:Pos}{args:List Expr}{ρ:PE}{ds:List D}{d:D}(hp:plainName f=true)(hk:ρ.kind f=some .globalImplicit)(hs:QAh args=true)
  (hds:L2 (fun e d=>QAW G N e ρ d) args ds) (h:dCall f ds=some d) (hN:10≤N):QAW G N (.Call (.Name f p) args [] pos) ρ d:=by
 intro A env g s Q E R V k
 replace hp:=QBD hp
 refine oE (QHk h) fun c hc=>?_
 have hcr:=QHS hc
 refine wpAny_Call_Name_kw (QM (QAw V hk (.inr (G.bn f c hc)) ?_) hp.1)
 refine QAf hcr hs (QBf hds hs R V fun g1 s1 vs x1 dvs=>?_)
 refine oEA (QSD (prog:=prog) (w:=w) (A:=A) (E:=E) (Q:=Q) h dvs x1.inn (R.less hN) fun g2 s2 v2 x2 d2=>k _ _ _ (x1.trans x2) d2) fun c' hc' h'=>?_
 rw [hc] at hc'
 cases hc'
 exact h'
theorem QNm{F:QC9}(hF:FOk G N F){f:Str}{p pos:Pos}{args:List Expr}{kws:List Keyword}{ρ:PE}{ds:List D}{kn:List Str}{kd:List D}{d:D}{sem:QBR}
  (hk:ρ.kind f=some .globalImplicit) (hs:QAh args=true) (hfs:F f=some sem)
  (hds:L2 (fun e d=>QAW G N e ρ d) args ds) (hkn:QFF kws=some kn) (hkd:L2 (fun e d=>QAW G N e.value ρ d) kws kd)
  (h:sem ds (kn.zip kd) d):QAW G N (.Call (.Name f p) args kws pos) ρ d:=by
 intro A env g s Q E R V k
 refine QE0 (hF f sem hfs) fun hdb a hmg=>rA fun hkeep hc=>?_
 refine wpAny_Call_Name_kw (QM (QAw V hk (.inl hmg) ?_) hdb)
 refine oAA (QKy (env:=env) (pos:=pos) hkn) fun n1 n2 n3=>?_
 have hkl:kd.length=kws.length:=hkd.len
 refine callWith_of (P:=fun h=>HLe G.h h) (QCo hs n2) hkeep (QBo hs n2 (QBf hds hs R V fun g1 s1 vs x1 dvs=>QKc hkd R (V.up x1) fun g2 s2 kvs x2 dks=>⟨?_,?_⟩))
 ·exact (V.up x1|>.up x2).hle
 ·rw [n1]
  have ez:(kn.zip kd).map (·.2)=kd:=by rw [List.map_snd_zip];exact zn2 [_,_,_] 1 (.v 0) (.v 1) 1 (.v 2) (.v 1) 1 (.v 0) (.v 2) rfl (Qe n3.symm) (Qe hkl)
  have en:(kn.zip kd).map (·.1)=kn:=by rw [List.map_fst_zip];exact zn2 [_,_,_] 1 (.v 0) (.v 1) 1 (.v 0) (.v 2) 1 (.v 2) (.v 1) rfl (Qe n3) (Qe hkl.symm)
  have:=hc A g2 s2 vs kvs ds (kn.zip kd) d Q E h R ((V.up x1).up x2).fr x2.inn ((V.up x1).up x2).base (dvs.mono x2.le) (by rw [ez];exact dks) fun g3 s3 v3 x3 d3=>k _ _ _ ((x1.trans x2).trans x3) d3
  rw [en] at this
  exact this
end
noncomputable def ovr:List (Str×QS)→(Str→Option QS)→Str→Option QS
 |[],m=>m
 |(x,v)::r,m=>ovr r (fun y=>if y=x then some v else m y)
theorem QGB{x:Str}:∀{bs:List (Str×QS)} {m:Str→Option QS},x∉bs.map (·.1)→ovr bs m x=m x
 |[],_,_=>rfl
 |(y,v)::r,m,h=>by
  rw [Q0,Qx,not_or] at h
  unfold ovr
  rw [QGB h.2,if_neg h.1]
theorem QNG{x:Str}{v:QS}:∀{bs:List (Str×QS)} {m:Str→Option QS},(bs.map (·.1)).Nodup→(x,v)∈bs→ovr bs m x=some v
 |(y,u)::r,m,hn,h=>by
  rw [Q0,Q9] at hn
  unfold ovr
  rcases Qx.mp h with e|h
  ·cases e
   rw [QGB hn.1,if_pos rfl]
  ·exact QNG hn.2 h
structure Lw (prog:QV)(w:QX)(A:QT)(target:Expr)(I:QW)(fp wr:List QW)(n:Nat)(Bd:Nat→List (Str×QS)→Prop)(St:Nat→Heap→Prop):Prop where
 sub:∀b∈wr,b∈fp
 frame:∀i h h',St i h→(∀b∈fp,∀o,h.get? b=some o→h'.get? b=some o)→St i h'
 step:∀(i:Nat) (env:Env) (m:Str→Option QS) (s:QR) (Q:Unit→QR→Prop) (E:QS→QR→Prop),i<n→St i s.heap→s.heap.Ns env.locals m→env.locals∉fp→env.scope.kind= .function→
  (∀x∈targetNames target,env.kindOf x=some .local)→
  (∀bs h' tk,Bd i bs→St (i+1) h'→h'.Ns env.locals (ovr bs m)→(∀b o,b≠env.locals→b∉wr→s.heap.get? b=some o→h'.get? b=some o)→Q () {s with heap:=h',toks:=tk})→
  Qa (model prog w) A (pyNext (.ref I)) (fun r s₁=>∃v,r=some v∧Qa (model prog w) A (letOwnedTupleGo target (.ref I) v) (fun _ s₂=>Qa (model prog w) A (assign target env v) Q E s₂) E s₁) E s
 done:∀(s:QR) (Q:Option QS→QR→Prop) (E:QS→QR→Prop),St n s.heap→
  (∀h' tk,(∀b o,b∉wr→s.heap.get? b=some o→h'.get? b=some o)→Q none {s with heap:=h',toks:=tk})→Qa (model prog w) A (pyNext (.ref I)) Q E s
 self:∀i (s:QR) (Q:QS→QR→Prop) (E:QS→QR→Prop),St i s.heap→Q (.ref I) s→Qa (model prog w) A (pyIter (.ref I)) Q E s
section
variable {prog:QV}{w:QX}{A:QT}{I:QW}{fp wr:List QW}{n:Nat}{St:Nat→Heap→Prop}
theorem QD7{E:QS→QR→Prop}{s:QR}{env:Env}{x:Str}{v:QS}{m:Str→Option QS}{Q:Unit→QR→Prop}(hk:env.scope.kind= .function)(hl:env.kindOf x=some .local)(hn:s.heap.Ns env.locals m)
  (h:∀h' tk,h'.Ns env.locals (fun y=>if y=x then some v else m y)→Heap.SameBut env.locals s.heap h'→Q () {s with heap:=h',toks:=tk}):Qa (model prog w) A (storeName env x v) Q E s:=
 wpAny_storeName_local hl hn (fun h' a b=>h h' _ a b) (by rw [hk];rfl)
theorem Lw.ofWalks{P:Nat→QS→Prop}(W:Walks prog w A I fp wr n P St)(x:Str)(p:Pos):Lw prog w A (.Name x p) I fp wr n (fun i bs=>∃v,P i v∧bs=[(x,v)]) St where
 sub:=W.sub
 frame:=W.frame
 step:=fun i env m s Q E hi st hn hL hk hx hQ=>by
  refine W.item i s _ E hi st fun v h' tk hP hst hkeep=>⟨v,rfl,?_⟩
  skip
  refine QC ?_
  have hLw:env.locals∉wr:=fun h=>hL (W.sub _ h)
  refine wpAny_assign_Name (QD7 hk (hx x (.head _)) (hn.at' fun o e=>hkeep _ o hLw e) fun h'' tk' hn' hs=>?_)
  refine hQ _ h'' tk' ⟨v,hP,rfl⟩ (W.frame _ _ _ hst fun b hb o e=>hs.extBut b o (fun q=>hL (q▸hb)) e) hn' fun b o hbL hbw e=>hs.extBut b o hbL (hkeep b o hbw e)
 done:=W.done
 self:=W.self
theorem QEd{es:List Expr}{env:Env}:∀{xs:List Str},QAj es=some xs→(assignEach es env).length=xs.length∧(assignEach es env).findIdx? (·.1)=none∧(assignEach es env).map (·.2)=xs.zipWith (fun x (e:Expr) v=>(do standAt e.pos;bindName env x v)) es:=by
 induction es with
 |nil=>intro xs h;cases h;exact ⟨rfl,rfl,rfl⟩
 |cons e r ih=>
  intro xs h
  cases e with
  |Name x p=>
   unfold QAj at h
   cases q:QAj r with
   |none=>rw [q] at h;exact QAV h
   |some ys=>
    rw [q] at h
    cases h
    exact oAA (ih q) fun h1 h2 h3=>⟨congrArg Nat.succ h1,List.findIdx?_cons.trans (by rw [h2];rfl),congrArg (assign (.Name x p) env:: ·) h3⟩
  |_=>exact QAV h
theorem storeAll{E:QS→QR→Prop}{env:Env}(hk:env.scope.kind= .function):∀{es:List Expr} {xs:List Str} {vs:List QS} {s:QR} {m:Str→Option QS} {Q:Unit→QR→Prop},xs.length=es.length→vs.length=xs.length→
  (∀x∈xs,env.kindOf x=some .local)→s.heap.Ns env.locals m→
  (∀h' tk,h'.Ns env.locals (ovr (xs.zip vs) m)→(∀b o,b≠env.locals→s.heap.get? b=some o→h'.get? b=some o)→Q () {s with heap:=h',toks:=tk})→
  Qa (model prog w) A (assignInOrder (xs.zipWith (fun x (e:Expr) v=>(do standAt e.pos;bindName env x v)) es) vs) Q E s
 |[],[],[],s,m,Q,_,_,_,hn,h=>QC (h s.heap s.toks hn fun _ _ _ e=>e)
 |e::es,x::xs,v::vs,s,m,Q,h1,h2,hx,hn,h=>by
  skip
  refine QB (QF (QB (wpAny_standAt (wpAny_bindName (QD7 hk (hx x (.head _)) hn fun h' tk hn' hs=>?_)))))
  refine storeAll hk (by simpa using h1) (by simpa using h2) (fun y hy=>hx y (.tail _ hy)) hn' fun h'' tk' hn'' hk'=>?_
  exact h h'' tk' hn'' fun b o hb e=>hk' b o hb (hs.extBut b o hb e)
 |[],_::_,_,_,_,_,h1,_,_,_,_=>by simp at h1
 |_::_,[],_,_,_,_,h1,_,_,_,_=>by simp at h1
 |_,[],_::_,_,_,_,_,h2,_,_,_=>by simp at h2
 |_,_::_,[],_,_,_,_,h2,_,_,_=>by simp at h2
theorem Lw.ofWalksU{Pt:Nat→Array QS→Prop}{Mid:Nat→QW→Heap→Prop}(hh:A.handled=none)(W:WalksU prog w A I fp wr n Pt St Mid){es:List Expr}{k:Nat}{p:Pos}{xs:List Str}(hxs:QAj es=some xs)
  (hsz:∀i vals,Pt i vals→vals.size=xs.length):Lw prog w A (.Tuple es k p) I fp wr n (fun i bs=>∃vals,Pt i vals∧bs=xs.zip vals.toList) St where
 sub:=W.sub
 frame:=W.frame
 step:=fun i env m s Q E hi st hn hL hk hx hQ=>by
  have hLw:env.locals∉wr:=fun h=>hL (W.sub _ h)
  refine W.item i s _ E hi st fun T vals h' tk hP hT hm hkeep=>⟨_,rfl,?_⟩
  refine W.go es k p i T _ _ E hm fun h₂ hst₂ hk₂=>?_
  refine oAA (QEd (env:=env) hxs) fun t1 t2 t3=>?_
  have hTw:=W.apart _ _ _ hm
  have hT₂:h₂.IsTuple T vals:=by (revert hT;refine rEA fun o ho r=>?_);exact ⟨o,hk₂ T o hTw ho,r⟩
  have hxl:xs.length=es.length:=by
   clear t1 t2 t3 hx hsz hQ
   induction es generalizing xs with
   |nil=>cases hxs;rfl
   |cons e r ih=>
    cases e with
    |Name x p=>
     unfold QAj at hxs
     cases q:QAj r with
     |none=>rw [q] at hxs;exact QAV hxs
     |some ys=>rw [q] at hxs;cases hxs;simp [ih q]
    |_=>exact QAV hxs
  have hxn:∀x∈xs,env.kindOf x=some .local:=fun x hx'=>hx x (by show x∈(QAj es).getD [];rw [hxs];exact hx')
  refine wpAny_assign_Tuple hh hT₂ (by rw [t1,hsz i vals hP]) t2 fun h₃ hs₃=>?_
  rw [t3]
  have hn₂:h₂.Ns env.locals m:=hn.at' fun o e=>hk₂ _ o hLw (hkeep _ o hLw e)
  have hn₃:h₃.Ns env.locals m:=hn₂.at' fun o e=>hs₃ _ o (Qi hn₂.lt) e
  refine storeAll hk hxl (by rw [Array.length_toList,hsz i vals hP]) hxn hn₃ fun h₄ tk₄ hn₄ hk₄=>?_
  refine hQ _ h₄ tk₄ ⟨vals,hP,rfl⟩ (W.frame _ _ _ hst₂ fun b hb o e=>?_) hn₄ fun b o hbL hbw e=>?_
  ·exact hk₄ b o (fun q=>hL (q▸hb)) (hs₃ b o (Qi (Heap.lt_size e)) e)
  ·have e2:=hk₂ b o hbw (hkeep b o hbw e)
   exact hk₄ b o hbL (hs₃ b o (Qi (Heap.lt_size e2)) e2)
 done:=W.done
 self:=W.self
end
section
variable {prog:QV}{w:QX}{A:QT}{R:Result→QR→Prop}{s:QR}
theorem QM9{elt target iter:Expr}{ifs:List Expr}{scope:Scope}{pos:Pos}{it acc:QS}{env:Env}(I:Nat→QR→Prop)
  (turn:∀n s,I n s→Qa (model prog w) A (pyNext it) (fun r s₁=>match r with
   |none=>R (.ok .next) s₁
   |some v=>Qa (model prog w) A (letOwnedTupleGo target it v) (fun _ s₁'=>Qa (model prog w) A (assign target env v) (fun _ s₂=>
     Qa (model prog w) A (forIn ifs true fun c r=>if r=true then do let ok←isTrue c env (eval c env);pure (ForInStep.yield ok) else pure (ForInStep.yield r)) (fun ok s₃=>
      if ok=true then Qa (model prog w) A (eval elt env) (fun x s₄=>
       Qa (model prog w) A (call (.builtin "list.append") [acc,x]) (fun _ s₅=>∃m,m<n∧I m s₅) (notedBy (model prog w) A env fun e s'=>R (.error e) s') s₄) (notedBy (model prog w) A env fun e s'=>R (.error e) s') s₃
      else ∃m,m<n∧I m s₃) (notedBy (model prog w) A env fun e s'=>R (.error e) s') s₂) (notedBy (model prog w) A env fun e s'=>R (.error e) s') s₁') (notedBy (model prog w) A env fun e s'=>R (.error e) s') s₁) (notedBy (model prog w) A env fun e s'=>R (.error e) s') s)
  (n:Nat) (h:I n s):
  codeAny (model prog w) A (.compLoop (.ListComp elt [⟨target,iter,ifs,0⟩] scope pos) 0 it acc env) R s:=by
 refine codeAny_loop rfl I (fun n s hI=>?_) n h
 show Qa _ A ((compTurn (.ListComp elt [⟨target,iter,ifs,0⟩] scope pos) 0 it acc env).onRaise (fun x=>do noteFrame x env;theTreesLotGoes x)) _ _ s
 refine wpAny_noted ?_
 rw [compTurn_list]
 refine QB (wpAny_standAt (QB (QL (turn n s hI) (fun r s₁ h₁=>?_) fun _ _ h'=>h')))
 cases r with
 |none=>exact QC h₁
 |some v=>
  refine QB (QL h₁ (fun _ s₁' h₁'=>?_) fun _ _ h'=>h')
  refine QB (QL h₁' (fun _ s₂ h₂=>QB (QL h₂ (fun ok s₃ h₃=>?_) fun _ _ h'=>h')) fun _ _ h'=>h')
  cases ok with
  |false=>exact QC ⟨rfl,h₃⟩
  |true=>
   exact QB (QB (QL h₃ (fun x s₄ h₄=>QB (QL h₄ (fun _ s₅ h₅=>QC (QC ⟨rfl,h₅⟩)) fun _ _ h'=>h')) fun _ _ h'=>h'))
end
noncomputable def QC4(env:Env):List (Str×NameKind)→List (Str×QW)→List (Str×QW)
 |[],acc=>acc
 |(n,k)::r,acc=>if k== .free then QC4 env r ((n,(env.cells.lookup n).getD 0)::acc) else QC4 env r acc
theorem QMq{scope:Scope}{env:Env}(h:∀p∈scope.names,p.2= .free→∃c,env.cells.lookup p.1=some c):closureFor scope env=pure (QC4 env scope.names []):=by
 have key:∀(names:List (Str×NameKind)) (acc:List (Str×QW)),(∀p∈names,p.2= .free→∃c,env.cells.lookup p.1=some c)→
   (forIn names acc fun p cs=>if (p.2== .free)=true then (do let c←cellOf env p.1;pure (ForInStep.yield ((p.1,c)::cs))) else pure (ForInStep.yield cs):Sem (List (Str×QW)))=pure (QC4 env names acc):=by
  intro names
  induction names with
  |nil=>intro acc _;rfl
  |cons p r ih=>
   intro acc h
   obtain ⟨n,k⟩:=p
   rw [List.forIn_cons]
   unfold QC4
   by_cases hk:(k==NameKind.free)=true
   ·refine oE (h (n,k) (.head _) (eq_of_beq hk)) fun c hc=>?_
    have hc':cellOf env n=pure c:=by unfold cellOf;rw [hc]
    rw [hk]
    rw [hc',hc]
    exact ih _ fun q hq=>h q (.tail _ hq)
   ·simp only [hk,if_false]
    exact ih _ fun q hq=>h q (.tail _ hq)
 have:=key scope.names [] h
 have e:closureFor scope env=((forIn scope.names ([]:List (Str×QW)) fun p cs=>if (p.2== .free)=true then (do let c←cellOf env p.1;pure (ForInStep.yield ((p.1,c)::cs))) else pure (ForInStep.yield cs):Sem (List (Str×QW)))>>=fun x=>pure x):=rfl
 rw [e,this];rfl
theorem QFa{env:Env}:∀{names:List (Str×NameKind)} {acc:List (Str×QW)},(∀p∈names,p.2= .free→∃c,env.cells.lookup p.1=some c)→(∀n c,(n,c)∈acc→env.cells.lookup n=some c)→
  (∀n c,(n,c)∈QC4 env names acc→env.cells.lookup n=some c)∧(∀n,n∈acc.map (·.1)∨(n,NameKind.free)∈names→n∈(QC4 env names acc).map (·.1))
 |[],acc,_,h2=>⟨h2,fun n h=>by
   rcases h with h|h
   ·exact h
   ·cases h⟩
 |(m,k)::r,acc,h1,h2=>by
  unfold QC4
  by_cases hk:(k==NameKind.free)=true
  ·rw [if_pos hk]
   have hk':=eq_of_beq hk
   refine oE (h1 (m,k) (.head _) hk') fun c hc=>?_
   have:= @QFa env r ((m,(env.cells.lookup m).getD 0)::acc) (fun q hq=>h1 q (.tail _ hq)) (fun n c' hm=>by
    rcases Qx.mp hm with e|hm
    ·cases e;dsimp only at hc;rw [hc];rfl
    ·exact h2 n c' hm)
   refine ⟨this.1,fun n h=>this.2 n ?_⟩
   rcases h with h|h
   ·exact .inl (Qw.mpr (by refine oEA (Qw.mp h) fun q hq e=>?_;exact ⟨q,.tail _ hq,e⟩))
   ·rcases Qx.mp h with e|h
    ·cases e;exact .inl (Qw.mpr ⟨_,.head _,rfl⟩)
    ·exact .inr h
  ·rw [if_neg hk]
   have:= @QFa env r acc (fun q hq=>h1 q (.tail _ hq)) h2
   refine ⟨this.1,fun n h=>this.2 n ?_⟩
   rcases h with h|h
   ·exact .inl h
   ·rcases Qx.mp h with e|h
    ·cases e;exact absurd (by rfl) hk
    ·exact .inr h
theorem QBY{α:Type}:∀{l:List (Str×α)} {n:Str},n∈l.map (·.1)→∃c,l.lookup n=some c
 |(k,v)::r,n,h=>by
  rw [Qt]
  cases q:n==k with
  |true=>exact ⟨_,rfl⟩
  |false=>
   refine QBY (l:=r) ?_
   rcases Qx.mp h with e|h
   ·dsimp only at e;rw [e] at q;simp at q
   ·exact h
theorem QE7{env:Env}{names:List (Str×NameKind)}{n:Str}{c:QW}(h1:∀p∈names,p.2= .free→∃c,env.cells.lookup p.1=some c)(hn:(n,NameKind.free)∈names)(hc:env.cells.lookup n=some c):
  (QC4 env names []).lookup n=some c:=by
 refine oA (@QFa env names [] h1 (fun _ _ h=>nomatch h)) fun m1 m2=>?_
 refine oE (QBY (m2 n (.inr hn))) fun c' hc'=>?_
 rw [hc',←m1 n c' (mem_of_lookup hc'),hc]
noncomputable def QDY(g:Fz)(bs:List (Str×QS))(ds:List (Str×D)):Prop:=bs.map (·.1)=ds.map (·.1)∧DenL g (bs.map (·.2)) (ds.map (·.2))∧(ds.map (·.1)).Nodup
theorem QDY.get{g:Fz}{bs:List (Str×QS)}{ds:List (Str×D)}(h:QDY g bs ds){x:Str}{d:D}(hx:ds.lookup x=some d){m:Str→Option QS}:∃v,ovr bs m x=some v∧Den g v d:=by
 revert h
 refine rAA fun h1 h2 h3=>?_
 have hm:=mem_of_lookup hx
 refine oE (List.getElem?_of_mem hm) fun i hi=>?_
 refine oEA (h2.get (i:=i) (d:=d) (by rw [Q7,hi];rfl)) fun v hv dv=>?_
 have hx':(bs.map (·.1))[i]? =some x:=by rw [h1,Q7,hi];rfl
 rw [Q7] at hv hx'
 cases q:bs[i]? with
 |none=>rw [q] at hv;cases hv
 |some p=>
  rw [q] at hv hx'
  obtain ⟨y,u⟩:=p
  simp at hv hx'
  subst hv hx'
  exact ⟨u,QNG (by rw [h1];exact h3) (List.mem_of_getElem? q),dv⟩
section
variable {prog:QV}{w:QX}{G:Gd prog w}{N:Nat}
noncomputable def QCj(G:Gd prog w)(N:Nat)(ifs:List Expr)(ρ:PE)(b:Bool):Prop:=
 ∀(A:QT) (env:Env) (g:Fz) (s:QR) (Q:Bool→QR→Prop) (E:QS→QR→Prop),Rm A N→Vw G A env ρ g s.heap→
  (∀g' s',Ext g s g' s'→Q b s')→Qa (model prog w) A (forIn ifs true fun c r=>if r=true then do let ok←isTrue c env (eval c env);pure (ForInStep.yield ok) else pure (ForInStep.yield r)) Q E s
theorem QKf{ifs:List Expr}{A:QT}{env:Env}{s:QR}{Q:Bool→QR→Prop}{E:QS→QR→Prop}(h:Q false s):
  Qa (model prog w) A (forIn ifs false fun c r=>if r=true then do let ok←isTrue c env (eval c env);pure (ForInStep.yield ok) else pure (ForInStep.yield r)) Q E s:=by
 induction ifs with
 |nil=>exact QC h
 |cons c r ih=>
  rw [List.forIn_cons]
  rw [if_neg QAS]
  exact QB (QC ih)
theorem QEJ{ρ:PE}:QCj G N [] ρ true:=fun A env g s Q E R V k=>QC (k _ _ (.refl V.inn))
theorem QDi{c:Expr}{r:List Expr}{ρ:PE}{b:Bool}{d:Bool}(h1:QAl G N c ρ b)(h2:if b=true then QCj G N r ρ d else d=false):QCj G N (c::r) ρ d:=by
 intro A env g s Q E R V k
 rw [List.forIn_cons]
 rw [if_pos rfl]
 refine QB (QB (h1 A env g s _ E R V fun g1 s1 x1=>QC ?_))
 cases b
 ·rw [if_neg QAS] at h2
  subst h2
  exact QKf (k _ _ x1)
 ·rw [if_pos rfl] at h2
  exact h2 A env g1 s1 Q E R (V.up x1) fun g2 s2 x2=>k _ _ (x1.trans x2)
end
theorem QCK{ρ:PE}:∀{names:List (Str×NameKind)} {x:Str},(QFI ρ names).lookup x=(names.lookup x).map fun k=>if (k==NameKind.free&&ρ.kind x==some .cell)=true then .cell else k
 |[],x=>rfl
 |(n,k)::r,x=>by
  have ih:= @QCK ρ r x
  unfold QFI at ih⊢
  rw [Q0]
  cases hx:x==n with
  |true=>
   have e:=eq_of_beq hx
   subst e
   by_cases hc:(k==NameKind.free&&ρ.kind x==some .cell)=true
   ·dsimp only;rw [if_pos hc,Qt,Qt,hx];exact (congrArg some (if_pos hc)).symm
   ·dsimp only;rw [if_neg hc,Qt,Qt,hx];exact (congrArg some (if_neg hc)).symm
  |false=>
   by_cases hc:(k==NameKind.free&&ρ.kind n==some .cell)=true
   ·dsimp only;rw [if_pos hc,Qt,Qt,hx];exact ih
   ·dsimp only;rw [if_neg hc,Qt,Qt,hx];exact ih
theorem QCS{α:Type}{p:Str→Bool}:∀{l:List (Str×α)} {x:Str} {d:α},(l.filter fun q=>p q.1).lookup x=some d→l.lookup x=some d∧p x=true
 |(n,k)::r,x,d,h=>by
  rw [List.filter_cons] at h
  by_cases hp:p n=true
  ·rw [if_pos hp] at h
   rw [Qt] at h⊢
   cases hx:x==n with
   |true=>rw [hx] at h;exact ⟨h,by rw [eq_of_beq hx];exact hp⟩
   |false=>rw [hx] at h;exact QCS h
  ·rw [if_neg hp] at h
   refine oA (QCS h) fun h1 h2=>?_
   rw [Qt]
   cases hx:x==n with
   |true=>rw [eq_of_beq hx] at h2;exact absurd h2 hp
   |false=>exact ⟨h1,h2⟩
theorem QGR{α:Type}:∀{l r:List (Str×α)} {x:Str} {d:α},(l++r).lookup x=some d→l.lookup x=some d∨(l.lookup x=none∧r.lookup x=some d)
 |[],r,x,d,h=> .inr ⟨rfl,h⟩
 |(n,k)::l,r,x,d,h=>by
  rw [List.cons_append,Qt] at h
  rw [Qt]
  cases hx:x==n with
  |true=>rw [hx] at h;exact .inl h
  |false=>rw [hx] at h;exact QGR h
theorem QEh{α:Type}{l:List (Str×α)}{x:Str}{d:α}(h:l.lookup x=some d):x∈l.map (·.1):=Qw.mpr ⟨_,mem_of_lookup h,rfl⟩
theorem QJA{α:Type}{x y:α}(h:x≠y):[x,y].Nodup:=Q9.mpr ⟨fun m=>h (Qy.mp m),Q9.mpr ⟨List.not_mem_nil,List.nodup_nil⟩⟩
theorem QMT{es:List Expr}{k:Nat}{p:Pos}{x y:Str}{a b:D}(h:QAj es=some [x,y])(q:x≠y):QAe (.Tuple es k p) (.tup [a,b])=some [(x,a),(y,b)]:=by
 show (match QAj es with|some xs=>if xs.length=[a,b].length∧xs.Nodup then some (xs.zip [a,b]) else none|none=>none)=_
 rw [h];exact if_pos ⟨rfl,QJA q⟩
theorem QSs{es:List Expr}{k:Nat}{p:Pos}{ns:List Str}{c:QW}{ds:List D}(h:QAj es=some ns)(q:ns.length=ds.length∧ns.Nodup):QAe (.Tuple es k p) (.inst c ds)=some (ns.zip ds):=by
 show (match QAj es with|some xs=>if xs.length=ds.length∧xs.Nodup then some (xs.zip ds) else none|none=>none)=_
 rw [h];exact if_pos q
theorem bindNames{target:Expr}{d:D}{bs:List (Str×D)}(h:QAe target d=some bs):bs.map (·.1)=targetNames target:=by
 have fin:∀{es:List Expr} {ds:List D},(match QAj es with|some xs=>if xs.length=ds.length∧xs.Nodup then some (xs.zip ds) else none|none=>none)=some bs→bs.map (·.1)=(QAj es).getD []:=fun {es ds} h=>by
  cases q:QAj es with
  |none=>rw [q] at h;exact QAV h
  |some xs=>rw [q] at h;exact oA (QAn h) fun c e=>by rw [←e];exact List.map_fst_zip (Qe c.1)
 cases target with
 |Name x p=>cases h;rfl
 |Tuple es k p=>cases d with
  |tup ds=>exact fin h
  |inst c ds=>exact fin h
  |_=>exact QAV h
 |_=>exact QAV h
section
variable {prog:QV}{w:QX}{G:Gd prog w}{N:Nat}
structure QEm (ρ:PE)(scope:Scope)(target:Expr):Prop where
 kind:scope.kind= .function
 cell:∀p∈scope.names,p.2≠ .cell
 loc:∀p∈scope.names,p.2= .local→scope.names.lookup p.1=some .local
 free:∀p∈scope.names,p.2= .free→ρ.kind p.1=some .cell∨ρ.kind p.1=some .free
 tar:∀x∈targetNames target,scope.names.lookup x=some .local
theorem QMt{ρ:PE}{scope:Scope}{target:Expr}(h:QJT ρ scope target=true):QEm ρ scope target:=by
 unfold QJT at h
 simp only [QAT,decide_eq_true_eq,List.all_eq_true] at h
 revert h
 refine rA fun ζ0 h5=>?_
 obtain ⟨⟨⟨h1,h2⟩,h3⟩,h4⟩:=ζ0
 exact ⟨h1,h2,h3,h4,h5⟩
theorem QLG{env:Env}{ρ:PE}{g:Fz}{h:Heap}(V:Vw G A env ρ g h)(scope:Scope):(relabel scope env).names=QFI ρ scope.names:=by
 skip
 skip
 refine List.map_congr_left fun p _=>?_
 obtain ⟨n,k⟩:=p
 simp only [V.kindOf,V.kind,Bool.and_true,beq_self_eq_true]
theorem QO5{env:Env}{ρ:PE}{g gk:Fz}{h hk:Heap}(V:Vw G A env ρ g h){scope:Scope}{target:Expr}(K:QEm ρ scope target)(le:FLe g gk)(he:HLe h hk)(inn:FIn gk hk){C:QW}{m:Str→Option QS}{bs:List (Str×QS)}{dbs:List (Str×D)}
  (hn:hk.Ns C (ovr bs m)) {d:D} (hb:QAe target d=some dbs) (hbd:QDY gk bs dbs):Vw G A (compEnvC scope (QC4 env scope.names []) C env) (QBL ρ scope dbs) gk hk where
 kind:=K.kind
 sc:=QLG V scope
 glo:=V.glo
 bui:=V.bui
 inn:=inn
 base:=V.base.trans le
 fr:=V.fr.up he
 vars:=by
  intro x dx hx
  have hcl:∀p∈scope.names,p.2= .free→∃c,env.cells.lookup p.1=some c:=fun p hp hf=>V.cel _ (K.free p hp hf)
  refine Or.elim (QGR hx) (fun h1=>?_) (rA fun _ h1=>?_)
  ·refine oEA (hbd.get (m:=m) h1) fun v hv dv=>?_
   refine ⟨v,dv,.inl ⟨?_,_,hn,hv⟩⟩
   have hloc:=K.tar x (by rw [←bindNames hb];exact QEh h1)
   show (QFI ρ scope.names).lookup x=_
   rw [QCK,hloc];rfl
  ·refine oA (QCS (p:=fun y=>scope.names.lookup y==some .free) h1) fun h2 h3=>?_
   have hfr:scope.names.lookup x=some .free:=eq_of_beq h3
   have hmem:=mem_of_lookup hfr
   refine oEA ((V.vars x dx h2).up le he) fun v dv hv=>?_
   refine ⟨v,dv,?_⟩
   refine Or.elim hv (rA fun hl _=>?_) (QCx fun _ c hc hi=>?_)
   ·exfalso
    rcases K.free _ hmem rfl with q|q<;>rw [hl] at q<;>cases q
   ·refine .inr ⟨?_,c,QE7 hcl hmem hc,hi⟩
    show (QFI ρ scope.names).lookup x=_∨(QFI ρ scope.names).lookup x=_
    rw [QCK,hfr]
    by_cases q:ρ.kind x=some .cell
    ·left;simp [q]
    ·right;simp [q]
 cel:=by
  intro x hx
  have hcl:∀p∈scope.names,p.2= .free→∃c,env.cells.lookup p.1=some c:=fun p hp hf=>V.cel _ (K.free p hp hf)
  have hx':(QFI ρ scope.names).lookup x=some .cell∨(QFI ρ scope.names).lookup x=some .free:=hx
  rw [QCK] at hx'
  cases q:scope.names.lookup x with
  |none=>rw [q] at hx';rcases hx' with e|e<;>cases e
  |some k=>
   rw [q] at hx'
   have hmem:=mem_of_lookup q
   have hk:k= .free:=by
    have hnc:=K.cell _ hmem
    cases k with
    |free=>rfl
    |cell=>exact absurd rfl hnc
    |_=>
     exfalso
     rcases hx' with e|e
     ·simp only [Option.map_some] at e;injection e with e;split at e<;>simp_all
     ·simp only [Option.map_some] at e;injection e with e;split at e<;>simp_all
   subst hk
   refine oE (hcl _ hmem rfl) fun c hc=>?_
   exact ⟨c,QE7 hcl hmem hc⟩
end
section
variable {prog:QV}{w:QX}{G:Gd prog w}{N:Nat}
theorem QDY.mono{g g':Fz}(l:FLe g g'){bs:List (Str×QS)}{ds:List (Str×D)}(h:QDY g bs ds):QDY g' bs ds:=⟨h.1,h.2.1.mono l,h.2.2⟩
structure Src (prog:QV)(w:QX)(A:QT)(target:Expr)(I:QW)(fp wr:List QW)(ds:List D)(Bd:Nat→List (Str×QS)→Prop)(St:Nat→Heap→Prop)(s:QR)(g':Fz)(s':QR):Prop where
 lw:Lw prog w A target I fp wr ds.length Bd St
 st:St 0 s'.heap
 low:∀b∈fp,b<s'.heap.objs.size
 off:∀b∈wr,g' b=none∧s.heap.get? b=none
 nd:∀i h,St i h→∀b∈fp,∃o,h.get? b=some o∧((b∉wr∧b<gsz)∨∀es ep,o.data≠ .dict es ep)
 bd:∀i bs,i<ds.length→Bd i bs→∃d dbs,ds[i]? =some d∧QAe target d=some dbs∧QDY g' bs dbs
theorem Src.stay{A:QT}{target:Expr}{I:QW}{fp wr:List QW}{ds:List D}{Bd:Nat→List (Str×QS)→Prop}{St:Nat→Heap→Prop}{s s':QR}{g':Fz}(W:Src prog w A target I fp wr ds Bd St s g' s'){i:Nat}{h h':Heap}(st:St i h)(x:HLe h h'):St i h':=
 W.lw.frame _ _ _ st fun b hb o e=>by
  refine oEA (W.nd _ _ st b hb) fun o' e' nd=>?_
  rw [e] at e';cases e'
  rcases nd with nd|nd
  ·refine oEA (x _ _ e) fun o2 e2 sm=>?_
   rw [sm.low nd.2] at e2;exact e2
  ·exact x.exact e nd
theorem Src.ndw{A:QT}{target:Expr}{I:QW}{fp wr:List QW}{ds:List D}{Bd:Nat→List (Str×QS)→Prop}{St:Nat→Heap→Prop}{s s':QR}{g':Fz}(W:Src prog w A target I fp wr ds Bd St s g' s'){i:Nat}{h:Heap}(st:St i h):∀b∈wr,∃o,h.get? b=some o∧∀es ep,o.data≠ .dict es ep:=
 fun b hb=>by
  refine oEA (W.nd _ _ st b (W.lw.sub _ hb)) fun o e nd=>?_
  exact ⟨o,e,nd.resolve_left fun q=>q.1 hb⟩
theorem QJ4{P:Prop}{b:QW}{o' o o'':Obj}(x:QDA b o' o)(y:QDA b o' o'')(nd:(P∧b<gsz)∨∀es ep,o.data≠ .dict es ep):o''=o:=by
 rcases nd with nd|nd
 ·rw [x.low nd.2,y.low nd.2]
 ·have hd:∀es ep,o'.data≠ .dict es ep:=fun es ep=>by rw [←x.data];exact nd es ep
  rw [x.exact hd,y.exact hd]
theorem Src.live{A:QT}{target:Expr}{I:QW}{fp wr:List QW}{ds:List D}{Bd:Nat→List (Str×QS)→Prop}{St:Nat→Heap→Prop}{s s':QR}{g':Fz}(W:Src prog w A target I fp wr ds Bd St s g' s'){i:Nat}{h:Heap}(st:St i h):∀b∈wr,∃o,h.get? b=some o:=
 fun b hb=>by refine oEA (W.nd _ _ st b (W.lw.sub _ hb)) fun o e _=>?_;exact ⟨o,e⟩
inductive CL (T:D→Bool→Prop)(V:D→D→Prop):List D→List D→Prop
 |nil:CL T V [] []
 |skip {d:D} {ds ys:List D}:T d false→CL T V ds ys→CL T V (d::ds) ys
 |take {d y:D} {ds ys:List D}:T d true→V d y→CL T V ds ys→CL T V (d::ds) (y::ys)
theorem CL.inv{T:D→Bool→Prop}{V:D→D→Prop}{d:D}{r ys:List D}(h:CL T V (d::r) ys):(T d false∧CL T V r ys)∨(T d true∧∃y zs,V d y∧CL T V r zs∧ys=y::zs):=by
 cases h with
 |skip a b=>exact .inl ⟨a,b⟩
 |take a b c=>exact .inr ⟨a,_,_,b,c,rfl⟩
theorem Lw.item{A:QT}{target:Expr}{I:QW}{fp wr:List QW}{n:Nat}{Bd:Nat→List (Str×QS)→Prop}{St:Nat→Heap→Prop}(L:Lw prog w A target I fp wr n Bd St)
  (i:Nat) (env:Env) (m:Str→Option QS) (s:QR) (X:QR→Prop) (Q:Unit→QR→Prop) (E:QS→QR→Prop) (hi:i<n) (st:St i s.heap) (hn:s.heap.Ns env.locals m) (hL:env.locals∉fp) (hk:env.scope.kind= .function)
  (hx:∀x∈targetNames target,env.kindOf x=some .local)
  (hQ:∀bs h' tk,Bd i bs→St (i+1) h'→h'.Ns env.locals (ovr bs m)→(∀b o,b≠env.locals→b∉wr→s.heap.get? b=some o→h'.get? b=some o)→Q () {s with heap:=h',toks:=tk}):
  Qa (model prog w) A (pyNext (.ref I)) (fun r s₁=>match r with
   |none=>X s₁
   |some v=>Qa (model prog w) A (letOwnedTupleGo target (.ref I) v) (fun _ s₁'=>Qa (model prog w) A (assign target env v) (fun u s₂=>Q u s₂) E s₁') E s₁) E s:=by
 refine QL (L.step i env m s Q E hi st hn hL hk hx hQ) (fun r s₁ hr₁=>?_) fun _ _ e=>e
 revert hr₁;refine rEA fun v ζ1 h₁=>?_;subst ζ1;exact h₁
structure QGh (g g₂:Fz)(s s₂:QR)(L C:QW)(wr:List QW)(St:Nat→Heap→Prop)(T:D→Bool→Prop)(V:D→D→Prop)(ds ys:List D)(i:Nat)(gk:Fz)(s':QR)(m':Str→Option QS)(yv:Array QS)(dn rs:List D):Prop where
 same:∃h tk,s'={s₂ with heap:=h,toks:=tk}
 st:St i s'.heap
 acc:s'.heap.PlainList L yv
 ns:s'.heap.Ns C m'
 ext:Ext g s gk s'
 le:FLe g₂ gk
 gL:gk L=none
 gC:gk C=none
 gw:∀b∈wr,gk b=none
 run:CL T V (ds.drop i) rs
 den:DenL gk yv.toList dn
 app:dn++rs=ys
 len:dn.length≤i
structure CPl (s s₂:QR)(L C:QW)(fp wr:List QW):Prop where
 LC:L≠C
 Lf:L∉fp
 Cf:C∉fp
 Lw:L∉wr
 Cw:C∉wr
 old:∀b o,s.heap.get? b=some o→b≠C∧b≠L∧b∉wr
 same:∀h tk,∃h' tk',({s₂ with heap:=h,toks:=tk}:QR)={s with heap:=h',toks:=tk'}
section
variable {A:QT}{env:Env}{ρ:PE}{g g₂:Fz}{s s₂:QR}{target:Expr}{I L C:QW}{fp wr:List QW}{Bd:Nat→List (Str×QS)→Prop}{St:Nat→Heap→Prop}{T:D→Bool→Prop}{Y:D→D→Prop}{ds ys:List D}{i:Nat}{gk g₄:Fz}{s' s₄:QR}{m':Str→Option QS}{yv:Array QS}{dn rs:List D}
theorem QGh.frame(J:QGh g g₂ s s₂ L C wr St T Y ds ys i gk s' m' yv dn rs)(P:CPl s s₂ L C fp wr){h₂:Heap}{tk₂:Nat}(hk:∀b o,b≠C→b∉wr→s'.heap.get? b=some o→h₂.get? b=some o):HLe s.heap h₂∧FIn gk h₂∧Ext g s gk {s₂ with heap:=h₂,toks:=tk₂}:=by
 have hle₂:HLe s.heap h₂:=fun b o e=>by
  refine oAA (P.old b o e) fun q1 q2 q3=>?_
  refine oEA (J.ext.heap b o e) fun o' e' sm=>?_
  exact ⟨o',hk b o' q1 q3 e',sm⟩
 have inn₂:FIn gk h₂:=fun b o e=>by
  refine oEA (J.ext.inn b o e) fun o' e' sm=>?_
  exact ⟨o',hk b o' (fun q=>by rw [q,J.gC] at e;cases e) (fun q=>by rw [J.gw b q] at e;cases e) e',sm⟩
 exact ⟨hle₂,inn₂,hle₂,J.ext.le,inn₂,J.ext.new,P.same _ _⟩
theorem QGh.step{h₂:Heap}{tk₂:Nat}(W:Src prog w A target I fp wr ds Bd St s g₂ s₂)(st:St i h₂)(acc:h₂.PlainList L yv)(ns:h₂.Ns C m')(ext:Ext g s gk {s₂ with heap:=h₂,toks:=tk₂})(le:FLe g₂ gk)(gL:gk L=none)(gC:gk C=none)(gw:∀b∈wr,gk b=none)
  (run:CL T Y (ds.drop i) rs) (den:DenL gk yv.toList dn) (app:dn++rs=ys) (len:dn.length≤i) (x:Ext gk {s₂ with heap:=h₂,toks:=tk₂} g₄ s₄):QGh g g₂ s s₂ L C wr St T Y ds ys i g₄ s₄ m' yv dn rs:=by
 have off:∀b o,gk b=none→h₂.get? b=some o→g₄ b=none:=fun b o q1 q2=>by
  cases q:g₄ b with
  |none=>rfl
  |some o=>
   rcases x.new _ o q with e|e
   ·rw [q1] at e;cases e
   ·rw [show ({s₂ with heap:=h₂,toks:=tk₂}:QR).heap=h₂ from rfl,q2] at e;cases e
 refine oEE x.same fun h₄ tk₄ ζ2=>?_
 subst ζ2
 refine ⟨⟨h₄,tk₄,rfl⟩,W.stay st x.heap,x.heap.plain acc,x.heap.ns ns,ext.trans x,le.trans x.le,?_,?_,fun b hb=>?_,run,den.mono x.le,app,len⟩
 ·revert acc
  refine rE fun n hn=>?_
  exact off _ _ gL hn
 ·revert ns
  refine QCg fun o' _ _ hn _=>?_
  exact off _ _ gC hn
 ·refine oE (W.live st b hb) fun o ho=>?_
  exact off _ _ (gw b hb) ho
theorem QGh.put(J:QGh g g₂ s s₂ L C wr St T Y ds ys i gk s' m' yv dn rs)(P:CPl s s₂ L C fp wr)(W:Src prog w A target I fp wr ds Bd St s g₂ s₂){y:D}{v:QS}{h₅:Heap}(hs:Heap.SameBut L s'.heap h₅)(hl:h₅.PlainList L (yv.push v))(dy:Den gk v y){us:List D}(hr:dn++y::rs=us)
  (hd:dn.length<i):QGh g g₂ s s₂ L C wr St T Y ds us i gk {s' with heap:=h₅} m' (yv.push v) (dn++[y]) rs:=by
 have hle₅:HLe s.heap h₅:=fun b o e=>by
  refine oEA (J.ext.heap b o e) fun o' e' sm=>?_
  exact ⟨o',hs.extBut b o' (P.old b o e).2.1 e',sm⟩
 have inn₅:FIn gk h₅:=fun b o e=>by
  refine oEA (J.ext.inn b o e) fun o' e' sm=>?_
  exact ⟨o',hs.extBut b o' (fun q=>by rw [q,J.gL] at e;cases e) e',sm⟩
 apply wEE J.same;intro h tk
 refine ⟨⟨h₅,tk,rfl⟩,W.lw.frame _ _ _ J.st fun b hb o e=>hs.extBut b o (fun q=>P.Lf (q▸hb)) e,hl,J.ns.sameBut hs P.LC.symm,⟨hle₅,J.ext.le,inn₅,J.ext.new,P.same _ _⟩,J.le,J.gL,J.gC,J.gw,J.run,?_,?_,?_⟩
 ·rw [Array.toList_push];exact J.den.append (.cons dy .nil)
 ·rw [←hr,Q5];rfl
 ·rw [Qu];exact hd
end
theorem QFy{α:Type}{l:List α}{i:Nat}{d:α}(h:l[i]? =some d):l.drop i=d::l.drop (i+1):=by
 refine oE (List.getElem?_eq_some_iff.mp h) fun hi e=>?_
 rw [List.drop_eq_getElem_cons hi,e]
noncomputable def CTt(G:Gd prog w)(N:Nat)(t:Expr)(ifs:List Expr)(scope:Scope)(ρ:PE)(d:D)(b:Bool):Prop:=∃bs,QAe t d=some bs∧QCj G N ifs (QBL ρ scope bs) b
noncomputable def CVt(G:Gd prog w)(N:Nat)(t:Expr)(elt:Expr)(scope:Scope)(ρ:PE)(d y:D):Prop:=∃bs,QAe t d=some bs∧QAW G N elt (QBL ρ scope bs) y
noncomputable def CLt(G:Gd prog w)(N:Nat)(t:Expr)(ifs:List Expr)(elt:Expr)(scope:Scope)(ρ:PE):List D→List D→Prop:=CL (CTt G N t ifs scope ρ) (CVt G N t elt scope ρ)
inductive CI (g g₂:Fz)(s s₂:QR)(L C:QW)(wr:List QW)(St:Nat→Heap→Prop)(T:D→Bool→Prop)(V:D→D→Prop)(ds ys:List D)(k:Nat)(s':QR):Prop
 |mk (i:Nat) (gk:Fz) (m':Str→Option QS) (yv:Array QS) (dn rs:List D):k=ds.length+1-i→i≤ds.length→QGh g g₂ s s₂ L C wr St T V ds ys i gk s' m' yv dn rs→CI g g₂ s s₂ L C wr St T V ds ys k s'
theorem QHB{A:QT}{env:Env}{ρ:PE}{g g₂:Fz}{s s₂:QR}{E:QS→QR→Prop}{elt target iter:Expr}{ifs:List Expr}{scope:Scope}{pos:Pos}{ds ys:List D}
  {I:QW} {fp wr:List QW} {Bd:Nat→List (Str×QS)→Prop} {St:Nat→Heap→Prop} {RR:QS→QW→Result→QR→Prop}
  (K:QEm ρ scope target) (R:Rm A N) (V:Vw G A env ρ g s.heap) (x₂:Ext g s g₂ s₂) (W:Src prog w A target I fp wr ds Bd St s g₂ s₂)
  (hrun:CLt G N target ifs elt scope ρ ds ys) (hlen:ds.length≤1000)
  (hRR:∀gk D C h' tk m' k (yv:Array QS),D≠C→s₂.heap.get? D=none→s₂.heap.get? C=none→h'.Ns C m'→h'.get? D=some {cls:= .type "list",data:= .seq yv k}→Ext g s gk {s₂ with heap:=h',toks:=tk}→gk D=none→gk C=none→
   DenL gk yv.toList ys→RR (.ref D) C (.ok .next) {s₂ with heap:=h',toks:=tk}):
  Qa (model prog w) A (newList []) (fun acc s₃=>Qa (model prog w) A (newFunctionEnv scope env.globals (QC4 env scope.names []) [] env.qual none .none (some env)) (fun cenv s₄=>
   codeAny (model prog w) A (.compStart (.ListComp elt [⟨target,iter,ifs,0⟩] scope pos) 0 (.ref I) acc {cenv with scope:=relabel scope env}) (RR acc cenv.locals) s₄) E s₃) E s₂:=by
 refine wpAny_newObj_type (wpAny_newFunctionEnv K.cell (by intro y hy;simp at hy) (fun h₁ hns₁ hsb₁=>?_) K.kind)
 dsimp only at hns₁ hsb₁⊢
 generalize hH2:s₂.heap.push {cls:= .type "list",dict:=none,data:= .seq ([]:List QS).toArray}=H2 at hns₁ hsb₁⊢
 have hC:H2.objs.size=s₂.heap.objs.size+1:=by rw [←hH2,Heap.size_push]
 have fresh:∀a,s₂.heap.objs.size≤a→s₂.heap.get? a=none:=fun a ha=>by
  cases e:s₂.heap.get? a with
  |none=>rfl
  |some o'=>exact absurd (Heap.lt_size e) (Nat.not_lt.mpr ha)
 have fD:=fresh _ (Qf _)
 have fC:=fresh H2.objs.size (by rw [hC];exact Nat.le_succ _)
 have below:∀b,b<s₂.heap.objs.size→b≠H2.objs.size∧b≠s₂.heap.objs.size:=fun b hb=>⟨by rw [hC];exact Qi (Nat.lt_succ_of_lt hb),Qi hb⟩
 have hDf:s₂.heap.objs.size∉fp:=fun hm=>Nat.lt_irrefl _ (W.low _ hm)
 have hCf:H2.objs.size∉fp:=fun hm=>(below _ (W.low _ hm)).1 rfl
 have P:CPl s s₂ s₂.heap.objs.size H2.objs.size fp wr:=⟨by rw [hC];exact Qi (Qn _),hDf,hCf,fun h=>hDf (W.lw.sub _ h),fun h=>hCf (W.lw.sub _ h),fun b o e=>by
   refine oEA (x₂.heap _ _ e) fun o' e' _=>?_
   exact ⟨(below b (Heap.lt_size e')).1,(below b (Heap.lt_size e')).2,fun hb=>by rw [(W.off _ hb).2] at e;cases e⟩,
  fun h tk=>by
   refine oEE x₂.same fun hs2 ts2 es2=>?_
   subst es2
   exact ⟨h,tk,rfl⟩⟩
 have oldx:∀b o,s₂.heap.get? b=some o→h₁.get? b=some o:=fun b o e=>hsb₁.extBut b o (below b (Heap.lt_size e)).1 (Heap.get?_push_of_some _ (hH2▸Heap.get?_push_of_some _ e))
 have hacc:h₁.PlainList s₂.heap.objs.size #[]:=⟨_,hsb₁.extBut _ _ P.LC (Heap.get?_push_of_some _ (hH2▸Heap.get?_push_size _ rfl))⟩
 have hst₁:St 0 h₁:=W.lw.frame _ _ _ W.st fun b _ o e=>oldx b o e
 have loop:∀s₃:QR,s₃={s₂ with heap:=h₁,toks:=s₂.toks+([]:List (Str×QS)).length}→
   codeAny (model prog w) A (.compLoop (.ListComp elt [⟨target,iter,ifs,0⟩] scope pos) 0 (.ref I) (.ref s₂.heap.objs.size) (compEnvC scope (QC4 env scope.names []) H2.objs.size env))
    (RR (.ref s₂.heap.objs.size) H2.objs.size) s₃:=by
  rintro s₃ rfl
  refine QM9 (CI g g₂ s s₂ s₂.heap.objs.size H2.objs.size wr St (CTt G N target ifs scope ρ) (CVt G N target elt scope ρ) ds ys) ?_ (ds.length+1)
   (.mk 0 g₂ _ #[] [] ys rfl (Ql _) ⟨⟨_,_,rfl⟩,hst₁,hacc,hns₁,x₂.trans (.grow x₂.inn (.of oldx)),.refl _,x₂.inn.none fD,x₂.inn.none fC,fun b hb=>(W.off b hb).1,hrun,.nil,rfl,Qf _⟩)
  refine fun k s' hI=>QJL fun X kX=>?_
  cases hI with
  |mk i gk m' yv dn rs ek hi J=>
  refine oEE J.same fun h' tk es=>?_
  subst es
  have hr:=J.run
  by_cases hlt:i<ds.length
  ·refine kX (W.lw.item i (compEnvC scope (QC4 env scope.names []) H2.objs.size env) m' _ _ (fun _ s₂=>_) _ hlt J.st J.ns hCf K.kind (fun x hx=>lookup_relabel_local (K.tar x hx)) fun bs h₂ tk₂ hbd hst₂ hn₂ hk₂=>QJL fun Y kY=>?_)
   refine QBO (W.bd i bs hlt hbd) fun d dbs hdi hbt hbden=>oAA (J.frame P (tk₂:=tk₂) hk₂) fun hle₂ inn₂ xk₂=>?_
   have V₂:Vw G A (compEnvC scope (QC4 env scope.names []) H2.objs.size env) (QBL ρ scope dbs) gk h₂:=QO5 V K J.ext.le hle₂ inn₂ hn₂ hbt (hbden.mono J.le)
   rw [QFy hdi] at hr
   have dec:ds.length+1-(i+1)<k:=ek▸Nat.sub_lt_sub_left (Nat.lt_succ_of_le hi) (Qn i)
   have go:∀{ys' rs' g₄ s₄},CL (CTt G N target ifs scope ρ) (CVt G N target elt scope ρ) (ds.drop (i+1)) rs'→dn++rs'=ys'→Ext gk {s₂ with heap:=h₂,toks:=tk₂} g₄ s₄→QGh g g₂ s s₂ s₂.heap.objs.size H2.objs.size wr St (CTt G N target ifs scope ρ) (CVt G N target elt scope ρ) ds ys' (i+1) g₄ s₄ (ovr bs m') yv dn rs':=fun hr' e x=>
    QGh.step W hst₂ (J.acc.at fun o e=>hk₂ _ o P.LC P.Lw e) hn₂ xk₂ J.le J.gL J.gC J.gw hr' J.den e (Nat.le_succ_of_le J.len) x
   have same:∀{b1},QAe target d=some b1→b1=dbs:=fun h=>Option.some.inj (h.symm.trans hbt)
   refine hr.inv.elim (rA fun q hr'=>rEA (fun b1 hb1 htd=>?_) q) (rA fun q=>QDe fun y zs v=>rA fun hr' eq=>rEA (fun b1 hb1 htd=>rEA (fun b2 hb2 hfd=>?_) v) q)
   ·cases same hb1
    refine kY (htd A _ gk _ _ _ R V₂ fun g₄ s₄ x₄=>?_)
    rw [if_neg QAS]
    exact ⟨_,dec,.mk (i+1) g₄ _ yv dn rs rfl hlt (go hr' J.app x₄)⟩
   ·cases same hb1
    cases same hb2
    refine kY (htd A _ gk _ _ _ R V₂ fun g₃ s₃ x₃=>?_)
    rw [if_pos rfl]
    refine hfd A _ g₃ _ _ _ R (V₂.up x₃) fun g₄ s₄ yv' x₄ dy=>?_
    have J₄:=go hr' rfl (x₃.trans x₄)
    refine wpAny_list_append_plain (hsz:=Qd (Qe J.den.length) (Qd J.len (Qd hi (Qd hlen (Qd (by decide) QAb))))) J₄.acc fun h₅ hl₅ hs₅=>?_
    exact ⟨_,dec,.mk (i+1) g₄ _ (yv.push yv') (dn++[y]) zs rfl hlt (QGh.put J₄ P W hs₅ hl₅ dy (eq▸J.app) (Nat.lt_succ_of_le J.len))⟩
  ·have hin:i=ds.length:=Qk hi (Nat.le_of_not_lt hlt)
   refine kX (W.lw.done _ _ _ (hin▸J.st) fun h₂ tk₂ hk₂=>?_)
   rw [hin,List.drop_length] at hr
   cases hr
   exact oE J.acc fun n hn=>oAA (J.frame P (tk₂:=tk₂) fun b o _=>hk₂ b o) fun _ _ xk₂=>
    hRR gk _ _ h₂ tk₂ m' n yv P.LC fD fC (J.ns.at' fun o e=>hk₂ _ o P.Cw e) (hk₂ _ _ P.Lw hn) xk₂ J.gL J.gC (((List.append_nil dn).symm.trans J.app)▸J.den)
 exact codeAny_compStart_list (loop _ rfl) (W.lw.self 0 _ _ _ hst₁ (loop _ rfl))
end
theorem QNt{b:Array UInt8}{i:Nat}{c:UInt8}(h:b[i]? =some c):(b.toList.map fun k=>D.int (k.toNat:Nat))[i]? =some (.int (c.toNat:Nat)):=by
 rw [Q7,Array.getElem?_toList,h];rfl
section
variable {prog:QV}{w:QX}{G:Gd prog w}{N:Nat}
theorem a0{α:Type}{P:α→Prop}:∀b∈([]:List α),P b:=fun _ h=>nomatch h
theorem aS{α:Type}{P:α→Prop}{a:α}{l:List α}(h:P a)(t:∀b∈l,P b):∀b∈a::l,P b:=List.forall_mem_cons.mpr ⟨h,t⟩
structure QRh (prog:QV)(w:QX)(A:QT)(target:Expr)(I:QW)(fp wr:List QW)(ds:List D)(Bd:Nat→List (Str×QS)→Prop)(St:Nat→Heap→Prop)(s:QR)(g':Fz)(s':QR):Prop extends Src prog w A target I fp wr ds Bd St s g' s' where
 frz:∀b∈fp,b∈wr∨∃o,g' b=some o
theorem Lw.castN{A:QT}{target:Expr}{I:QW}{fp wr:List QW}{n m:Nat}{Bd:Nat→List (Str×QS)→Prop}{St:Nat→Heap→Prop}(h:n=m)(L:Lw prog w A target I fp wr n Bd St):Lw prog w A target I fp wr m Bd St:=h▸L
noncomputable def QD4(G:Gd prog w)(N:Nat)(target e:Expr)(ρ:PE)(ds:List D):Prop:=
 ∀(A:QT) (env:Env) (g:Fz) (s:QR) (Q E:QS→QR→Prop),Rm A N→Vw G A env ρ g s.heap→
  (∀g' s' I fp wr Bd St,Ext g s g' s'→QRh prog w A target I fp wr ds Bd St s g' s'→Q (.ref I) s')→
  Qa (model prog w) A (eval e env) (fun x s₁=>Qa (model prog w) A (pyIter x) Q E s₁) E s
set_option tactic.hygienic true in
theorem QLu(hN:10≤N){e:Expr}{ρ:PE}{xs:List D}{x:Str}{p:Pos}(h:QAW G N e ρ (.list xs)):QD4 G N (.Name x p) e ρ xs:=by
 intro A env g s Q E R V k
 refine h A env g s _ E R V fun g1 s1 v x1 d1=>?_
 cases d1 with
 |list ho hc hd hl=>
  replace hc:=hc.1
  rename_i a o vs n
  have hL:s1.heap.IsList a vs:=⟨o,x1.inn.sq ho hd,hc,n,hd⟩
  refine wpAny_pyIter_list hL ?_
  have xx:=Ext.grow (tk:=s1.toks) x1.inn (QAm s1.heap {cls:= .type "list_iterator",data:= .fields #[.ref a,.int 0 0]})
  have hne:a≠s1.heap.objs.size:=Qi (Heap.lt_size (x1.inn.sq ho hd))
  have hsz:vs.size=xs.length:=by have:=hl.length;exact this
  refine k g1 _ _ _ _ _ _ (x1.trans xx) {lw:=hsz▸Lw.ofWalks (Walks.list (R.hnd hN) s1.heap.objs.size a hne vs) x p,st:=⟨⟨_,Heap.get?_push_size _ rfl,rfl,rfl⟩,hL.push _⟩,low:=?_,off:=?_,nd:=?_,bd:=?_,frz:=?_}
  ·intro b hb
   rw [show ({s1 with heap:=s1.heap.push {cls:= .type "list_iterator",data:= .fields #[.ref a,.int 0 0]}}:QR).heap.objs.size=s1.heap.objs.size+1 from Heap.size_push ..]
   rcases Qx.mp hb with rfl|hb
   ·exact Qn _
   ·rcases Qx.mp hb with rfl|hb
    ·exact Nat.lt_succ_of_lt (Heap.lt_size (x1.inn.sq ho hd))
    ·cases hb
  ·intro b hb
   rw [Qy.mp hb]
   exact ⟨x1.inn.none (QAp _),x1.heap.none (QAp _)⟩
  ·intro i h
   refine rA fun ζ0 ζ1=>?_
   obtain ⟨o,ho,_,hod⟩:=ζ0
   obtain ⟨o',ho',_,n',hod'⟩:=ζ1
   intro b hb
   revert b
   exact aS ⟨o,ho,.inr fun _ _ q=>by rw [hod] at q;cases q⟩ (aS ⟨o',ho',.inr fun _ _ q=>by rw [hod'] at q;cases q⟩ a0)
  ·intro i bs hi
   refine rEA fun v hv ζ2=>?_
   cases ζ2
   refine oEA (hl.get' (i:=i) (v:=v) (by rw [Array.getElem?_toList];exact hv)) fun d hd dd=>?_
   exact ⟨d,[(x,d)],hd,rfl,rfl,.cons dd .nil,by simp⟩
  ·intro b hb
   rcases Qx.mp hb with rfl|hb
   ·exact .inl (Qy.mpr rfl)
   ·rw [Qy.mp hb];exact .inr ⟨o,ho⟩
theorem QPD(hN:10≤N){e:Expr}{ρ:PE}{b:Array UInt8}{x:Str}{p:Pos}(h:QAW G N e ρ (.bytes b)):QD4 G N (.Name x p) e ρ (b.toList.map fun k=> .int (k.toNat:Nat)):=by
 intro A env g s Q E R V k
 refine h A env g s _ E R V fun g1 s1 v x1 d1=>?_
 cases d1 with
 |bytes _ t=>
  refine KBw.pyIter_bytes ?_
  have xx:=Ext.grow (tk:=s1.toks) x1.inn (QAm s1.heap {cls:= .type "bytes_iterator",data:= .fields #[.bytes b t,.int 0 0]})
  have hsz:b.size=(b.toList.map fun k=>D.int (k.toNat:Nat)).length:=by simp
  refine k g1 _ _ _ _ _ _ (x1.trans xx) {lw:=hsz▸Lw.ofWalks (KBw.walks (R.hnd hN) s1.heap.objs.size b t) x p,st:=⟨_,Heap.get?_push_size _ rfl,rfl,rfl⟩,low:=?_,off:=?_,nd:=?_,bd:=?_,frz:=fun b hb=> .inl hb}
  ·intro b' hb
   rw [show ({s1 with heap:=s1.heap.push {cls:= .type "bytes_iterator",data:= .fields #[.bytes b t,.int 0 0]}}:QR).heap.objs.size=s1.heap.objs.size+1 from Heap.size_push ..,Qy.mp hb]
   exact Qn _
  ·intro b hb
   rw [Qy.mp hb]
   exact ⟨x1.inn.none (QAp _),x1.heap.none (QAp _)⟩
  ·intro i h
   refine QCm fun o ho _ hod=>?_
   intro b hb
   rw [Qy.mp hb];exact ⟨o,ho,.inr fun _ _ q=>by rw [hod] at q;cases q⟩
  ·intro i bs hi
   refine rEA fun v ζ1 ζ2=>?_
   obtain ⟨c,u,hv,rfl⟩:=ζ1
   cases ζ2
   exact ⟨_,[(x,_)],QNt hv,rfl,rfl,.cons (.int _ _) .nil,by simp⟩
theorem QGj:∀{n:Nat} {a:Int} {i:Nat},i<n→(QCA a n)[i]? =some (.int (a+i))
 |n+1,a,0,_=>by simp [QCA]
 |n+1,a,i+1,h=>by
  rw [QCA,QAB,QGj (by exact zn1 [_,_] 1 (.a (.v 0) (.n 1)) (.v 1) 1 (.a (.a (.v 0) (.n 1)) (.n 1)) (.a (.v 1) (.n 1)) rfl h)]
  congr 2;exact QAH (zi0 [_,_] 1 (.a (.a (.v 0) (.n 1)) (.v 1)) (.a (.v 0) (.a (.v 1) (.n 1))) rfl) (zi0 [_,_] 1 (.a (.v 0) (.a (.v 1) (.n 1))) (.a (.a (.v 0) (.n 1)) (.v 1)) rfl)
theorem QDg:∀{n:Nat} {a:Int},(QCA a n).length=n
 |0,_=>rfl
 |n+1,a=>by rw [QCA,Qz,QDg]
theorem QHt{ρ:PE}{f:Str}{p pos:Pos}{a:Expr}{T:String}{A:QT}{env:Env}{g:Fz}{s:QR}{Q E:QS→QR→Prop}{d:D}(hT:(f,T)∈[(QER,"range"),(QG6,"zip"),(QBs,"enumerate"),(QFp,"dict")])(hf:(f==("__debug__":Str))=false)
  (hk:ρ.kind f=some .globalImplicit) (hs:QAh [a]=true) (R:Rm A N) (V:Vw G A env ρ g s.heap) (h:QAW G N a ρ d)
  (k:∀g' s' v,Ext g s g' s'→Den g' v d→Qa (model prog w) A (call (.type T) [v]) Q E s'):Qa (model prog w) A (eval (.Call (.Name f p) [a] [] pos) env) Q E s:=by
 refine oA (G.tn f T hT) fun t1 t2=>?_
 refine wpAny_Call_Name_kw (QM (QAw V hk (.inr ⟨t1,t2⟩) ?_) hf)
 refine QAf (fun a e=>by cases e) hs (QBf (.one h) hs R V fun g1 s1 vs x1 dvs=>?_)
 cases dvs with
 |cons dv r=>cases r with
  |nil=>exact k _ _ _ x1 dv
theorem QO3(hN:10≤N){ρ:PE}{f x:Str}{p pf pos:Pos}{a:Expr}{n:Int}(hf:(f==QER)=true)(hk:ρ.kind f=some .globalImplicit)(hs:QAh [a]=true)(h:QAW G N a ρ (.int n))(h1: -1000≤n)(h2:n≤1000):
  QD4 G N (.Name x p) (.Call (.Name f pf) [a] [] pos) ρ (QCA 0 n.toNat):=by
 intro A env g s Q E R V k
 have e:=eq_of_beq hf
 subst e
 refine QHt (T:="range") (by exact .head _) (by decide) hk hs R V h fun g1 s1 v x1 d1=>?_
 cases d1 with
 |int _ t=>
  refine call_range_1 ?_
  refine wpAny_pyIter_range (IsRange.new _ _ _ _ _ _ _) (small_one (by decide) (by decide) (QAJ (by decide) h1) (Int.lt_of_le_of_lt h2 (by decide))) ?_
  generalize ho1:({cls:= .type "range",data:= .fields #[.int 0 s1.toks,.int n t,.int 1 (s1.toks+1)]}:Obj)=o1
  have hsize:Builtin.Range.rangeSize 0 n 1=(n.toNat:Int):=by
   rw [rangeSize_one]
   by_cases q:0<n
   ·rw [if_pos q,Int.sub_zero];exact (QAG (Int.le_of_lt q)).symm
   ·rw [if_neg q,Int.toNat_eq_zero.mpr (QAN.mp q)];rfl
  rw [hsize]
  generalize ho2:({cls:= .type "range_iterator",data:= .fields #[rawInt 0,rawInt (n.toNat:Int),rawInt 1]}:Obj)=o2
  have hle:HLe s1.heap ((s1.heap.push o1).push o2):=(QAm _ _).trans (QAm _ _)
  have xx:=Ext.grow (tk:=s1.toks+1+1) x1.inn hle
  have hfr:s1.heap.get? (s1.heap.push o1).objs.size=none:=(QAm _ o1).none (QAp _)
  have hst:IsRangeIter ((s1.heap.push o1).push o2) (s1.heap.push o1).objs.size (0+((0:Nat):Int)*1) ((n.toNat:Int)-((0:Nat):Int)) 1:=by
   have:IsRangeIter ((s1.heap.push o1).push o2) (s1.heap.push o1).objs.size 0 (n.toNat:Int) 1:=by subst ho2;exact Heap.get?_push_size _ rfl
   exact this
  have W:=Walks.range (prog:=prog) (w:=w) (R.hnd hN) (s1.heap.push o1).objs.size 0 1 n.toNat
  have hsz:n.toNat=(QCA 0 n.toNat).length:=QDg.symm
  refine k g1 _ _ _ _ _ _ (x1.trans xx) {lw:=(Lw.ofWalks W x p).castN hsz,st:=hst,low:=?_,off:=?_,nd:=?_,bd:=?_,frz:=fun b hb=> .inl hb}
  ·intro b hb
   rw [Qy.mp hb]
   skip
   rw [Heap.size_push _ o2];exact Qn _
  ·intro b hb
   rw [Qy.mp hb]
   exact ⟨x1.inn.none hfr,x1.heap.none hfr⟩
  ·rintro i h ho b hb
   rw [Qy.mp hb];exact ⟨_,ho,.inr fun _ _ q=>nomatch q⟩
  ·intro i bs hi
   refine rEA fun v ζ1 ζ2=>?_
   obtain ⟨t,rfl⟩:=ζ1
   cases ζ2
   rw [QDg] at hi
   refine ⟨_,[(x,_)],QGj hi,rfl,rfl,.cons ?_ .nil,by simp⟩
   rw [Int.mul_one];exact .int _ _
theorem QFB(n:Nat):n+1≠n:=by exact Nat.ne_of_gt (zn0 [_] 1 (.a (.v 0) (.n 1)) (.a (.v 0) (.n 1)) rfl)
theorem QHM{a n:Nat}(h:a<n):a≠n:=by exact Qi (zn1 [_,_] 1 (.a (.v 0) (.n 1)) (.v 1) 1 (.a (.v 0) (.n 1)) (.v 1) rfl h)
theorem QBn{a n:Nat}(k:Nat)(h:a<n):a≠n+k:=by exact Qi (zn1 [_,_,_] 1 (.a (.v 0) (.n 1)) (.a (.v 1) (.v 2)) 1 (.a (.v 0) (.n 1)) (.v 1) rfl h)
theorem QJQ{a n:Nat}(k:Nat)(h:a<n):a<n+k:=by exact zn1 [_,_,_] 1 (.a (.v 0) (.n 1)) (.a (.v 1) (.v 2)) 1 (.a (.v 0) (.n 1)) (.v 1) rfl h
theorem QBW{h:Heap}{b:Nat}(hb:h.objs.size≤b):h.get? b=none:=by
 cases q:h.get? b with
 |none=>rfl
 |some o'=>exact absurd (Heap.lt_size q) (Nat.not_lt.mpr hb)
theorem QL2{target:Expr}(h:QE5 target=true):∃es k p x y,target= .Tuple es k p∧QAj es=some [x,y]∧x≠y:=by
 cases target with
 |Tuple es k p=>
  replace h:(match QAj es with|some [x,y]=>x !=y|_=>false)=true:=h
  cases q:QAj es with
  |none=>rw [q] at h;exact absurd h QAS
  |some l=>
   rw [q] at h
   cases l with
   |nil=>exact absurd h QAS
   |cons x l=>cases l with
    |nil=>exact absurd h QAS
    |cons y l=>cases l with
     |nil=>exact ⟨es,k,p,x,y,rfl,q,bne_iff_ne.mp h⟩
     |cons=>exact absurd h QAS
 |_=>exact absurd h QAS
theorem QEH:∀{xs:List D} {k:Int} {i:Nat} {d:D},xs[i]? =some d→(QCR k xs)[i]? =some (.tup [.int (k+i),d])
 |x::r,k,0,d,h=>by simp at h;simp [QCR,h]
 |x::r,k,i+1,d,h=>by
  rw [QCR,QAB,QEH (by exact h)]
  congr 4;exact QAH (zi0 [_,_] 1 (.a (.a (.v 0) (.n 1)) (.v 1)) (.a (.v 0) (.a (.v 1) (.n 1))) rfl) (zi0 [_,_] 1 (.a (.v 0) (.a (.v 1) (.n 1))) (.a (.a (.v 0) (.n 1)) (.v 1)) rfl)
theorem QDM:∀{xs:List D} {k:Int},(QCR k xs).length=xs.length
 |[],_=>rfl
 |_::r,k=>by rw [QCR,Qz,Qz,QDM]
theorem QIs(hN:10≤N){ρ:PE}{f:Str}{target:Expr}{pf pos:Pos}{a:Expr}{xs:List D}(ht:QE5 target=true)(hf:(f==QBs)=true)(hk:ρ.kind f=some .globalImplicit)(hs:QAh [a]=true)(h:QAW G N a ρ (.list xs)):
  QD4 G N target (.Call (.Name f pf) [a] [] pos) ρ (QCR 0 xs):=by
 intro A env g s Q E R V k
 refine QBh (QL2 ht) fun es kk p x y=>rAA fun ζ5 hes hxy=>?_
 subst ζ5
 have e:=eq_of_beq hf
 subst e
 refine QHt (T:="enumerate") (by decide) (by decide) hk hs R V h fun g1 s1 v x1 d1=>?_
 refine QA7 d1.out fun a o vs n e1 ho hc hd hl=>?_
 replace hc:=hc.1
 cases e1
 have hL:s1.heap.IsList a vs:=⟨o,x1.inn.sq ho hd,hc,n,hd⟩
 have hlt:a<s1.heap.objs.size:=Heap.lt_size (x1.inn.sq ho hd)
 refine call_enumerate_list hL fun h' he hit hsz hle=>?_
 refine wpAny_pyIter_enum he ?_
 have xx:=Ext.grow (tk:=s1.toks) x1.inn (h:=h') (.of hle)
 have W:=(WalksT.enumerate (prog:=prog) (w:=w) (R.hnd hN) (s1.heap.objs.size+1) s1.heap.objs.size a (QFB _) (QBn 1 hlt) (QHM hlt) vs).toU
 have hlen:vs.size=(QCR 0 xs).length:=by rw [QDM];have:=hl.length;exact this
 have offP:∀b,s1.heap.get? b=none→g1 b=none∧s.heap.get? b=none:=fun b e=>⟨x1.inn.none e,x1.heap.none e⟩
 exact k g1 _ _ _ _ _ _ (x1.trans xx) {
  lw:=(Lw.ofWalksU (R.hnd hN) W (k:=kk) (p:=p) hes (fun i vals hv=>QDe (fun t u _ e=>by rw [e];rfl) hv)).castN hlen
  st:=⟨⟨.none,he⟩,hit,⟨o,hle _ _ (x1.inn.sq ho hd),hc,n,hd⟩⟩
  low:=by rw [hsz];exact aS (Qn _) (aS (Nat.lt_add_of_pos_right (by decide)) (aS (QJQ 2 hlt) a0))
  off:=aS (offP _ (QBW (Nat.le_succ _))) (aS (offP _ (QBW (Qf _))) a0)
  nd:=fun i h=>rAA fun q1 q2 q3=>aS (rE (fun _ q1=>⟨_,q1,.inr fun _ _ q=>by cases q⟩) q1) (aS (QCm (fun o q _ d=>⟨o,q,.inr fun _ _ e=>by rw [d] at e;cases e⟩) q2) (aS (QCm (fun o q _=>rE fun _ d=>⟨o,q,.inr fun _ _ e=>by rw [d] at e;cases e⟩) q3) a0))
  bd:=fun i bs hi=>rEA fun vals hz hb=>QDe (fun t u hu e=>oEA (hl.get' (i:=i) (v:=u) (by rw [Array.getElem?_toList];exact hu)) fun d hd dd=>by
   rw [hb,e]
   refine ⟨_,[(x,.int (0+(i:Int))),(y,d)],QEH hd,QMT hes hxy,rfl,.cons ?_ (.cons dd .nil),QJA hxy⟩
   rw [Int.zero_add];exact .int _ _) hz
  frz:=aS (.inl (.head _)) (aS (.inl (.tail _ (.head _))) (aS (.inr ⟨o,ho⟩) a0))}
end
section
variable {prog:QV}{w:QX}{G:Gd prog w}{N:Nat}
theorem QJw:∀{xs ys:List D} {i:Nat} {d e:D},xs[i]? =some d→ys[i]? =some e→(QF5 xs ys)[i]? =some (.tup [d,e])
 |x::r,y::t,0,d,e,h,h'=>by simp at h h';simp [QF5,h,h']
 |x::r,y::t,i+1,d,e,h,h'=>by
  rw [QF5,QAB,QJw (by exact h) (by exact h')]
 |[],_,_,_,_,h,_=>by simp at h
 |_::_,[],_,_,_,_,h=>by simp at h
theorem QHR:∀{xs ys:List D},xs.length=ys.length→(QF5 xs ys).length=xs.length
 |[],[],_=>rfl
 |_::r,_::t,h=>by rw [QF5,Qz,Qz,QHR (by simpa using h)]
 |[],_::_,h=>by simp at h
 |_::_,[],h=>by simp at h
theorem QFP{ρ:PE}{f:Str}{p pos:Pos}{a b:Expr}{T:String}{A:QT}{env:Env}{g:Fz}{s:QR}{Q E:QS→QR→Prop}{d d':D}(hT:(f,T)∈[(QER,"range"),(QG6,"zip"),(QBs,"enumerate"),(QFp,"dict")])(hf:(f==("__debug__":Str))=false)
  (hk:ρ.kind f=some .globalImplicit) (hs:QAh [a,b]=true) (R:Rm A N) (V:Vw G A env ρ g s.heap) (h:QAW G N a ρ d) (h':QAW G N b ρ d')
  (k:∀g' s' v v',Ext g s g' s'→Den g' v d→Den g' v' d'→Qa (model prog w) A (call (.type T) [v,v']) Q E s'):Qa (model prog w) A (eval (.Call (.Name f p) [a,b] [] pos) env) Q E s:=by
 refine oA (G.tn f T hT) fun t1 t2=>?_
 have hse:=(QAt hs).2 env
 have hse':=(QAt (QAt hs).1).2 env
 refine wpAny_Call_Name_kw (QM (QAw V hk (.inr ⟨t1,t2⟩) ?_) hf)
 refine QAf (fun a e=>by cases e) hs (QH (h A env g s _ E R V fun g1 s1 v1 x1 d1=>?_) hse)
 refine QH (h' A env g1 s1 _ E R (V.up x1) fun g2 s2 v2 x2 d2=>?_) hse'
 exact QK (k g2 s2 v1 v2 (x1.trans x2) (d1.mono x2.le) d2)
theorem QB7{n a b:Nat}(h:a≠b):n+a≠n+b:=by omega
theorem QEz{n b:Nat}(h:b≠0):n≠n+b:=by omega
theorem QFL{n b:Nat}(h:b≠0):n+b≠n:=by omega
theorem zipApart_new{n l1 l2:Nat}(lt1:l1<n)(lt2:l2<n):ZipApart (n+4) (n+2) (n+3) n (n+1) l1 l2:=
 ⟨QB7 (by decide),QB7 (by decide),QEz (by decide),QB7 (by decide),QB7 (by decide),QFL (by decide),QB7 (by decide),QFL (by decide),QB7 (by decide),QEz (by decide),
  QBn 4 lt1,QBn 3 lt1,QHM lt1,QBn 1 lt1,QBn 4 lt2,QBn 3 lt2,QHM lt2,QBn 1 lt2⟩
set_option tactic.hygienic true in
theorem QRw(hN:10≤N){ρ:PE}{f:Str}{target:Expr}{pf pos:Pos}{a b:Expr}{xs ys:List D}(ht:QE5 target=true)(hf:(f==QG6)=true)(hk:ρ.kind f=some .globalImplicit)(hs:QAh [a,b]=true)(h:QAW G N a ρ (.list xs))(h':QAW G N b ρ (.list ys))
  (hlen:xs.length=ys.length):QD4 G N target (.Call (.Name f pf) [a,b] [] pos) ρ (QF5 xs ys):=by
 intro A env g s Q E R V k
 refine QBh (QL2 ht) fun es kk p x y=>rAA fun ζ5 hes hxy=>?_
 subst ζ5
 have e:=eq_of_beq hf
 subst e
 refine QFP (T:="zip") (by exact .tail _ (.head _)) (by decide) hk hs R V h h' fun g1 s1 v v' x1 d1 d2=>?_
 refine QA7 d1.out fun l1 o vs n e1 ho hc hd hl=>QA7 d2.out fun l2 o' vs' n' e2 ho' hc' hd' hl'=>?_
 replace hc:=hc.1
 replace hc':=hc'.1
 cases e1
 cases e2
 have hL:s1.heap.IsList l1 vs:=⟨o,x1.inn.sq ho hd,hc,n,hd⟩
 have hL':s1.heap.IsList l2 vs':=⟨o',x1.inn.sq ho' hd',hc',n',hd'⟩
 have lt1:l1<s1.heap.objs.size:=Heap.lt_size (x1.inn.sq ho hd)
 have lt2:l2<s1.heap.objs.size:=Heap.lt_size (x1.inn.sq ho' hd')
 refine call_zip_2 hL hL' fun h'' hz hTI hTO i1 i2 hsz hle=>?_
 refine wpAny_pyIter_zip hz ?_
 have fr:∀j,s1.heap.get? (s1.heap.objs.size+j)=none:=fun j=>QBW (Qg _ _)
 have xx:=Ext.add (tk:=s1.toks) x1.inn (h:=h'') (.of hle) (fr 2) hTI
 have D:ZipApart (s1.heap.objs.size+4) (s1.heap.objs.size+2) (s1.heap.objs.size+3) s1.heap.objs.size (s1.heap.objs.size+1) l1 l2:=
  ⟨QB7 (by decide),QB7 (by decide),QEz (by decide),QB7 (by decide),QB7 (by decide),QFL (by decide),QB7 (by decide),QFL (by decide),QB7 (by decide),QEz (by decide),
   QBn 4 lt1,QBn 3 lt1,QHM lt1,QBn 1 lt1,QBn 4 lt2,QBn 3 lt2,QHM lt2,QBn 1 lt2⟩
 have W:=(WalksT.zip2 (prog:=prog) (w:=w) (R.hnd hN) _ _ _ _ _ _ _ D vs vs').toU
 have e1:vs.size=xs.length:=by have:=hl.length;exact this
 have e2:vs'.size=ys.length:=by have:=hl'.length;exact this
 have hlen':min vs.size vs'.size=(QF5 xs ys).length:=by rw [QHR hlen,e1,e2,hlen,Nat.min_self]
 have offP:∀{oz:Obj} b,s1.heap.get? b=none→b≠s1.heap.objs.size+2→(g1.add (s1.heap.objs.size+2) oz) b=none∧s.heap.get? b=none:=fun {_} b q1 q2=>⟨by unfold Fz.add;rw [if_neg q2];exact x1.inn.none q1,x1.heap.none q1⟩
 refine k _ _ _ _ _ _ _ (x1.trans xx) {
  lw:=(Lw.ofWalksU (R.hnd hN) W (k:=kk) (p:=p) hes (fun i vals hv=>QFC (fun t u _ _ e=>by rw [e];rfl) hv)).castN hlen'
  st:=⟨hz,hTI,⟨_,_,hTO⟩,i1,i2,⟨o,hle _ _ (x1.inn.sq ho hd),hc,n,hd⟩,⟨o',hle _ _ (x1.inn.sq ho' hd'),hc',n',hd'⟩⟩
  low:=by
   skip
   rw [hsz]
   exact aS (Nat.add_lt_add_left (by decide) _) (aS (Nat.add_lt_add_left (by decide) _) (aS (Nat.add_lt_add_left (by decide) _) (aS (Nat.lt_add_of_pos_right (by decide)) (aS (Nat.add_lt_add_left (by decide) _) (aS (QJQ 5 lt1) (aS (QJQ 5 lt2) a0))))))
  off:=aS (offP _ (fr _) (QB7 (by decide))) (aS (offP _ (fr _) (QB7 (by decide))) (aS (offP _ (fr 0) (QEz (by decide))) (aS (offP _ (fr _) (QB7 (by decide))) a0)))
  nd:=fun i h=>QEb fun q1 q2 q3 q4=>rAA fun q5 q6 q7=>aS ⟨_,q1,.inr fun _ _ q=>nomatch q⟩ (aS ⟨_,q2,.inr fun _ _ q=>nomatch q⟩ (aS (rEE (fun _ _ q3=>⟨_,q3,.inr fun _ _ q=>by cases q⟩) q3) (aS (QCm (fun o q _ d=>⟨o,q,.inr fun _ _ e=>by rw [d] at e;cases e⟩) q4)
   (aS (QCm (fun o q _ d=>⟨o,q,.inr fun _ _ e=>by rw [d] at e;cases e⟩) q5) (aS (QCm (fun o q _=>rE fun _ d=>⟨o,q,.inr fun _ _ e=>by rw [d] at e;cases e⟩) q6) (aS (QCm (fun o q _=>rE fun _ d=>⟨o,q,.inr fun _ _ e=>by rw [d] at e;cases e⟩) q7) a0))))))
  bd:=fun i bs hi=>rEA fun vals hz hb=>QFC (fun t u hu hu' e=>oEA (hl.get' (i:=i) (v:=t) (by rw [Array.getElem?_toList];exact hu)) fun d hd dd=>oEA (hl'.get' (i:=i) (v:=u) (by rw [Array.getElem?_toList];exact hu')) fun d' hd' dd'=>by
   rw [hb,e]
   refine ⟨_,[(x,d),(y,d')],QJw hd hd',?_,rfl,.cons (dd.mono xx.le) (.cons (dd'.mono xx.le) .nil),?_⟩
   ·exact QMT hes hxy
   ·exact QJA hxy) hz
  frz:=aS (.inl (.head _)) (aS (.inr ⟨_,Fz.add_self _ _ _⟩) (aS (.inl (.tail _ (.head _))) (aS (.inl (.tail _ (.tail _ (.head _)))) (aS (.inl (.tail _ (.tail _ (.tail _ (.head _))))) (aS (.inr ⟨o,xx.le _ _ ho⟩) (aS (.inr ⟨o',xx.le _ _ ho'⟩) a0))))))}
end
inductive QCI (g:Fz):List (Int×QS)→List (Int×D)→Prop
 |nil:QCI g [] []
 |cons {k:Int} {v:QS} {d:D} {kvs:List (Int×QS)} {m:List (Int×D)}:Den g v d→QCI g kvs m→QCI g ((k,v)::kvs) ((k,d)::m)
theorem QCI.mono{g g':Fz}(l:FLe g g'){kvs:List (Int×QS)}{m:List (Int×D)}(h:QCI g kvs m):QCI g' kvs m:=by
 induction h with
 |nil=>exact .nil
 |cons a _ ih=>exact .cons (a.mono l) ih
theorem QCI.keys{g:Fz}{kvs:List (Int×QS)}{m:List (Int×D)}(h:QCI g kvs m):kvs.map (·.1)=m.map (·.1):=by
 induction h with
 |nil=>rfl
 |cons _ _ ih=>simp [ih]
theorem QCI.snoc{g:Fz}{k:Int}{v:QS}{d:D}(hd:Den g v d){kvs:List (Int×QS)}{m:List (Int×D)}(h:QCI g kvs m):QCI g (kvs++[(k,v)]) (m++[(k,d)]):=by
 induction h with
 |nil=>exact .cons hd .nil
 |cons a _ ih=>exact .cons a ih
theorem QMD{k:Int}{d:D}:∀{m:List (Int×D)},k∉m.map (·.1)→dictPut k d m=m++[(k,d)]
 |[],_=>rfl
 |(k',d')::r,h=>by
  rw [Q0,Qx,not_or] at h
  rw [dictPut,if_neg (fun e=>h.1 e.symm),QMD h.2];rfl
theorem QCI.putMap{g:Fz}{k:Int}{v:QS}{d:D}(hd:Den g v d){kvs:List (Int×QS)}{m:List (Int×D)}(h:QCI g kvs m)(hn:(kvs.map (·.1)).Nodup)(hk:k∈kvs.map (·.1)):
  QCI g (kvs.map fun kv=>if kv.1=k then (kv.1,v) else kv) (dictPut k d m):=by
 induction h with
 |nil=>simp at hk
 | @cons k' v' d' kvs m a r ih=>
  rw [Q0,Q9] at hn
  rw [Q0,dictPut]
  by_cases e:k'=k
  ·subst e
   rw [if_pos rfl,if_pos rfl,map_store_of_not_mem _ _ _ hn.1]
   exact .cons hd r
  ·rw [if_neg e,if_neg e]
   rw [Q0,Qx] at hk
   exact .cons a (ih hn.2 (hk.resolve_left fun q=>e q.symm))
set_option tactic.hygienic true in
theorem QJC{kvs:List (Int×QS)}(hn:(kvs.map (·.1)).Nodup)(k:Int)(v:QS):((stored kvs k v).map (·.1)).Nodup:=by
 unfold stored
 split
 ·rw [Q3]
  have:((fun x:Int×QS=>x.1)∘fun kv:Int×QS=>if kv.1=k then (kv.1,v) else kv)=(·.1):=by
   funext x;simp only [Function.comp];split<;>rfl
  rw [this];exact hn
 ·rename_i h
  rw [Qv,List.nodup_append]
  refine ⟨hn,by simp,fun a ha b hb=>?_⟩
  rw [Q0,List.map_nil,Qy] at hb
  subst hb
  rintro rfl
  refine oEA (Qw.mp ha) fun p hp ζ2=>?_
  subst ζ2
  exact h (List.any_eq_true.mpr ⟨p,hp,by simp⟩)
theorem QCI.stored{g:Fz}{k:Int}{v:QS}{d:D}(hd:Den g v d){kvs:List (Int×QS)}{m:List (Int×D)}(h:QCI g kvs m)(hn:(kvs.map (·.1)).Nodup):QCI g (stored kvs k v) (dictPut k d m):=by
 unfold PySem.stored
 by_cases q:k∈kvs.map (·.1)
 ·refine oEA (Qw.mp q) fun p hp e=>?_
  rw [if_pos (List.any_eq_true.mpr ⟨p,hp,by simpa using e⟩)]
  exact h.putMap hd hn q
 ·have hq:¬(kvs.any (fun kv=>decide (kv.1=k))=true):=fun e=>by
   refine oEA (List.any_eq_true.mp e) fun p hp e'=>?_
   exact q (Qw.mpr ⟨p,hp,by simpa using e'⟩)
  rw [if_neg hq,QMD (by rw [←h.keys];exact q)]
  exact h.snoc hd
theorem QDu{x:D}{xs ys:List D}{l:List (Int×D)}(h:QBg (x::xs) ys=some l):∃i y t l',x= .int i∧ys=y::t∧QBg xs t=some l'∧l=(i,y)::l':=by
 cases ys with
 |nil=>cases x<;>exact QAV h
 |cons y t=>
  cases x with
  |int i=>
   have h:(QBg xs t).map ((i,y):: ·)=some l:=h
   refine oEA (Option.map_eq_some_iff.mp h) fun l' q e=>?_
   exact ⟨i,y,t,l',rfl,rfl,q,e.symm⟩
  |_=>exact QAV h
theorem QJM{g:Fz}{xs:List D}:∀{vs us:List QS} {ys:List D} {l:List (Int×D)} {acc:List (Int×QS)} {m:List (Int×D)},DenL g vs xs→DenL g us ys→QBg xs ys=some l→QCI g acc m→(acc.map (·.1)).Nodup→
  QCI g (QCW acc (vs.zip us)) (l.foldl (fun m p=>dictPut p.1 p.2 m) m)∧((QCW acc (vs.zip us)).map (·.1)).Nodup:=by
 induction xs with
 |nil=>
  intro vs us ys l acc m hv hu h ha hn
  rw [hv.out]
  cases ys with
  |nil=>cases h;exact ⟨ha,hn⟩
  |cons=>exact QAV h
 |cons x xs ih=>
  intro vs us ys l acc m hv hu h ha hn
  refine QFz (QDu h) fun i y t l'=>QEg fun ζ4 ζ5 q ζ7=>?_
  subst ζ4
  subst ζ5
  subst ζ7
  apply QCh hv.out;intro v vs' a b
  apply QCh hu.out;intro u us' a' b'
  apply wE a.out;intro tk
  have:=ih b b' q (ha.stored a' hn) (QJC hn i u)
  exact this
theorem QNh{g:Fz}{xs:List D}:∀{vs:List QS} {ys:List D} {l:List (Int×D)},DenL g vs xs→QBg xs ys=some l→xs.length=ys.length∧∀(k:Nat) (x:QS),vs[k]? =some x→∃a t,x=Value.int a t:=by
 induction xs with
 |nil=>
  intro vs ys l hv h
  rw [hv.out]
  cases ys with
  |nil=>exact ⟨rfl,fun k x e=>QAV e⟩
  |cons=>exact QAV h
 |cons x xs ih=>
  intro vs ys l hv h
  refine QFz (QDu h) fun i y t l'=>QEg fun ζ4 ζ5 q ζ7=>?_
  subst ζ4
  subst ζ5
  subst ζ7
  apply QCh hv.out;intro v vs' a b
  apply wE a.out;intro tk
  refine oA (ih b q) fun e1 e2=>?_
  refine ⟨congrArg (· +1) e1,fun k x e=>?_⟩
  cases k with
  |zero=>cases e;exact ⟨i,tk,rfl⟩
  |succ k=>exact e2 k x e
theorem QQS{prog:QV}{w:QX}{g:Fz}{es:List DictEntry}{kvs:List (Int×QS)}(hp:Pairs (intKind prog w) es kvs):∀{m:List (Int×D)},(∀e∈es,∃k,(intKind prog w).is k e.key=true∧e.hash=(intKind prog w).hash k)→QCI g kvs m→QEX g es m:=by
 induction hp with
 |nil=>intro m hk h;cases h;exact .nil
 |cons h1 h2 r ih=>
  intro m hk h
  cases h with
  |cons a b=>
   refine oE (Value.isInt_shape h1) fun t ht=>?_
   refine oEA (hk _ (.head _)) fun k' e1 e2=>?_
   cases (intKind prog w).inj _ _ _ h1 e1
   exact .cons ht e2 (h2▸a) (ih (fun e he=>hk e (.tail _ he)) b)
section
variable {prog:QV}{w:QX}{G:Gd prog w}{N:Nat}
theorem QMe(hN:10≤N){ρ:PE}{f z:Str}{pf pz pos cpos:Pos}{a b:Expr}{xs ys:List D}{l:List (Int×D)}(hf:(f==QFp)=true)(hz:(z==QG6)=true)(hkf:ρ.kind f=some .globalImplicit)(hkz:ρ.kind z=some .globalImplicit)(hs:QAh [a,b]=true)
  (h:QAW G N a ρ (.list xs)) (h':QAW G N b ρ (.list ys)) (hl:xs.length≤1000) (hd:QBg xs ys=some l):QAW G N (.Call (.Name f pf) [.Call (.Name z pz) [a,b] [] cpos] [] pos) ρ (.dict (dictFrom l)):=by
 intro A env g s Q E R V k
 have e1:=eq_of_beq hf
 subst e1
 have e2:=eq_of_beq hz
 subst e2
 refine oA (G.tn QFp "dict" (by decide)) fun t1 t2=>?_
 refine wpAny_Call_Name_kw (QM (QAw V hkf (.inr ⟨t1,t2⟩) ?_) (by decide))
 refine QAf (fun a e=>by cases e) rfl (QH ?_ rfl)
 refine QFP (T:="zip") (by exact .tail _ (.head _)) (by decide) hkz hs R V h h' fun g1 s1 v v' x1 d1 d2=>?_
 apply QDI d1.lst;intro l1 vs hll e1 hL
 apply QDI d2.lst;intro l2 vs' hll' e2 hL'
 replace hL:=hL _ x1.inn
 replace hL':=hL' _ x1.inn
 have lt1:l1<s1.heap.objs.size:=by (revert hL;refine rEA fun _ h _=>?_);exact Heap.lt_size h
 have lt2:l2<s1.heap.objs.size:=by (revert hL';refine rEA fun _ h _=>?_);exact Heap.lt_size h
 refine oA (QNh hll hd) fun hlen hint=>?_
 refine call_zip_2 hL hL' fun h'' hz hTI hTO i1 i2 hsz hle=>?_
 refine QK ?_
 refine QHf (R.hnd hN) (zipApart_new lt1 lt2) (xs:=vs) (ys:=vs') (by exact zn3 [_,_,_,_] 1 (.v 0) (.v 1) 1 (.v 0) (.v 2) 1 (.v 3) (.v 1) 1 (.v 2) (.v 3) rfl (Qe e1) (Qe e2.symm) (Qe hlen)) (Qd (by exact zn2 [_,_] 1 (.v 0) (.n 1000) 1 (.v 1) (.n 1000) 1 (.v 0) (.v 1) rfl hl (Qe e1):vs.size≤1000) (by decide)) (fun k x e=>hint k x (by rw [Array.getElem?_toList];exact e)) hz hTO hTI i1 i2 (hL.at fun o e=>hle _ o e) (hL'.at fun o e=>hle _ o e) fun h3 tk hDD hk3=>?_
 revert hDD
 refine QCB fun od es ep hod hex=>QEg fun hdat hkeys hpairs hnod=>?_
 refine oA (QJM hll hll' hd .nil .nil) fun hkv hnd=>?_
 have x1':HLe s1.heap h3:= .of fun c o e=>by
  have lc:=Heap.lt_size e
  exact hk3 c o (QBn 4 lc) (QBn 3 lc) (QHM lc) (QBn 1 lc) (hle c o e)
 have hnone:s1.heap.get? h''.objs.size=none:=by rw [hsz];exact QBW (Qg _ _)
 have xx:Ext g1 s1 (g1.add h''.objs.size od) {s1 with heap:=h3,toks:=tk}:=Ext.add x1.inn x1' hnone hod
 refine k _ _ _ (x1.trans xx) ?_
 refine .dict (Fz.add_self _ _ _) hex.1 hdat (QQS hpairs (fun e he=>hkeys e (Array.mem_toList_iff.mp he)) (hkv.mono xx.le)) ?_
 skip
 unfold dictFrom
 rw [←hkv.keys];exact hnd
end
theorem QQD:builtinKind "tuple.__iter__"=some .slot:=by decide+kernel
theorem QOm:splitId "tuple.__iter__"=some ("tuple","__iter__"):=by decide+kernel
section
variable {prog:QV}{w:QX}{A:QT}{E:QS→QR→Prop}{s:QR}
structure QN6 (prog:QV)(w:QX)(h:Heap)(a:QW)(items:Array QS):Prop where
 seq:∃o n,h.get? a=some o∧o.data= .seq items n
 it:Looks (model prog w) h (specialOf (.ref a) "__iter__") (some (.builtin "tuple.__iter__"))
 isT:Looks (model prog w) h (isInstance (.ref a) (.type "tuple")) true
theorem QKT{t:QW}{items}{Q:QS→QR→Prop}(ht:QN6 prog w s.heap t items)
  (hQ:Q (.ref s.heap.objs.size) {s with heap:=s.heap.push {cls:= .type "tuple_iterator",data:= .fields #[.ref t,.int 0 0]}}):
  Qa (model prog w) A (pyIter (.ref t)) Q E s:=by
 have hc:Qa (model prog w) A (call (.builtin "tuple.__iter__") [.ref t]) (fun it s'=>∃T' r,s'.TypeIs it T'∧typeLookup (.type T') "__next__"=pure (some r)∧Q it s') E s:=by
  refine wpAny_call (codeAny_call_builtin F.slot_tuple_iter.plain F.entry_tuple_iter (@check_slot (model prog w) _ _ _ "tuple.__iter__" "tuple" "__iter__" (.ref t) [] [] _ QQD QOm ht.isT (F.args_tuple_iter_1 _) ?_))
  show Qa _ _ (do ret (←newFields "tuple_iterator" [.ref t,rawInt 0])) _ _ s
  exact QB (wpAny_newObj_type (QC ⟨"tuple_iterator",_,⟨_,Heap.get?_push_size _ rfl,rfl⟩,F.slot_tuple_iterator_next.lookup,hQ⟩))
 skip
 refine QB (ht.it.here ?_)
 skip
 refine QB ?_
 rw [callSpecialIfBoundUnlessNone?,bindSpecialIfBound?]
 refine QF (QB (QB (ht.it.here ?_)))
 skip
 refine QB (wpAny_askSetting (wpAny_ite ?_))
 have fin:∀refuse:Sem QS,Qa (model prog w) A (if (Value.builtin "tuple.__iter__"==Value.none)=true then (refuse>>=fun v=>pure (some v)) else (call (.builtin "tuple.__iter__") [.ref t]>>=fun v=>pure (some v))) (fun r s'=>Qa (model prog w) A (match r with
   |some it=>(do
    match←specialOf it "__next__" with
    |none=>rule "iter.non-iterator";raiseError "TypeError" s!"iter() returned non-iterator of type '{← typeNameOf it}'"
    |some _=>pure it)
   |none=>(do
    match←bindSpecialIfBound? (.ref t) "__getitem__" with
    |none=>rule "iter.not-iterable";raiseError "TypeError" s!"'{← typeNameOf (.ref t)}' object is not iterable"
    |some _=>rule "iter.getitem-fallback";newFields "iterator" [.ref t,←mkInt 0])) Q E s') E s:=by
  intro refuse
  rw [if_neg (by rw [builtin_beq_none];exact QAS)]
  refine QB (QL hc (fun v s' h'=>QC ?_) fun _ _ h'=>h')
  revert h'
  refine QFC fun T' r hT' hl hQ=>?_
  exact QB (wpAny_specialOf hT' hl (QC hQ))
 split
 ·exact QB (QC (QC (fin _)))
 ·exact wpAny_tryCatch (QB (QC (QC (fin _))))
noncomputable def QEC(h:Heap)(a:QW)(items:Array QS):Prop:=∃o n,h.get? a=some o∧o.data= .seq items n
theorem QEC.but{h h':Heap}{a b:QW}{items:Array QS}(x:QEC h a items)(k:Heap.ExtBut b h h')(hab:a≠b):QEC h' a items:=by
 revert x
 refine QDe fun o n ho hd=>?_
 exact ⟨o,n,k a o hab ho,hd⟩
theorem QOy{it t:QW}{i:Nat}{items:Array QS}{x:QS}{Q:Option QS→QR→Prop}(hit:s.heap.IsTupleIter it t i)(ht:QEC s.heap t items)(hx:items[i]? =some x)
  (hQ:∀h',h'.IsTupleIter it t (i+1)→Heap.SameBut it s.heap h'→Q (some x) {s with heap:=h'}):Qa (model prog w) A (pyNext (.ref it)) Q E s:=by
 refine QFZ (id hit) fun oi hoi hci hdi=>?_
 revert ht
 refine QDe fun ot nt hot hdt=>?_
 have body:Qa (model prog w) A.in1 (Builtin.«tuple_iterator.__next__» ⟨[.ref it],[]⟩) (fun fin s'=>∃v,fin= .done (.ret v)∧∃h',s'={s with heap:=h'}∧v=x∧h'.IsTupleIter it t (i+1)∧Heap.SameBut it s.heap h') (fun e s'=>False) s:=by
  show Qa _ _ (field (.ref it) 0>>=_) _ _ s
  refine QB (wpAny_field hoi hdi (x:= .ref t) rfl ?_)
  skip
  rw [if_neg (show¬((Value.ref t==Value.none)=true) from QAS)]
  skip
  refine QB (wpAny_field hoi hdi (x:= .int i 0) rfl ?_)
  skip
  refine QB (wpAny_seqItems hot hdt ?_)
  simp only [QAD,hx]
  refine QB (wpAny_setField hoi hdi (by exact Qf _) (QC ⟨x,rfl,_,rfl,rfl,?_,Heap.SameBut.update ..⟩))
  exact ⟨_,Heap.get?_update_self _ hoi (Obj.isFreed_of_fields (Obj.data_mapFields hdi _)),(Obj.cls_mapFields ..).trans hci,by rw [Obj.data_mapFields hdi];simp [rawInt]⟩
 skip
 refine QB (wpAny_attempt (wpAny_callSpecial?_slot (name:=Qc "__next__") hit.typeIs F.slot_tuple_iterator_next
  (QJ F.slot_tuple_iterator_next hit.typeIs F.entry_tuple_iterator_next (QL body (fun fin s' h'=>?_) fun _ _ h'=>h'.elim) (F.args_tuple_iterator_next_1 _))))
 revert h'
 refine rEA fun v ζ1=>QDl fun h' ζ3 ζ4 h1 h2=>?_
 subst ζ1
 subst ζ3
 subst ζ4
 exact ⟨v,rfl,QC (hQ _ h1 h2)⟩
theorem QP0{it t:QW}{i:Nat}{items:Array QS}{Q:Option QS→QR→Prop}(hh:A.handled=none)(hit:s.heap.IsTupleIter it t i)(ht:QEC s.heap t items)(hx:items[i]? =none)
  (hQ:∀h',Heap.ExtBut it s.heap h'→Q none {s with heap:=h'}):Qa (model prog w) A (pyNext (.ref it)) Q E s:=by
 refine QFZ (id hit) fun oi hoi hci hdi=>?_
 revert ht
 refine QDe fun ot nt hot hdt=>?_
 skip
 refine QB (wpAny_attempt (wpAny_callSpecial?_slot (name:=Qc "__next__") hit.typeIs F.slot_tuple_iterator_next
  (QJ F.slot_tuple_iterator_next hit.typeIs F.entry_tuple_iterator_next ?_ (F.args_tuple_iterator_next_1 _))))
 show Qa _ _ (field (.ref it) 0>>=_) _ _ s
 refine QB (wpAny_field hoi hdi (x:= .ref t) rfl ?_)
 skip
 rw [if_neg (show¬((Value.ref t==Value.none)=true) from QAS)]
 skip
 refine QB (wpAny_field hoi hdi (x:= .int i 0) rfl ?_)
 skip
 refine QB (wpAny_seqItems hot hdt ?_)
 simp only [QAD,hx]
 refine QB (QQ (QB (wpAny_setField hoi hdi (by simp) ?_)))
 skip
 refine QB ?_
 rw [newExc,newTuple]
 refine QB (wpAny_newObj_type ?_ (by size_fits))
 refine QB (m:=firstArgMember _ _) (wpAny_of_eq (a:=Value.none) (by first|rfl|(simp only [firstArgMember];rfl)) ?_)
 refine wpAny_newObj_type ?_ (by size_fits)
 rw [raiseNew]
 refine QB (wpAny_handled ?_)
 first|rw [show A.in1.handled=none from hh]|rw [hh]
 refine QB (QC (wpAny_throw ?_))
 refine QB (wpAny_isInstance (T:="StopIteration") (b:=true) ⟨_,Heap.get?_push_size _ rfl,rfl⟩ isSubtype_stop ?_)
 exact QC (hQ _ (((Heap.SameBut.update ..).extBut.push _).push _))
theorem QJ2{it t:QW}{items:Array QS}(hne:t≠it):∀(n i:Nat) (s:QR) (Q:List QS→QR→Prop),s.heap.IsTupleIter it t i→QEC s.heap t items→i+n≤items.size→
  (∀h',h'.IsTupleIter it t (i+n)→Heap.SameBut it s.heap h'→Q ((items.toList.drop i).take n) {s with heap:=h'})→Qa (model prog w) A (draw (.ref it) n) Q E s
 |0,i,s,Q,hit,_,_,hQ=>by
  skip
  exact QC (by simpa using hQ s.heap hit (Heap.SameBut.refl ..))
 |n+1,i,s,Q,hit,ht,hle,hQ=>by
  have hlt:i<items.size:=by exact zn1 [_,_,_] 1 (.a (.v 0) (.n 1)) (.v 1) 1 (.a (.v 0) (.a (.v 2) (.n 1))) (.v 1) rfl hle
  skip
  refine QB (QOy hit ht (x:=items[i]) (by simp [hlt]) fun h₁ hit₁ hs₁=>?_)
  refine QB (QF (QJ2 hne n (i+1) _ _ hit₁ (ht.but hs₁.extBut hne) (by exact zn1 [_,_,_] 1 (.a (.a (.v 0) (.n 1)) (.v 1)) (.v 2) 1 (.a (.v 0) (.a (.v 1) (.n 1))) (.v 2) rfl hle) fun h₂ hit₂ hs₂=>QC ?_))
  have:=hQ h₂ (by rw [show i+(n+1)=i+1+n by exact Qk (zn0 [_,_] 1 (.a (.v 0) (.a (.v 1) (.n 1))) (.a (.a (.v 0) (.n 1)) (.v 1)) rfl) (zn0 [_,_] 1 (.a (.a (.v 0) (.n 1)) (.v 1)) (.a (.v 0) (.a (.v 1) (.n 1))) rfl)];exact hit₂) (hs₁.trans hs₂)
  rw [show items.toList.drop i=items[i]::items.toList.drop (i+1) by simp [List.drop_eq_getElem_cons,hlt],List.take_succ_cons] at this
  exact this
theorem QLW{env:Env}{elts:List Expr}{x1}{pos:Pos}{t:QW}{items:Array QS}{Q:Unit→QR→Prop}(hh:A.handled=none)(ht:QN6 prog w s.heap t items)
  (hn:(assignEach elts env).length=items.size) (hstar:(assignEach elts env).findIdx? (·.1)=none)
  (h:∀h',Heap.ExtBut s.heap.objs.size s.heap h'→Qa (model prog w) A (assignInOrder ((assignEach elts env).map (·.2)) items.toList) Q E {s with heap:=h'}):
  Qa (model prog w) A (assign (.Tuple elts x1 pos) env (.ref t)) Q E s:=by
 have hlt:t≠s.heap.objs.size:=by refine QB0 ht.seq fun o n ho _=>?_;exact Qi (Heap.lt_size ho)
 rw [arm_assign_Tuple]
 refine QB (wpAny_standAt ?_)
 unfold unpack
 rw [hn,hstar]
 refine QB (QF ?_)
 skip
 refine QB ?_
 skip
 refine QB (ht.it.here ?_)
 refine QC ?_
 rw [if_neg QAS]
 refine QB (QF (QKT ht ?_))
 have hsq:QEC s.heap t items:=ht.seq
 have hsq':QEC (s.heap.push {cls:= .type "tuple_iterator",data:= .fields #[.ref t,.int 0 0]}) t items:=by
  revert hsq
  refine QDe fun o n ho hd=>?_
  exact ⟨o,n,Heap.get?_push_of_some _ ho,hd⟩
 refine QB (QF (QJ2 hlt items.size 0 _ _ ⟨_,Heap.get?_push_size _ rfl,rfl,rfl⟩ hsq' (by exact zn0 [_] 1 (.a (.n 0) (.v 0)) (.v 0) rfl) fun h₁ hit₁ hs₁=>?_))
 rw [show List.take items.size (List.drop 0 items.toList)=items.toList by rw [List.drop_zero];exact Q6 (by exact Qf _)]
 rw [if_neg (by simp)]
 refine QB (QF (QP0 hh hit₁ (hsq'.but hs₁.extBut hlt) (by simp) fun h₂ he₂=>?_))
 rw [if_neg (by rw [Option.isSome_none];exact QAS)]
 exact QC (h h₂ fun b o hb e=>he₂ b o hb (hs₁.extBut b o hb (Heap.get?_push_of_some _ e)))
end
noncomputable def QBp(vs:Array QS)(j:Nat):QW:=match vs[j]? with
 |some (.ref a)=>a
 |_=>0
noncomputable def QDz(g:Fz)(a:QW):Array QS:=match g a with
 |some o=>(match o.data with
  | .seq v _=>v
  |_=> #[])
 |none=> #[]
theorem QJN{k:Nat}{d:D}{r:List D}(h:QDF k (d::r)=true):∃xs,d= .inst 166 xs∧xs.length=k∧QDF k r=true:=by
 cases d with
 |inst c xs=>
  refine oA (Bool.and_eq_true_iff.mp h) fun h1 h3=>?_
  refine oA (Bool.and_eq_true_iff.mp h1) fun h1 h2=>?_
  rw [eq_of_beq h1]
  exact ⟨xs,rfl,eq_of_beq h2,h3⟩
 |_=>exact absurd h QAS
structure QRW (g:Fz)(k:Nat)(v:QS)(d:D)(a:QW)(o:Obj)(n:Nat)(its:Array QS)(ds:List D):Prop where
 v:v= .ref a
 d:d= .inst 166 ds
 at':g a=some o
 cls:o.cls= .ref 166
 dat:o.data= .seq its n
 den:DenL g its.toList ds
 len:ds.length=k
theorem QNf{g:Fz}{k:Nat}{xs:List D}:∀{vs:List QS},DenL g vs xs→QDF k xs=true→∀{j:Nat} {v:QS},vs[j]? =some v→∃d a o n its ds,xs[j]? =some d∧QRW g k v d a o n its ds:=by
 induction xs with
 |nil=>intro vs h _ j v e;rw [h.out] at e;exact QAV e
 |cons x xs ih=>
  intro vs h hi j v e
  refine QBO h.out fun u us ζ2 a b=>?_
  subst ζ2
  refine QFZ (QJN hi) fun ds ζ1 hl hr=>?_
  subst ζ1
  cases j with
  |zero=>
   cases e
   refine QA7 a.out fun ad o its n ζ4 h1 h2 h3 h4=>?_
   subst ζ4
   exact ⟨_,ad,o,n,its,ds,rfl,rfl,rfl,h1,h2,h3,h4,hl⟩
  |succ j=>exact ih b hr e
structure QI6 (g:Fz)(vs:Array QS)(xs:List D)(k j:Nat)(o:Obj)(n:Nat)(ds:List D):Prop where
 v:vs[j]? =some (.ref (QBp vs j))
 d:xs[j]? =some (.inst 166 ds)
 at':g (QBp vs j)=some o
 cls:o.cls= .ref 166
 dat:o.data= .seq (QDz g (QBp vs j)) n
 den:DenL g (QDz g (QBp vs j)).toList ds
 len:ds.length=k
theorem QQC{g:Fz}{k:Nat}{xs:List D}{vs:Array QS}(h:DenL g vs.toList xs)(hi:QDF k xs=true){j:Nat}(hj:j<vs.size):∃o n ds,QI6 g vs xs k j o n ds:=by
 have e:vs[j]? =some vs[j]:=Array.getElem?_eq_getElem hj
 refine QBh (QNf h hi (j:=j) (v:=vs[j]) (by rw [Array.getElem?_toList];exact e)) fun d a o n its=>rEA fun ds h1 h2=>?_
 have e1:QBp vs j=a:=by unfold QBp;rw [e,h2.v]
 have e2:QDz g (QBp vs j)=its:=by unfold QDz;rw [e1,h2.at'];dsimp only;rw [h2.dat]
 exact ⟨o,n,ds,by rw [e1,e,h2.v],by rw [h1,h2.d],by rw [e1];exact h2.at',h2.cls,by rw [e2];exact h2.dat,by rw [e2];exact h2.den,h2.len⟩
theorem QI7{es:List Expr}:∀{ns:List Str},QAj es=some ns→ns.length=es.length:=by
 induction es with
 |nil=>intro ns h;cases h;rfl
 |cons e r ih=>
  intro ns h
  cases e with
  |Name x p=>
   have h:(QAj r).map (x:: ·)=some ns:=h
   refine oEA (Option.map_eq_some_iff.mp h) fun ys q ζ2=>?_
   subst ζ2
   exact congrArg (· +1) (ih q)
  |_=>exact QAV h
theorem QKW{target:Expr}{k:Nat}(ht:QFJ target=some k):∃es kn p ns,target= .Tuple es kn p∧QAj es=some ns∧ns.Nodup∧ns.length=k:=by
 cases target with
 |Tuple es kn p=>
  rw [QFJ] at ht
  cases q:QAj es with
  |none=>rw [q] at ht;exact QAV ht
  |some ns=>
   rw [q] at ht
   refine oA (QAn ht) fun h1 h2=>?_
   exact ⟨es,kn,p,ns,rfl,q,h1,h2⟩
 |_=>exact QAV ht
structure QDq (tl:List QW)(Gh:Heap)(g:Fz)(I ax:QW)(vs:Array QS)(i:Nat)(hp:Heap):Prop where
 it:hp.IsListIter I ax i
 li:hp.IsList ax vs
 ins:∀j,j<vs.size→∃o n,hp.get? (QBp vs j)=some o∧o.cls= .ref 166∧o.data= .seq (QDz g (QBp vs j)) n
 low:∀b∈tl,∀o,Gh.get? b=some o→hp.get? b=some o
noncomputable def QIx(tl:List QW)(I ax:QW)(vs:Array QS):List QW:=I::ax::((List.range vs.size).map (QBp vs)++tl)
theorem QFb{tl:List QW}{I ax b:QW}{vs:Array QS}(h:b∈QIx tl I ax vs){P:QW→Prop}(h1:P I)(h2:P ax)(h3:∀j,j<vs.size→P (QBp vs j))(h4:∀c∈tl,P c):P b:=by
 unfold QIx at h
 simp only [Qx,Q8,Qw,List.mem_range] at h
 rcases h with rfl|rfl|⟨j,hj,rfl⟩|hb
 ·exact h1
 ·exact h2
 ·exact h3 j hj
 ·exact h4 b hb
section
variable {tl:List QW}{Gh:Heap}{g:Fz}{I ax:QW}{vs:Array QS}{i:Nat}{hp hp':Heap}
theorem QDq.frame(S:QDq tl Gh g I ax vs i hp)(kp:∀b∈QIx tl I ax vs,∀o,hp.get? b=some o→hp'.get? b=some o):QDq tl Gh g I ax vs i hp' where
 it:=S.it.at fun o e=>kp I (.head _) o e
 li:=S.li.at fun o e=>kp ax (.tail _ (.head _)) o e
 ins:=fun j hj=>by
  refine QBO (S.ins j hj) fun o' n' h1 h2 h3=>?_
  exact ⟨o',n',kp _ (.tail _ (.tail _ (List.mem_append_left _ (Qw.mpr ⟨j,List.mem_range.mpr hj,rfl⟩)))) o' h1,h2,h3⟩
 low:=fun b hb o e=>kp b (.tail _ (.tail _ (List.mem_append_right _ hb))) o (S.low b hb o e)
theorem QDq.next(S:QDq tl Gh g I ax vs i hp)(kp:Heap.ExtBut I hp hp')(hit:hp'.IsListIter I ax (i+1))(h1:ax≠I)(h2:∀j,j<vs.size→QBp vs j≠I)(h3:∀b∈tl,b≠I):QDq tl Gh g I ax vs (i+1) hp' where
 it:=hit
 li:=S.li.extBut kp h1
 ins:=fun j hj=>by
  refine QBO (S.ins j hj) fun o' n' e1 e2 e3=>?_
  exact ⟨o',n',kp _ o' (h2 j hj) e1,e2,e3⟩
 low:=fun b hb o e=>kp b o (h3 b hb) (S.low b hb o e)
end
section
variable {prog:QV}{w:QX}{G:Gd prog w}{N:Nat}
theorem QPs{A:QT}(hh:A.handled=none){tl:List QW}{Gh:Heap}{g:Fz}{I ax:QW}{vs:Array QS}{xs:List D}{k:Nat}{es:List Expr}{kn:Nat}{p:Pos}{ns:List Str}
  (hti:∀h':Heap,(∀b∈tl,∀o,Gh.get? b=some o→h'.get? b=some o)→∀a o,h'.get? a=some o→o.cls= .ref 166→Looks (model prog w) h' (specialOf (.ref a) "__iter__") (some (.builtin "tuple.__iter__"))∧Looks (model prog w) h' (isInstance (.ref a) (.type "tuple")) true)
  (hes:QAj es=some ns) (hnk:ns.length=k) (at':∀j,j<vs.size→∃o n ds,QI6 g vs xs k j o n ds) (h1:ax≠I) (h2:∀j,j<vs.size→QBp vs j≠I) (h3:∀b∈tl,b≠I):
  Lw prog w A (.Tuple es kn p) I (QIx tl I ax vs) [I] vs.size (fun i bs=>i<vs.size∧bs=ns.zip (QDz g (QBp vs i)).toList) (QDq tl Gh g I ax vs) where
 sub:=fun b hb=>by rw [Qy.mp hb];exact .head _
 frame:=fun i hp hp' S kp=>S.frame kp
 step:=fun i env' m s' Q' E' hi' st hn hLf hk hx hQ=>by
  refine QJW (at' i hi') fun o' n' ds J=>?_
  have hLI:env'.locals≠I:=fun q=>hLf (q▸ .head _)
  refine wpAny_pyNext_list_item st.it st.li J.v fun hp hit hs=>⟨_,rfl,?_⟩
  have st₁:=st.next hs.extBut hit h1 h2 h3
  refine wpAny_letOwnedTupleGo_listiter hit ?_
  refine oAA (QEd (env:=env') hes) fun t1 t2 t3=>?_
  have hsz':(QDz g (QBp vs i)).size=ns.length:=by rw [hnk,←J.len];exact J.den.length
  refine QBO (st₁.ins i hi') fun oj nj q1 q2 q3=>?_
  refine oA (hti hp st₁.low _ _ q1 q2) fun l1 l2=>?_
  refine QLW hh ⟨⟨oj,nj,q1,q3⟩,l1,l2⟩ (by rw [t1,hsz']) t2 fun h₃ hs₃=>?_
  rw [t3]
  have hn₂:hp.Ns env'.locals m:=hn.at' fun o e=>hs.extBut _ o hLI e
  have hn₃:h₃.Ns env'.locals m:=hn₂.at' fun o e=>hs₃ _ o (Qi hn₂.lt) e
  have hxn:∀x∈ns,env'.kindOf x=some .local:=fun x hx'=>hx x (by show x∈(QAj _).getD [];rw [hes];exact hx')
  refine storeAll hk (QI7 hes) (by rw [Array.length_toList,hsz']) hxn hn₃ fun h₄ tk₄ hn₄ hk₄=>?_
  refine hQ _ h₄ tk₄ ⟨hi',rfl⟩ (st₁.frame fun b hb o e=>?_) hn₄ fun b o hbL hbw e=>?_
  ·exact hk₄ b o (fun q=>hLf (q▸hb)) (hs₃ b o (Qi (Heap.lt_size e)) e)
  ·have e2:=hs.extBut b o (fun q=>hbw (Qy.mpr q)) e
   exact hk₄ b o hbL (hs₃ b o (Qi (Heap.lt_size e2)) e2)
 done:=fun s' Q' E' st hQ=>wpAny_pyNext_list_end hh st.it st.li (Array.getElem?_eq_none (Qf _)) fun h' he'=>hQ h' s'.toks fun b o hb e=>he' b o (fun q=>hb (Qy.mpr q)) e
 self:=fun i s' Q' E' st hQ=>wpAny_pyIter_listiter st.it hQ
theorem QIf{α:Type}{l:List Str}{r:List α}(e:l.length=r.length):(l.zip r).map (·.1)=l:=List.map_fst_zip (Qe e)
theorem QMN{α:Type}{l:List Str}{r:List α}(e:l.length=r.length):(l.zip r).map (·.2)=r:=List.map_snd_zip (Qe e.symm)
theorem QN7(hN:10≤N){e:Expr}{ρ:PE}{xs:List D}{target:Expr}{k:Nat}(ht:QFJ target=some k)(hi:QDF k xs=true)(h:QAW G N e ρ (.list xs)):QD4 G N target e ρ xs:=by
 intro A env g s Q E R V kk
 refine oEA G.ti fun tl htl hti=>?_
 refine QFz (QKW ht) fun es kn p ns=>QEg fun ζ4 hes hnd hnk=>?_
 subst ζ4
 refine h A env g s _ E R V fun g1 s1 v x1 d1=>?_
 have V1:=V.up x1
 apply QBG d1.out;intro ax o vs n ho hc hd hl
 have hL:s1.heap.IsList ax vs:=⟨o,x1.inn.sq ho hd,hc.1,n,hd⟩
 refine wpAny_pyIter_list hL ?_
 have xx:=Ext.grow (tk:=s1.toks) x1.inn (QAm s1.heap {cls:= .type "list_iterator",data:= .fields #[.ref ax,.int 0 0]})
 have at':∀j,j<vs.size→∃o n ds,QI6 g1 vs xs k j o n ds:=fun j hj=>QQC hl hi hj
 have QCf:∀b∈tl,∃o,G.h.get? b=some o∧s1.heap.get? b=some o∧b<gsz:=fun b hb=>by
  refine oA (htl b hb) fun hb1=>rE fun o' ho'=>?_
  exact ⟨o',ho',V1.low hb1 ho',hb1⟩
 have ltA:ax<s1.heap.objs.size:=Heap.lt_size (x1.inn.sq ho hd)
 have ltI:∀j,j<vs.size→QBp vs j<s1.heap.objs.size:=fun j hj=>by
  refine QJW (at' j hj) fun o' n' ds J=>?_
  exact Heap.lt_size (x1.inn.sq J.at' J.dat)
 have ltL:∀b∈tl,b<s1.heap.objs.size:=fun b hb=>by
  refine QFZ (QCf b hb) fun o' _ h2 _=>?_
  exact Heap.lt_size h2
 have lw:=QPs (prog:=prog) (w:=w) (p:=p) (kn:=kn) (R.hnd hN) hti hes hnk at' (Qi ltA) (fun j hj=>Qi (ltI j hj)) (fun b hb=>Qi (ltL b hb))
 refine kk g1 _ s1.heap.objs.size _ _ _ (QDq tl G.h g1 s1.heap.objs.size ax vs) (x1.trans xx) {lw:=lw.castN hl.length,st:=?_,low:=?_,off:=?_,nd:=?_,bd:=?_,frz:=?_}
 ·refine ⟨⟨_,Heap.get?_push_size _ rfl,rfl,rfl⟩,hL.push _,fun j hj=>?_,fun b hb o' e=>Heap.get?_push_of_some _ (V1.low (htl b hb).1 e)⟩
  refine QJW (at' j hj) fun o' n' ds J=>?_
  exact ⟨o',n',Heap.get?_push_of_some _ (x1.inn.sq J.at' J.dat),J.cls,J.dat⟩
 ·intro b hb
  rw [show ({s1 with heap:=s1.heap.push {cls:= .type "list_iterator",data:= .fields #[.ref ax,.int 0 0]}}:QR).heap.objs.size=s1.heap.objs.size+1 from Heap.size_push ..]
  exact QFb hb (Qn _) (Nat.lt_succ_of_lt ltA) (fun j hj=>Nat.lt_succ_of_lt (ltI j hj)) (fun c hc=>Nat.lt_succ_of_lt (ltL c hc))
 ·intro b hb
  rw [Qy.mp hb]
  exact ⟨x1.inn.none (QAp _),x1.heap.none (QAp _)⟩
 ·intro i hp S b hb
  refine QFb (P:=fun b=>∃o,hp.get? b=some o∧((b∉[s1.heap.objs.size]∧b<gsz)∨∀es ep,o.data≠ .dict es ep)) hb ?_ ?_ (fun j hj=>?_) (fun c hc=>?_)
  ·refine QFZ S.it fun o1 ho1 _ hod1=>?_
   exact ⟨o1,ho1,.inr fun _ _ q=>by rw [hod1] at q;cases q⟩
  ·refine QFw S.li fun o2 ho2 _ n2 hod2=>?_
   exact ⟨o2,ho2,.inr fun _ _ q=>by rw [hod2] at q;cases q⟩
  ·refine QBO (S.ins j hj) fun o3 n3 h1 _ h3=>?_
   exact ⟨o3,h1,.inr fun _ _ q=>by rw [h3] at q;cases q⟩
  ·refine QFZ (QCf c hc) fun o' q1 q2 q3=>?_
   exact ⟨o',S.low c hc o' q1,.inl ⟨fun q=>Qi (ltL c hc) (Qy.mp q),q3⟩⟩
 ·intro i bs hi'
  refine rA fun hi2 ζ1=>?_
  cases ζ1
  refine QJW (at' i hi2) fun o' n' ds J=>?_
  have hlen:ns.length=ds.length:=hnk.trans J.len.symm
  have hl2:ns.length=(QDz g1 (QBp vs i)).toList.length:=hlen.trans J.den.length.symm
  refine ⟨_,ns.zip ds,J.d,?_,?_,?_,?_⟩
  ·exact QSs hes ⟨hlen,hnd⟩
  ·rw [QIf hl2,QIf hlen]
  ·rw [QMN hl2,QMN hlen];exact J.den
  ·rw [QIf hlen];exact hnd
 ·intro b hb
  refine QFb (P:=fun b=>b∈[s1.heap.objs.size]∨∃o',g1 b=some o') hb (.inl (.head _)) (.inr ⟨o,ho⟩) (fun j hj=>?_) (fun c hc=>?_)
  ·refine QJW (at' j hj) fun o' n' ds J=>?_
   exact .inr ⟨o',J.at'⟩
  ·refine oEA (QCf c hc) fun o' q1 _=>?_
   exact .inr ⟨o',V1.base _ _ q1⟩
end
section
variable {prog:QV}{w:QX}{G:Gd prog w}{N:Nat}
noncomputable def QFY(G:Gd prog w)(N:Nat)(elt target iter:Expr)(ifs:List Expr)(scope:Scope)(ρ:PE)(ys:List D):Prop:=
 ∃ds,QEm ρ scope target∧(∀env x,foldedSetIterable iter env x=pure x)∧QD4 G N target iter ρ ds∧CLt G N target ifs elt scope ρ ds ys∧ds.length≤1000
theorem QKl{ρ:PE}{scope:Scope}{target:Expr}(K:QEm ρ scope target){env:Env}{g:Fz}{h:Heap}(V:Vw G A env ρ g h):closureFor scope env=pure (QC4 env scope.names []):=
 QMq fun p hp hf=>V.cel _ (K.free p hp hf)
theorem QGY{elt target iter:Expr}{ifs:List Expr}{scope:Scope}{pos:Pos}{ρ:PE}{ys:List D}(h:QFY G N elt target iter ifs scope ρ ys):QAW G N (.ListComp elt [⟨target,iter,ifs,0⟩] scope pos) ρ (.list ys):=by
 intro A env g s Q E R V k
 revert h
 refine QDl fun ds K hfold hsrc=>rA fun hrun hlen=>?_
 rw [eval_ListComp]
 refine wpAny_comprehension_free (use:=none) rfl (hfold env) (QKl K V) K.kind K.loc (hsrc A env g s _ E R V fun g₂ s₂ I fp wr Bd St x₂ W=>?_)
 refine QHB (RR:=fun acc C=>compPost (model prog w) A E none Q acc C) K R V x₂ W.toSrc hrun hlen ?_
 intro gk D C h' tk m' kk yv hDC hD hC hn hl xk gD gC hd
 refine ⟨m',hn,fun h'' hs''=>?_⟩
 refine oEE x₂.same fun hs2 ts2 es2=>?_
 have fs:∀b,s₂.heap.get? b=none→s.heap.get? b=none:=fun b=>x₂.heap.none
 have hle:HLe s.heap h'':=xk.heap.to fun b o o' e e'=>hs''.extBut b o' (fun q=>by rw [q,fs C hC] at e;cases e) e'
 have hl'':h''.get? D=some {cls:= .type "list",data:= .seq yv kk}:=hs''.extBut _ _ hDC hl
 have inn'':FIn gk h'':=xk.inn.to fun b o o' e e'=>hs''.extBut b o' (fun q=>by rw [q,gC] at e;cases e) e'
 have addle:FLe gk (gk.add D {cls:= .type "list",data:= .seq yv kk}):=Fz.add_le gD
 refine k (gk.add D {cls:= .type "list",data:= .seq yv kk}) _ _ {heap:=hle,le:=xk.le.trans addle,inn:=?_,new:=?_,same:=?_} (.list (Fz.add_self _ _ _) ⟨rfl,rfl,rfl⟩ rfl (hd.mono addle))
 ·intro b o e
  unfold Fz.add at e
  by_cases q:b=D
  ·subst q;rw [if_pos rfl] at e;cases e;exact ⟨_,hl'',.rfl'⟩
  ·rw [if_neg q] at e;exact inn'' b o e
 ·intro b o e
  unfold Fz.add at e
  by_cases q:b=D
  ·subst q;exact .inr (fs _ hD)
  ·rw [if_neg q] at e;exact xk.new b o e
 ·exact ⟨h'',tk,by rw [es2]⟩
structure Stp (L:QW)(g:Fz)(s:QR)(g':Fz)(s':QR):Prop where
 keep:∀b o,b≠L→s.heap.get? b=some o→∃o',s'.heap.get? b=some o'∧QDA b o o'
 le:FLe g g'
 inn:FIn g' s'.heap
 new:∀a o,g' a=some o→g a=some o∨s.heap.get? a=none
 same:∃h tk,s'={s with heap:=h,toks:=tk}
theorem QKv{elt target iter:Expr}{ifs:List Expr}{scope:Scope}{pos spos py:Pos}{y:Str}{ρ:PE}{ys:List D}(h:QFY G N elt target iter ifs scope ρ ys){A:QT}{env:Env}{g:Fz}{s:QR}{m:Str→Option QS}{Q:Flow→QR→Prop}{E:QS→QR→Prop}
  (hsw:swapsWith (.ListComp elt [⟨target,iter,ifs,0⟩] scope pos) (some (.Name y py)) spos.line env=pure true) (R:Rm A N) (V:Vw G A env ρ g s.heap) (hy:env.kindOf y=some .local) (hL:s.heap.Ns env.locals m) (gL:g env.locals=none)
  (k:∀g' s' D,Stp env.locals g s g' s'→Den g' (.ref D) (.list ys)→s'.heap.Ns env.locals (fun z=>if z=y then some (.ref D) else m z)→Q .next s'):
  Qa (model prog w) A (exec (.Assign [.Name y py] (.ListComp elt [⟨target,iter,ifs,0⟩] scope pos) spos) env) Q E s:=by
 revert h
 refine QDl fun ds K hfold hsrc=>rA fun hrun hlen=>?_
 rw [exec_Assign_Name_used _ _ _ _ hsw]
 refine QB (wpAny_standAt (QB ?_))
 skip
 refine QB (QL (wpAny_comprehension_free (use:=some (assign (.Name y py) env)) (Q:=fun _ s'=>Q .next s') rfl (hfold env) (QKl K V) K.kind K.loc
  (hsrc A env g s _ E R V fun g₂ s₂ I fp wr Bd St x₂ W=>?_)) (fun _ s' hq=>QC (QC hq)) fun _ _ e=>e)
 refine QHB (RR:=fun acc C=>compPost (model prog w) A E (some (assign (.Name y py) env)) (fun _ s'=>Q .next s') acc C) K R V x₂ W.toSrc hrun hlen ?_
 intro gk D C h' tk m' kk yv hDC hD hC hn hl xk gD gC hd
 have fs:∀b,s₂.heap.get? b=none→s.heap.get? b=none:=fun b=>x₂.heap.none
 refine QLr (id hL) fun oL _ _ hoL _=>?_
 have hLC:env.locals≠C:=fun q=>by rw [q,fs C hC] at hoL;cases hoL
 have hLD:env.locals≠D:=fun q=>by rw [q,fs D hD] at hoL;cases hoL
 have gkL:gk env.locals=none:=by
  cases q:gk env.locals with
  |none=>rfl
  |some o=>
   rcases xk.new _ _ q with e|e
   ·rw [gL] at e;cases e
   ·rw [hoL] at e;cases e
 skip
 refine wpAny_assign_Name (wpAny_storeName_local hy (xk.heap.ns hL) (fun h₂ hn₂ hs₂=>?_) (by rw [V.kind];rfl))
 refine ⟨m',hn.sameBut hs₂ (Ne.symm hLC),fun h₃ hs₃=>?_⟩
 have addle:FLe gk (gk.add D {cls:= .type "list",data:= .seq yv kk}):=Fz.add_le gD
 refine oEE x₂.same fun hs2 ts2 es2=>?_
 refine k (gk.add D {cls:= .type "list",data:= .seq yv kk}) _ D {keep:=?_,le:=xk.le.trans addle,inn:=?_,new:=?_,same:=?_} (.list (Fz.add_self _ _ _) ⟨rfl,rfl,rfl⟩ rfl (hd.mono addle)) (hn₂.sameBut hs₃ hLC)
 ·intro b o hb e
  refine oEA (xk.heap _ _ e) fun o' e' sm=>?_
  exact ⟨o',hs₃.extBut _ _ (fun q=>by rw [q,fs C hC] at e;cases e) (hs₂.extBut _ _ hb e'),sm⟩
 ·intro b o e
  unfold Fz.add at e
  by_cases q:b=D
  ·subst q;rw [if_pos rfl] at e;cases e;exact ⟨_,hs₃.extBut _ _ hDC (hs₂.extBut _ _ (Ne.symm hLD) hl),.rfl'⟩
  ·rw [if_neg q] at e
   refine oEA (xk.inn b o e) fun o' e' sm=>?_
   exact ⟨o',hs₃.extBut _ _ (fun q=>by rw [q,gC] at e;cases e) (hs₂.extBut _ _ (fun q=>by rw [q,gkL] at e;cases e) e'),sm⟩
 ·intro b o e
  unfold Fz.add at e
  by_cases q:b=D
  ·subst q;exact .inr (fs _ hD)
  ·rw [if_neg q] at e;exact xk.new b o e
 ·exact ⟨h₃,_,by rw [es2]⟩
end
section
open PySem.Builtin._codecs
theorem QFX{α β:Type}{x:α}{l:List α}{b b':β}{f:α→β→Sem (ForInStep β)}(h:f x b=pure (.yield b')):forIn (x::l) b f=forIn l b' f:=by
 rw [List.forIn_cons,h];rfl
theorem QNE{α β:Type}{x:α}{l:List α}{b b':β}{f:α→β→Sem (ForInStep β)}(h:f x b=pure (.done b')):forIn (x::l) b f=pure b':=by
 rw [List.forIn_cons,h];rfl
theorem decoded{id:String}{b:Array UInt8}(hb:∀x∈b.toList,x.toNat<128)(hsz:b.size≤1000):runDecoder id asciiDecoder none true b 0 []=pure (b.map fun x=>x.toNat,b.size):=by
 unfold runDecoder
 simp only [Std.Legacy.Range.forIn_eq_forIn_range']
 have hline:=QAb
 have key:∀(k start p:Nat) (st:Faults) (f:Nat→Nat×Array Nat×Faults→Sem (ForInStep (Nat×Array Nat×Faults))),(∀i p st,p<b.size→f i (p,((b.toList.take p).map fun x=>x.toNat).toArray,st)=pure (.yield (p+1,((b.toList.take (p+1)).map fun x=>x.toNat).toArray,st)))→
   p+k=b.size→forIn (List.range' start k) (p,((b.toList.take p).map fun x=>x.toNat).toArray,st) f=pure (b.size,(b.map fun x=>x.toNat),st):=by
  intro k
  induction k with
  |zero=>
   intro start p st f hf hp
   have:p=b.size:=by exact Qk (zn1 [_,_] 1 (.v 0) (.v 1) 1 (.a (.v 0) (.n 0)) (.v 1) rfl (Qe hp)) (zn1 [_,_] 1 (.v 0) (.v 1) 1 (.v 0) (.a (.v 1) (.n 0)) rfl (Qe hp.symm))
   subst this
   rw [show List.range' start 0=[] from rfl,List.forIn_nil]
   have e:((b.toList.take b.size).map fun x=>x.toNat).toArray=b.map fun x=>x.toNat:=by
    rw [Q6 (l:=b.toList) (by exact Qf _)];apply Array.ext';simp
   rw [e]
  |succ k ih=>
   intro start p st f hf hp
   rw [List.range'_succ,QFX (hf _ _ _ (by exact zn1 [_,_,_] 1 (.a (.v 0) (.n 1)) (.v 1) 1 (.a (.v 0) (.a (.v 2) (.n 1))) (.v 1) rfl (Qe hp)))]
   exact ih _ _ _ _ hf (by exact Qk (zn1 [_,_,_] 1 (.a (.a (.v 0) (.n 1)) (.v 1)) (.v 2) 1 (.a (.v 0) (.a (.v 1) (.n 1))) (.v 2) rfl (Qe hp)) (zn1 [_,_,_] 1 (.v 0) (.a (.a (.v 1) (.n 1)) (.v 2)) 1 (.v 0) (.a (.v 1) (.a (.v 2) (.n 1))) rfl (Qe hp.symm)))
 have hsize:([:b.size]:Std.Legacy.Range).size=b.size:=by simp [Std.Legacy.Range.size]
 rw [hsize]
 refine (congrArg (fun m=>m>>=_) (key b.size 0 0 {} _ (fun i p st hp=>?_) (by exact Qk (zn0 [_] 1 (.a (.n 0) (.v 0)) (.v 0) rfl) (zn0 [_] 1 (.v 0) (.a (.n 0) (.v 0)) rfl)))).trans ?_
 rotate_left
 ·rfl
 ·have hs:¬((b.toList.take p).map fun x=>x.toNat).toArray.size>sizeLine:=by simp;omega
  have hp':¬p≥b.size:=by omega
  dsimp only
  rw [if_neg hs,if_neg hp']
  have hg:b.getD p 0=b[p]:=by simp [Array.getD,hp]
  have hlt:(b.getD p 0).toNat<128:=by rw [hg];exact hb _ (by exact List.getElem_mem _)
  have hfind:asciiDecoder.find true b p= .char (b.getD p 0).toNat (p+1):=by
   show (if (b.getD p 0).toNat<128 then _ else _)=_
   rw [if_pos hlt]
  rw [hfind]
  show pure _=pure _
  congr 4
  rw [List.take_succ_eq_append_getElem (by exact hp)]
  simp [hg]
theorem QIb:∀(l:List Nat) (acc:Array UInt8),l.foldl (fun acc y=>acc++(asciiCodec.bytesOf y).toArray) acc=acc++(l.map fun k=>UInt8.ofNat k).toArray
 |[],acc=>rfl
 |x::r,acc=>by
  rw [List.foldl_cons,QIb r]
  show acc++ #[x.toUInt8]++_=_
  simp [Nat.toUInt8]
theorem QTX{α β:Type}{m m':Sem α}{k:α→Sem β}(e:m=m'):m>>=k=m'>>=k:=congrArg (fun m=>m>>=k) e
theorem QLe{β:Type}{n:Nat}{b0 b1:β}{f:Nat→β→Sem (ForInStep β)}(hn:n=0→b0=b1)(h0:n≠0→∀i,f i b0=pure (.yield b1))(h1:∀i,f i b1=pure (.done b1)):
  forIn ([:n]:Std.Legacy.Range) b0 f=(pure b1:Sem β):=by
 rw [Std.Legacy.Range.forIn_eq_forIn_range',show ([:n]:Std.Legacy.Range).size=n by simp [Std.Legacy.Range.size]]
 cases n with
 |zero=>rw [hn rfl];rfl
 |succ n=>
  rw [List.range'_succ,List.forIn_cons,h0 (Nat.succ_ne_zero _)]
  show (forIn (List.range' _ n) b1 _:Sem β)=_
  cases n with
  |zero=>rfl
  |succ n=>rw [List.range'_succ,List.forIn_cons,h1];rfl
theorem encoded{id:String}{self:QS}{x:Str}(hx:∀k∈x.cps.toList,k<128)(hsz:x.cps.size≤1000):encodeNarrow id asciiCodec none self x=pure (x.cps.map fun k=>UInt8.ofNat k):=by
 have bad:∀k,k∈x.cps.toList→asciiCodec.bad k=false:=fun k hk=>decide_eq_false (Nat.not_le_of_lt (hx k hk))
 refine (QTX (m':=pure (x.cps.size,(x.cps.map fun k=>UInt8.ofNat k),({}:Faults))) (QLe (n:=x.length) (fun h=>?_) (fun h i=>?_) fun i=>?_)).trans rfl
 ·rw [Array.eq_empty_of_size_eq_zero (xs:=x.cps) h];simp
 ·have hp:0<x.cps.size:=Nat.pos_of_ne_zero h
  refine (if_neg (by exact Nat.not_lt_zero _)).trans ?_
  show (match x.cps[0]? with|some a=>(_:Sem (ForInStep (Nat×Array UInt8×Faults)))|x=>_)=_
  rw [Array.getElem?_eq_getElem hp]
  refine (if_pos (by rw [bad _ (Array.getElem_mem_toList hp)];rfl)).trans ?_
  have hfi:Array.findIdx? asciiCodec.bad (x.cps.extract 0 x.cps.size)=none:=by
   rw [Array.findIdx?_eq_none_iff]
   intro k hk
   rw [Array.extract_size] at hk
   exact bad k (Array.mem_toList_iff.mpr hk)
  refine congrArg (fun b=>pure (ForInStep.yield b)) ?_
  show (0+((Array.findIdx? asciiCodec.bad (x.cps.extract 0 x.cps.size)).getD (x.cps.extract 0 x.cps.size).size),Array.foldl _ _ ((x.cps.extract 0 x.cps.size).extract 0 ((Array.findIdx? asciiCodec.bad (x.cps.extract 0 x.cps.size)).getD (x.cps.extract 0 x.cps.size).size)),({}:Faults))=_
  rw [hfi,Array.extract_size,Option.getD_none,Array.extract_size,Qm,←Array.foldl_toList,QIb]
  refine congrArg (fun b:Array UInt8=>(x.cps.size,b,({}:Faults))) (Array.ext' ?_)
  simp
 ·refine (if_neg ?_).trans ?_
  rotate_left
  ·show (match x.cps[x.cps.size]? with|some a=>(_:Sem (ForInStep (Nat×Array UInt8×Faults)))|x=>_)=_
   rw [Array.getElem?_eq_none (xs:=x.cps) (Qf _)]
  exact Nat.not_lt_of_le (Qd (Qe Array.size_map) (Qd hsz (Qd (by decide) QAb)))
theorem QDw:Slot "bytes" "translate" "bytes.translate":=
 .of (owner:="bytes") (n:="translate") (by rw [typeLookup_type,builtinLookup_eq_fast];kernel_rfl) (by decide+kernel) (by decide+kernel) (by decide+kernel)
  (by first|exact .inl (by decide+kernel)|exact .inr (by decide+kernel)) (by rw [isSubtype_type];kernel_rfl)
theorem QGz:typeOf (.builtin "bytes.translate")=pure (.type "method_descriptor"):=by show builtinType _=_;rw [builtinType_eq_fast];kernel_rfl
theorem QF4:entryFor table "bytes.translate"=some Builtin.«bytes.translate»:=entryFor_of_tree (by kernel_rfl)
theorem QGu(a b:QS):argsOk "bytes.translate" ⟨[a,b],[]⟩:=by
 unfold argsOk;rw [signature?_of (id:="bytes.translate") (n:=['e','t','a','l','s','n','a','r','t']) (o:=['s','e','t','y','b']) (by kernel_rfl) FB.owner_bytes];kernel_rfl
theorem QJb(a b:QS):argsOk "bytes.decode" ⟨[a,b],[]⟩:=by
 unfold argsOk;rw [signature?_of (id:="bytes.decode") (n:=['e','d','o','c','e','d']) (o:=['s','e','t','y','b']) (by kernel_rfl) FB.owner_bytes];kernel_rfl
theorem QMu{id:String}{b:Array UInt8}:decodeRoad id b QBk none []=(runDecoder id asciiDecoder none true b 0 []>>=fun r=>mkStr ⟨r.1⟩):=by kernel_rfl
theorem QJ3{id:String}{self:QS}{x:Str}:encodeRoad id self x QBk none=(encodeNarrow id asciiCodec none self x>>=fun b=>mkBytes b):=by kernel_rfl
theorem QJV(x:Str)(t u:Tok):«str.encode» ⟨[.str x t,.str QBk u],[]⟩=(encodeRoad "str.encode" (.str x t) x QBk none>>=fun v=>ret v):=by kernel_rfl
theorem QJZ(c:UInt8)(cs:List UInt8)(t u:Tok):«bytes.decode» ⟨[.bytes (c::cs).toArray t,.str QBk u],[]⟩=(mkStr (PySem.Str.ofString "utf-8")>>=fun _=>mkStr QBk>>=fun e=>mkStr (PySem.Str.ofString "bytes.decode")>>=fun d=>
  call (.builtin "_codecs.decode.text") [.bytes (c::cs).toArray t,e,.none,d]>>=fun v=>ret v):=by kernel_rfl
theorem QIc(b:Array UInt8)(t:Tok):typeOf (.bytes b t)=pure (.type "bytes"):=rfl
theorem QGQ:((Value.type "bytes")==(Value.type "bytes"))=true:=by decide
section
variable {prog:QV}{w:QX}{A:QT}{E:QS→QR→Prop}{s:QR}
theorem QLA{x:Str}{t u:Tok}{Q:QS→QR→Prop}(hx:∀k∈x.cps.toList,k<128)(hsz:x.cps.size≤1000)(h:∀t' k,Q (.bytes (x.cps.map fun k=>UInt8.ofNat k) t') {s with toks:=k}):
  Qa (model prog w) A (call (.builtin "str.encode") [.str x t,.str QBk u]) Q E s:=by
 refine QJ F.slot_str_encode (typeIs_str _ _ _) F.entry_str_encode ?_ (F.args_str_encode_2 _ _)
 rw [QJV,QJ3,encoded hx hsz]
 refine QB (QB (QC (wpAny_mkBytes (QC ⟨_,rfl,h _ _⟩) ?_)))
 have:=QAb
 rw [Array.size_map];omega
theorem meets_text{b:Array UInt8}{t t1 t2:Tok}{d:PySem.Str}(hb:∀x∈b.toList,x.toNat<128)(hsz:b.size≤1000):
  Meets («_codecs.decode.text» ⟨[.bytes b t,.str QBk t1,.none,.str d t2],[]⟩) (fun _ R s=>R (.ok (.ret (.str (asc b) s.toks))) {s with toks:=s.toks+1}):=by
 refine .of_wp fun prog w A R s h=>?_
 show Qa _ _ (Bytes.bytesLike _ (.bytes b t)>>=fun r=>_) _ _ s
 refine QB (wpAny_of_eq KBd.like_eq ?_)
 refine QB (wpAny_of_eq KBd.held_eq ?_)
 show Qa _ _ (_codecs.decodeRoad _ b QBk none []>>=fun v=>_) _ _ s
 rw [QMu,decoded hb hsz]
 refine QB (QB (QC ?_))
 refine wpAny_mkStr (QC ⟨_,rfl,h⟩) ?_
 have:=QAb
 show (b.map fun x=>x.toNat).size≤_
 rw [Array.size_map];exact zn2 [_,_] 1 (.v 0) (.v 1) 1 (.v 0) (.n 1000) 1 (.n 100000) (.v 1) rfl hsz this
theorem QKx{b:Array UInt8}{t u:Tok}{Q:QS→QR→Prop}(hb:∀x∈b.toList,x.toNat<128)(h0:0<b.size)(hsz:b.size≤1000)(h:∀t' k,Q (.str (asc b) t') {s with toks:=k}):
  Qa (model prog w) A (call (.builtin "bytes.decode") [.bytes b t,.str QBk u]) Q E s:=by
 refine QJ FB.slot_bytes_decode (typeIs_bytes _ _ _) FB.entry_bytes_decode ?_ (QJb _ _)
 obtain ⟨l⟩:=b
 cases l with
 |nil=>simp at h0
 |cons c cs=>
  rw [QJZ]
  refine QB (wpAny_mkStr ?_ (by decide))
  refine QB (wpAny_mkStr ?_ (by decide))
  refine QB (wpAny_mkStr ?_ (by decide))
  exact QB (call_function_meets KBd.kind_text KBd.plain_text KBd.entry_text (KBd.args_text _ _ _ _) (meets_text hb hsz) (QC ⟨_,rfl,h _ _⟩))
set_option tactic.hygienic true in
theorem QHn{b tb:Array UInt8}{t u:Tok}{Q:QS→QR→Prop}(ht:tb.size=256)(hsz:b.size≤1000)(h:∀t' k,Q (.bytes (b.map fun k=>tb.getD k.toNat 0) t') {s with toks:=k}):
  Qa (model prog w) A (call (.builtin "bytes.translate") [.bytes b t,.bytes tb u]) Q E s:=by
 refine QJ QDw (typeIs_bytes _ _ _) QF4 ?_ (QGu _ _)
 show Qa _ _ (Bytes.bytesLike _ (.bytes tb u)>>=_) _ _ s
 refine QB (wpAny_of_eq KBd.like_eq ?_)
 have hne:(tb.size !=256)=false:=by rw [ht];rfl
 simp only [hne,Bool.false_eq_true,if_false]
 refine QB (QC ?_)
 refine QB (QC ?_)
 have hout:(b.filter fun x=> !(#[]:Array UInt8).contains x)=b:=by simp
 have hget:(fun c:UInt8=>tb.getD c.toNat c)=fun c=>tb.getD c.toNat 0:=by
  funext c
  have:c.toNat<tb.size:=by rw [ht];exact c.toNat_lt
  simp [Array.getD,this]
 refine QB (wpAny_of_eq (a:=b) rfl ?_)
 rw [hout,hget]
 split
 ·rename_i he
  have he':=eq_of_beq he
  refine QB (QQ ?_)
  show Qa _ _ ((typeOf (.bytes b t)>>=fun r=>if (r== .type "bytes")=true then pure (.bytes b t) else _)>>=fun v=>ret v) _ _ s
  rw [QIc]
  refine QB (QB (QC ?_))
  rw [if_pos QGQ]
  refine QC (QC ⟨_,rfl,?_⟩)
  have:=h t s.toks
  rwa [he'] at this
 ·refine QB (wpAny_mkBytes (QC ⟨_,rfl,h _ _⟩) ?_)
  have:=QAb
  rw [Array.size_map];exact zn2 [_,_] 1 (.v 0) (.v 1) 1 (.v 0) (.n 1000) 1 (.n 100000) (.v 1) rfl hsz this
end
end
section
open PySem.Builtin._codecs
theorem QSV:QKm=("join":Str):=by decide+kernel
theorem QNJ:QHV=("encode":Str):=by decide+kernel
theorem QPY:QGt=("decode":Str):=by decide+kernel
theorem QKi:QD9=("translate":Str):=by decide+kernel
theorem QPf:QIt=("count":Str):=by decide+kernel
theorem QEa{o:Expr}(h:QFM o=true)(m:Str)(env:Env):attributeBase o m env (eval o env)=eval o env:=by
 cases o with
 |Call f as ks p=>cases f with
  |Name x q=>cases as with
   |nil=>exact absurd h QAS
   |cons=>rfl
  |_=>rfl
 |_=>rfl
theorem QKr{d:D}{r:List D}{l:List Str}(h:QD6 (d::r)=some l):∃x k,d= .str x∧QD6 r=some k∧l=x::k:=by
 cases d with
 |str x=>
  have h:(QD6 r).map (x:: ·)=some l:=h
  refine oEA (Option.map_eq_some_iff.mp h) fun k q e=>?_
  exact ⟨x,k,rfl,q,e.symm⟩
 |_=>exact QAV h
theorem strsOf{g:Fz}{xs:List D}:∀{vs:List QS} {ss:List Str},DenL g vs xs→QD6 xs=some ss→∃l:List (Str×Tok),vs=strValues l∧l.map (·.1)=ss:=by
 induction xs with
 |nil=>intro vs ss h e;cases e;rw [h.out];exact ⟨[],rfl,rfl⟩
 |cons d r ih=>
  intro vs ss h e
  refine QBO (QKr e) fun x k ζ2 q ζ4=>?_
  subst ζ2
  subst ζ4
  refine QBO h.out fun v us ζ2 h1 h2=>?_
  subst ζ2
  refine oE h1.out fun t ζ1=>?_
  subst ζ1
  refine oEA (ih h2 q) fun l e1 e2=>?_
  exact ⟨(x,t)::l,by rw [e1];rfl,by rw [←e2];rfl⟩
theorem QGT:∀(ss:List Str) (acc:Array Nat),ss.foldl (fun acc p=>acc++(#[]:Array Nat)++p.cps) acc=acc++(ss.flatMap fun x=>x.cps.toList).toArray
 |[],acc=>rfl
 |x::r,acc=>by
  rw [List.foldl_cons,QGT r]
  apply Array.ext'
  simp
theorem QLm{e:Str}(he:e.cps.size=0):∀(ss:List Str),Txt.join e ss=QCQ ss:=by
 obtain ⟨ec⟩:=e
 have:ec= #[]:=Array.eq_empty_of_size_eq_zero he
 subst this
 intro ss
 cases ss with
 |nil=>rfl
 |cons x r=>
  show (⟨r.foldl (fun acc p=>acc++(#[]:Array Nat)++p.cps) x.cps⟩:Str)=_
  rw [QGT]
  skip
  congr 1
  apply Array.ext'
  simp
theorem QFj:∀ss:List Str,(QCQ ss).length=(ss.map (·.length)).sum
 |[]=>rfl
 |x::r=>by
  have ih:=QFj r
  unfold QCQ Str.length at ih⊢
  simp only [List.size_toArray,List.flatMap_cons,Qu,Q0,List.sum_cons] at ih⊢
  rw [ih,Array.length_toList]
theorem QMW{e:Str}{ss:List Str}(he:e.cps.size=0)(h:(QCQ ss).length≤1000):JoinOk e ss=true:=by
 unfold JoinOk
 rw [StrLaws.joinTotal,←QFj]
 have:=QAb
 have h0:e.length=0:=he
 rw [h0]
 rw [Builtin.Str.tooLong,Nat.mul_zero,Nat.add_zero,Bool.not_eq_true',decide_eq_false_iff_not]
 omega
theorem QGs{i:Int}:∀{vs:List QS} {is:List Int},IntsAre vs is→vs.countP (fun y=>match y with| .int k _=>k==i|_=>false)=is.count i
 |_,_,.nil=>rfl
 |_,_,.cons n t h=>by
  rw [List.countP_cons,QGs h,List.count_cons]
section
variable {prog:QV}{w:QX}{G:Gd prog w}{N:Nat}
theorem QQY{A:QT}{E:QS→QR→Prop}{s:QR}{a:QW}{o:Obj}{vs:Array QS}{n:Nat}{is:List Int}{i:Int}{t:Tok}{Q:QS→QR→Prop}(ho:s.heap.get? a=some o)(hc:o.cls= .type "list")(hd:o.data= .seq vs n)
  (hv:IntsAre vs.toList is) (h:∀tk,Q (.int (is.count i:Nat) tk) {s with toks:=tk+1}):Qa (model prog w) A (call (.builtin "list.count") [.ref a,.int i t]) Q E s:=by
 obtain ⟨cls,dd,data,sl⟩:=o
 simp only at hc hd
 subst hc hd
 refine call_meets F.slot_list_count ⟨_,ho,rfl⟩ F.entry_list_count (F.args_list_count_2 _ _) (list_countAt a vs n dd sl (.int i t) (fun y=>match y with| .int k _=>k==i|_=>false)) ⟨ho,fun y hy=>?_,?_⟩
 ·have hm:∀{l:List QS} {is:List Int},IntsAre l is→∀y∈l,∃k u,y= .int k u:=by
   intro l is hl
   induction hl with
   |nil=>intro y hy;cases hy
   |cons n t _ ih=>
    intro y hy
    rcases Qx.mp hy with rfl|hy
    ·exact ⟨_,_,rfl⟩
    ·exact ih y hy
  apply wEE (hm hv y (Array.mem_toList_iff.mpr hy));intro k u
  exact EqAt.int_int _ _ _ _
 ·rw [QGs hv];exact h _
theorem QHQ{h:Heap}{b:Array UInt8}{t:Tok}:∀a,Value.bytes b t= .ref a→∃ob,h.get? a=some ob∧ob.dict=none:=fun a e=>by cases e
theorem QHW{h:Heap}{b:Str}{t:Tok}:∀a,Value.str b t= .ref a→∃ob,h.get? a=some ob∧ob.dict=none:=fun a e=>by cases e
inductive QIa:Str→D→List D→D→Prop
 |join {e:Str} {xs:List D} {ss:List Str} (he:e.cps.size=0) (hs:QD6 xs=some ss) (c:ss.length≤1000∧(QCQ ss).length≤1000):QIa QKm (.str e) [.list xs] (.str (QCQ ss))
 |encode {x:Str} (c:x.cps.size≤1000∧(x.cps.toList.all fun k=>decide (k<128))=true):QIa QHV (.str x) [.str QBk] (.bytes (x.cps.map fun k=>UInt8.ofNat k))
 |decode {b:Array UInt8} (c:0<b.size∧b.size≤1000∧(b.toList.all fun k=>decide (k<128))=true):QIa QGt (.bytes b) [.str QBk] (.str (asc b))
 |translate {b t:Array UInt8} (c:t.size=256∧b.size≤1000):QIa QD9 (.bytes b) [.bytes t] (.bytes (b.map fun k=>t.getD k.toNat 0))
 |count {xs:List D} {i:Int} {l:List Int} (h:QB3 xs=some l):QIa QIt (.list xs) [.int i] (.int (l.count i))
theorem QP6{m:Str}{o:D}{ds:List D}{d:D}(h:QDG m o ds=some d):QIa m o ds d:=by
 refine QF1 h (fun e h=>un h fun x e1 h=>un h fun y e2 h=>un h fun z e3 h=>QF1 h (fun c0 h=>un h fun ss e4 h=>oA (QAn h) fun c e5=>?_) QAV) fun h=>QF1 h (fun e h=>un h fun x e1 h=>un h fun y e2 h=>un h fun z e3 h=>oA (QAn h) fun c e5=>?_)
  fun h=>QF1 h (fun e h=>un h fun x e1 h=>un h fun y e2 h=>un h fun z e3 h=>oA (QAn h) fun c e5=>?_) fun h=>QF1 h (fun e h=>un h fun x e1 h=>un h fun y e2 h=>un h fun z e3 h=>oA (QAn h) fun c e5=>?_)
  fun h=>QF1 h (fun e h=>un h fun x e1 h=>un h fun y e2 h=>un h fun z e3 h=>oEA (Option.map_eq_some_iff.mp h) fun l q e5=>?_) QAV
 ·rw [eq_of_beq e,QIn e1,QBT e2,QEk e3,←e5];exact .join c0 e4 c
 ·rw [eq_of_beq e,QIn e1,QBT e2,QIn e3,←e5,eq_of_beq c.1];exact .encode c.2
 ·rw [eq_of_beq e,QLD e1,QBT e2,QIn e3,←e5,eq_of_beq c.1];exact .decode c.2
 ·rw [eq_of_beq e,QLD e1,QBT e2,QLD e3,←e5];exact .translate c
 ·rw [eq_of_beq e,QEk e1,QBT e2,QFi e3,←e5];exact .count q
theorem QHK{A:QT}{env:Env}{ρ:PE}{E:QS→QR→Prop}{m:Str}{pos:Pos}{args:List Expr}{g:Fz}{s:QR}{ov:QS}{d:D}{ds:List D}{Q:QS→QR→Prop}(hs:QAh args=true)
  (hds:L2 (fun e d=>QAW G N e ρ d) args ds) (dv:Den g ov d) (R:Rm A N) (V:Vw G A env ρ g s.heap) (T id:String) (pa:PlainAttrs T) (sl:Slot T m id) (ty:typeOf (.builtin id)=pure (.type "method_descriptor")) (hT:s.TypeIs ov T)
  (hr:∀a,ov= .ref a→∃ob,s.heap.get? a=some ob∧ob.dict=none)
  (hc:∀g1 s1 vs,Ext g s g1 s1→DenL g1 vs ds→Qa (model prog w) A (call (.builtin id) (ov::vs)) Q E s1):MethodOnS prog w A E m ov pos (backTo pos (starEach args env)) Q s:=
 ⟨T,id,pa,sl,ty,hT,hr,QAf (first:=[ov]) (fun a e=>by cases e) hs (QBf hds hs R V hc)⟩
theorem QSA{A:QT}{env:Env}{ρ:PE}{E:QS→QR→Prop}{m:Str}{pos:Pos}{args:List Expr}{g:Fz}{s:QR}{ov:QS}{d r:D}{ds:List D}{Q:QS→QR→Prop}(hs:QAh args=true)
  (hds:L2 (fun e d=>QAW G N e ρ d) args ds) (h:QDG m d ds=some r) (dv:Den g ov d) (R:Rm A N) (V:Vw G A env ρ g s.heap)
  (k:∀g' s' v,Ext g s g' s'→Den g' v r→Q v s'):MethodOnS prog w A E m ov pos (backTo pos (starEach args env)) Q s:=by
 have hR:=QP6 h
 clear h
 induction hR with
 | @join e xs ss he hss hb=>
  refine oE dv.out fun t ζ1=>?_
  subst ζ1
  refine QHK hs hds dv R V "str" "str.join" F.plainAttrs_str (QSV▸F.slot_str_join) F.type_str_join (typeIs_str _ _ _) QHW fun g1 s1 vs x1 dvs=>?_
  apply wEA (DenL.one dvs);intro v d1
  apply QDI d1.lst;intro a us hl _ hL
  refine oEA (strsOf hl hss) fun l l1 l2=>?_
  refine QFw (hL _ x1.inn) fun o ho hc n hd=>?_
  refine SC.join (l:=l) ⟨_,ho,hc,_,by rw [hd,←l1]⟩ l2 (QMW he hb.2) fun t' tk=>?_
  rw [QLm he]
  exact k _ _ _ (x1.trans (.tok x1.inn)) (.str _ _)
 | @encode x hb=>
  refine oE dv.out fun t ζ1=>?_
  subst ζ1
  refine QHK hs hds dv R V "str" "str.encode" F.plainAttrs_str (QNJ▸F.slot_str_encode) F.type_str_encode (typeIs_str _ _ _) QHW fun g1 s1 vs x1 dvs=>?_
  apply wEA (DenL.one dvs);intro v d1
  apply wE d1.out;intro u
  exact QLA (fun k hk=>of_decide_eq_true (List.all_eq_true.mp hb.2 k hk)) hb.1 fun t' tk=>k _ _ _ (x1.trans (.tok x1.inn)) (.bytes _ _)
 | @decode b hb=>
  refine oE dv.out fun t ζ1=>?_
  subst ζ1
  refine QHK hs hds dv R V "bytes" "bytes.decode" FB.plainAttrs_bytes (QPY▸FB.slot_bytes_decode) FB.type_bytes_decode (typeIs_bytes _ _ _) QHQ fun g1 s1 vs x1 dvs=>?_
  apply wEA (DenL.one dvs);intro v d1
  apply wE d1.out;intro u
  exact QKx (fun k hk=>UInt8.lt_iff_toNat_lt.mp (of_decide_eq_true (List.all_eq_true.mp hb.2.2 k hk))) hb.1 hb.2.1 fun t' tk=>k _ _ _ (x1.trans (.tok x1.inn)) (.str _ _)
 |translate hb=>
  refine oE dv.out fun t ζ1=>?_
  subst ζ1
  refine QHK hs hds dv R V "bytes" "bytes.translate" FB.plainAttrs_bytes (QKi▸QDw) QGz (typeIs_bytes _ _ _) QHQ fun g1 s1 vs x1 dvs=>?_
  apply wEA (DenL.one dvs);intro v d1
  apply wE d1.out;intro u
  exact QHn hb.1 hb.2 fun t' tk=>k _ _ _ (x1.trans (.tok x1.inn)) (.bytes _ _)
 |count q=>
  refine QA7 dv.out fun a o us n ζ4 ho hc hd hl=>?_
  subst ζ4
  refine QHK hs hds dv R V "list" "list.count" F.plainAttrs_list (QPf▸F.slot_list_count) F.type_list_count ⟨_,V.inn.sq ho hd,hc.1⟩ (fun a e=>by cases e;exact ⟨_,V.inn.sq ho hd,hc.2.1⟩) fun g1 s1 vs x1 dvs=>?_
  apply wEA (DenL.one dvs);intro v d1
  apply wE d1.out;intro u
  rw [QDb q] at hl
  exact QQY (x1.inn.sq (x1.le _ _ ho) hd) hc.1 hd (intsAre_of hl) fun tk=>k _ _ _ (x1.trans (.tok x1.inn)) (.int _ _)
theorem QLb{o:Expr}{m:Str}{ap pos:Pos}{args:List Expr}{ρ:PE}{d r:D}{ds:List D}(hs:QAh args=true)(hl:args.length≤5)(hline:(ap.endLine==pos.line)=true)(hb:QFM o=true)
  (ho:QAW G N o ρ d) (hds:L2 (fun e d=>QAW G N e ρ d) args ds) (h:QDG m d ds=some r):QAW G N (.Call (.Attribute o m ap) args [] pos) ρ r:=by
 intro A env g s Q E R V k
 refine wpAny_Call_method_lateS (QEa hb m env) ?_ hline (ho A env g s _ E R V fun g1 s1 v1 x1 d1=>?_)
 ·simp only [List.length_nil,List.isEmpty_nil,if_true,Nat.add_zero,QAT,decide_eq_true_eq]
  refine ⟨⟨?_,rfl⟩,by exact zn1 [_] 1 (.a (.v 0) (.n 1)) (.n 30) 1 (.v 0) (.n 5) rfl hl⟩
  clear hl hds h
  induction args with
  |nil=>rfl
  |cons e r ih=>
   rw [(QAt hs).2]
   exact ih (QAt hs).1
 ·exact QSA hs hds h d1 R (V.up x1) fun g2 s2 v2 x2 d2=>k _ _ _ (x1.trans x2) d2
end
end
structure PS where
 ρ:PE
 os:List (Str×List D)
noncomputable def put(x:Str)(d:D)(vs:List (Str×D)):List (Str×D):=(x,d)::vs.filter fun p=>p.1 !=x
noncomputable def PS.put(σ:PS)(x:Str)(d:D):PS:={ρ:={sc:=σ.ρ.sc,vs:=KQ.put x d σ.ρ.vs},os:=σ.os.filter fun p=>p.1 !=x}
noncomputable def PS.puts(σ:PS):List (Str×D)→PS
 |[]=>σ
 |(x,d)::r=>(σ.put x d).puts r
noncomputable def PS.newOwn(σ:PS)(x:Str):PS:={ρ:={sc:=σ.ρ.sc,vs:=σ.ρ.vs.filter fun p=>p.1 !=x},os:=(x,[])::σ.os.filter fun p=>p.1 !=x}
noncomputable def PS.setOwn(σ:PS)(x:Str)(ds:List D):PS:={ρ:={sc:=σ.ρ.sc,vs:=σ.ρ.vs.filter fun p=>p.1 !=x},os:=(x,ds)::σ.os.filter fun p=>p.1 !=x}
noncomputable def PS.freezeOne(σ:PS)(x:Str):PS:=match σ.os.lookup x with
 |some ds=>σ.put x (.list ds)
 |none=>σ
noncomputable def PS.freezeAll(σ:PS):List Str→PS
 |[]=>σ
 |x::r=>(σ.freezeOne x).freezeAll r
noncomputable def PS.freeze(σ:PS):PS:=σ.freezeAll (σ.os.map (·.1))
inductive Out where
 |next (σ:PS)
 |brk (σ:PS)
 |cont (σ:PS)
 |ret (d:D)
noncomputable def QFT:Expr→Bool
 | .ListComp .. =>true
 |_=>false
noncomputable def storable(σ:PS)(x:Str):Bool:=σ.ρ.kind x==some .local||σ.ρ.kind x==some .cell
noncomputable def QKF(σ:PS)(xs:List Str):Bool:=xs.all fun x=>σ.ρ.kind x==some .local
noncomputable def QFe:Expr→Bool
 | .SetComp .. =>true
 | .DictComp .. =>true
 |_=>false
theorem QAr{α:Type}:∀{vs:List (Str×α)} {x y:Str},(vs.filter fun p=>p.1 !=x).lookup y=if y=x then none else vs.lookup y
 |[],x,y=>by simp
 |(k,v)::r,x,y=>by
  rw [List.filter_cons]
  by_cases hk:k=x
  ·subst hk
   have:((k,v).1 !=k)=false:=by simp
   rw [this]
   rw [if_neg QAS]
   rw [QAr]
   by_cases hy:y=k
   ·rw [if_pos hy,if_pos hy]
   ·rw [if_neg hy,if_neg hy,Qt]
    have:(y==k)=false:=by simpa using hy
    rw [this]
  ·have:((k,v).1 !=x)=true:=by simpa using hk
   rw [if_pos this,Qt,Qt,QAr]
   cases hy:y==k with
   |true=>rw [eq_of_beq hy];simp [hk]
   |false=>rfl
theorem QLa{vs:List (Str×D)}{x y:Str}{d:D}:(put x d vs).lookup y=if y=x then some d else vs.lookup y:=by
 unfold put
 rw [Qt]
 cases hy:y==x with
 |true=>rw [if_pos (eq_of_beq hy)]
 |false=>
  have:y≠x:=by simpa using hy
  rw [if_neg this]
  show List.lookup y _=_
  rw [QAr,if_neg this]
theorem QCr.step{A:QT}{h h':Heap}(x:QCr A h)(k:∀b o es ep,h.get? b=some o→o.data= .dict es ep→∃o' es' ep',h'.get? b=some o'∧o'.data= .dict es' ep'):QCr A h':=by
 revert x
 refine rEA fun fr e H=>?_
 refine ⟨fr,e,fun v hv=>?_⟩
 refine oA (H v hv) fun h1=>QEZ fun L o es ep=>QEg fun h2 hz h3 h4=>?_
 refine QLr (k L o es ep h3 h4) fun o' es' ep' h5 h6=>?_
 exact ⟨h1,L,o',es',ep',h2,hz,h5,h6⟩
theorem QCr.keepNs{A:QT}{h h':Heap}{L:QW}{m:Str→Option QS}(x:QCr A h)(keep:∀b o,b≠L→h.get? b=some o→h'.get? b=some o)(hn:h'.Ns L m):QCr A h':=
 x.step fun b o es ep e d=>by
  by_cases q:b=L
  ·subst q
   revert hn
   refine QCB fun o' es' ep' e' d' _=>?_
   exact ⟨o',es',ep',e',d'⟩
  ·exact ⟨o,es,ep,keep b o q e,d⟩
theorem QCr.keepOff{A:QT}{h h':Heap}{c:QW}{oc:Obj}(x:QCr A h)(keep:∀b o,b≠c→h.get? b=some o→h'.get? b=some o)(hc:h.get? c=some oc)(nd:∀es ep,oc.data≠ .dict es ep):QCr A h':=
 x.step fun b o es ep e d=>by
  by_cases q:b=c
  ·subst q;rw [hc] at e;cases e;exact absurd d (nd es ep)
  ·exact ⟨o,es,ep,keep b o q e,d⟩
theorem QCZ{h:Heap}{a:QW}{m m':Str→Option QS}(x:h.Ns a m)(y:h.Ns a m')(n:Str):m n=m' n:=by
 revert x
 refine QCB fun o es ep ho hd=>rA fun _ hf=>?_
 revert y
 refine QCB fun o' es' ep' ho' hd'=>rA fun _ hf'=>?_
 rw [ho] at ho';cases ho'
 rw [hd] at hd';cases hd'
 rw [←hf n,←hf' n]
theorem QCX{h:Heap}{a c:QW}{m:Str→Option QS}{v:Option QS}(x:h.Ns a m)(y:h.IsCell c v):a≠c:=by
 rintro rfl
 revert x
 refine QCB fun o es ep ho hd _=>?_
 revert y
 refine rEA fun o' ho' hd'=>?_
 rw [ho] at ho';cases ho'
 rw [hd] at hd';cases hd'
theorem QCa{h:Heap}{a c:QW}{m:Str→Option QS}{vs:Array QS}(x:h.Ns a m)(y:h.PlainList c vs):a≠c:=by
 rintro rfl
 revert x
 refine QCB fun o es ep ho hd _=>?_
 revert y
 refine rE fun n ho'=>?_
 rw [ho] at ho';cases ho'
 cases hd
theorem QEL{h:Heap}{a c:QW}{v:Option QS}{vs:Array QS}(x:h.IsCell a v)(y:h.PlainList c vs):a≠c:=by
 rintro rfl
 revert x
 refine rEA fun o ho hd=>?_
 revert y
 refine rE fun n ho'=>?_
 rw [ho] at ho';cases ho'
 cases hd
section
variable {prog:QV}{w:QX}{G:Gd prog w}{N:Nat}
noncomputable def Own(σ:PS)(oa:Str→QW)(b:QW):Prop:=∃x ds,σ.os.lookup x=some ds∧b=oa x
noncomputable def Loose(env:Env)(σ:PS)(oa:Str→QW)(b:QW):Prop:=b=env.locals∨(∃x,env.cells.lookup x=some b)∨Own σ oa b
structure Sv (G:Gd prog w)(A:QT)(g₀:Fz)(s₀:QR)(env:Env)(σ:PS)(oa:Str→QW)(g:Fz)(s:QR):Prop where
 ext:Ext g₀ s₀ g s
 vw:Vw G A env σ.ρ g s.heap
 locg:g env.locals=none
 loc0:s₀.heap.get? env.locals=none
 ns:∃m,s.heap.Ns env.locals m
 cell:∀x c,env.cells.lookup x=some c→g c=none∧s₀.heap.get? c=none∧∃v,s.heap.IsCell c v
 apart:env.cells.Pairwise fun x y=>x.2≠y.2
 own:∀x ds,σ.os.lookup x=some ds→σ.ρ.kind x=some .local∧g (oa x)=none∧s₀.heap.get? (oa x)=none∧(∃m,s.heap.Ns env.locals m∧m x=some (.ref (oa x)))∧∃vs,s.heap.PlainList (oa x) vs∧DenL g vs.toList ds
 ownA:∀x y dx dy,σ.os.lookup x=some dx→σ.os.lookup y=some dy→oa x=oa y→x=y
structure Mv (env:Env)(σ:PS)(oa:Str→QW)(σ':PS)(oa':Str→QW)(g:Fz)(s:QR)(g':Fz)(s':QR):Prop where
 keep:∀b o,s.heap.get? b=some o→¬Loose env σ oa b→∃o',s'.heap.get? b=some o'∧QDA b o o'
 le:FLe g g'
 new:∀a o,g' a=some o→g a=some o∨s.heap.get? a=none∨Own σ oa a
 own:∀b,Own σ' oa' b→s.heap.get? b=none∨Own σ oa b
 live:∀b o,s.heap.get? b=some o→∃o',s'.heap.get? b=some o'
theorem Mv.refl{env:Env}{σ:PS}{oa:Str→QW}{g:Fz}{s:QR}:Mv env σ oa σ oa g s g s:=⟨fun _ o e _=>⟨o,e,.rfl'⟩,.refl _,fun _ _ e=> .inl e,fun _ e=> .inr e,fun _ o e=>⟨o,e⟩⟩
theorem Mv.trans{env:Env}{σ σ' σ'':PS}{oa oa' oa'':Str→QW}{g g' g'':Fz}{s s' s'':QR}(x:Mv env σ oa σ' oa' g s g' s')(y:Mv env σ' oa' σ'' oa'' g' s' g'' s''):Mv env σ oa σ'' oa'' g s g'' s'' where
 keep:=fun b o e hl=>by
  refine oEA (x.keep b o e hl) fun o' e' sm=>?_
  refine oEA (y.keep b o' e' fun h=>by
   rcases h with h|h|h
   ·exact hl (.inl h)
   ·exact hl (.inr (.inl h))
   ·rcases x.own b h with q|q
    ·rw [e] at q;cases q
    ·exact hl (.inr (.inr q))) fun o'' e'' sm'=>?_
  exact ⟨o'',e'',sm.trans sm'⟩
 le:=x.le.trans y.le
 new:=fun a o e=>by
  rcases y.new a o e with q|q|q
  ·exact x.new a o q
  ·cases h:s.heap.get? a with
   |none=>exact .inr (.inl rfl)
   |some o'=>refine oE (x.live a o' h) fun o'' h'=>?_;rw [q] at h';cases h'
  ·exact .inr (x.own a q)
 own:=fun b h=>by
  rcases y.own b h with q|q
  ·cases h:s.heap.get? b with
   |none=>exact .inl rfl
   |some o'=>refine oE (x.live b o' h) fun o'' h'=>?_;rw [q] at h';cases h'
  ·exact x.own b q
 live:=fun b o e=>by refine oE (x.live b o e) fun o' e'=>?_;exact y.live b o' e'
theorem Mv.ofExt{env:Env}{σ:PS}{oa:Str→QW}{g g':Fz}{s s':QR}(x:Ext g s g' s'):Mv env σ oa σ oa g s g' s':=
 ⟨fun b o e _=>x.heap b o e,x.le,fun a o e=>(x.new a o e).imp_right .inl,fun _ e=> .inr e,fun b o e=>by refine oEA (x.heap b o e) fun o' e' _=>?_;exact ⟨o',e'⟩⟩
theorem Ext.off{g g':Fz}{s s':QR}(x:Ext g s g' s'){a:QW}{o:Obj}(h1:g a=none)(h2:s.heap.get? a=some o):g' a=none:=by
 cases q:g' a with
 |none=>rfl
 |some o'=>
  rcases x.new _ _ q with e|e
  ·rw [h1] at e;cases e
  ·rw [h2] at e;cases e
theorem Sv.up{g₀:Fz}{s₀:QR}{env:Env}{σ:PS}{oa:Str→QW}{g g':Fz}{s s':QR}(S:Sv G A g₀ s₀ env σ oa g s)(x:Ext g s g' s'):Sv G A g₀ s₀ env σ oa g' s' where
 ext:=S.ext.trans x
 vw:=S.vw.up x
 locg:=by refine QFz S.ns fun m o _ _=>rA fun ho _=>?_;exact x.off S.locg ho
 loc0:=S.loc0
 ns:=by refine oE S.ns fun m hm=>?_;exact ⟨m,x.heap.ns hm⟩
 cell:=fun y c hc=>by
  refine QEV (S.cell y c hc) fun h1 h2 v h3=>?_
  refine ⟨?_,h2,v,x.heap.cell h3⟩
  revert h3
  refine rEA fun o ho _=>?_
  exact x.off h1 ho
 apart:=S.apart
 own:=fun y ds hy=>by
  refine QBC (S.own y ds hy) fun h1 h2 h3 ζ3 vs h6 h7=>?_
  obtain ⟨m,h4,h5⟩:=ζ3
  refine ⟨h1,?_,h3,⟨m,x.heap.ns h4,h5⟩,vs,x.heap.plain h6,h7.mono x.le⟩
  revert h6
  refine rE fun n ho=>?_
  exact x.off h2 ho
 ownA:=S.ownA
theorem QBa{σ:PS}{x y:Str}{d:D}{ds:List D}(h:(σ.put x d).os.lookup y=some ds):y≠x∧σ.os.lookup y=some ds:=by
 have h':(σ.os.filter fun p=>p.1 !=x).lookup y=some ds:=h
 rw [QAr] at h'
 by_cases q:y=x
 ·rw [if_pos q] at h';cases h'
 ·rw [if_neg q] at h';exact ⟨q,h'⟩
theorem QCi{σ:PS}{x y:Str}{d:D}:(σ.put x d).ρ.get y=if y=x then some d else σ.ρ.get y:=QLa
theorem Sv.storeL{A:QT}{E:QS→QR→Prop}{g₀:Fz}{s₀:QR}{env:Env}{σ:PS}{oa:Str→QW}{g:Fz}{s:QR}(S:Sv G A g₀ s₀ env σ oa g s){x:Str}{v:QS}{d:D}{Q:Unit→QR→Prop}
  (hk:σ.ρ.kind x=some .local) (hv:Den g v d) (k:∀h' tk,Sv G A g₀ s₀ env (σ.put x d) oa g {s with heap:=h',toks:=tk}→Mv env σ oa (σ.put x d) oa g s g {s with heap:=h',toks:=tk}→Q () {s with heap:=h',toks:=tk}):
  Qa (model prog w) A (storeName env x v) Q E s:=by
 refine oE S.ns fun m hm=>?_
 refine QD7 S.vw.kind (by rw [S.vw.kindOf];exact hk) hm fun h' tk hn' hs'=>?_
 have keep:∀b o,b≠env.locals→s.heap.get? b=some o→h'.get? b=some o:=fun b o hb e=>hs'.extBut b o hb e
 have live:∀b o,s.heap.get? b=some o→∃o',h'.get? b=some o':=fun b o e=>by
  by_cases q:b=env.locals
  ·subst q;(revert hn';refine QCg fun o' _ _ ho' _=>?_);exact ⟨o',ho'⟩
  ·exact ⟨o,keep b o q e⟩
 refine k h' tk ?_ ⟨fun b o e hl=>⟨o,keep b o (fun q=>hl (.inl q)) e,.rfl'⟩,.refl _,fun _ _ e=> .inl e,fun b ⟨y,ds,hy,e⟩=> .inr ⟨y,ds,(QBa hy).2,e⟩,live⟩
 refine {ext:=?_,vw:=?_,locg:=S.locg,loc0:=S.loc0,ns:=⟨_,hn'⟩,cell:=?_,apart:=S.apart,own:=?_,ownA:=?_}
 ·refine oEE S.ext.same fun h1 t1 e1=>?_
  exact ⟨S.ext.heap.to fun b o o' e e'=>keep b o' (fun q=>by rw [q,S.loc0] at e;cases e) e',S.ext.le,S.ext.inn.to fun b o o' e e'=>keep b o' (fun q=>by rw [q,S.locg] at e;cases e) e',S.ext.new,⟨h',tk,by rw [e1]⟩⟩
 ·refine {kind:=S.vw.kind,sc:=S.vw.sc,glo:=S.vw.glo,bui:=S.vw.bui,vars:=?_,cel:=S.vw.cel,inn:=S.vw.inn.to fun b o o' e e'=>keep b o' (fun q=>by rw [q,S.locg] at e;cases e) e',base:=S.vw.base,fr:=?_}
  rotate_left
  ·exact S.vw.fr.keepNs keep hn'
  intro y dy hy
  rw [QCi] at hy
  by_cases q:y=x
  ·rw [if_pos q] at hy;cases hy
   exact ⟨v,hv,.inl ⟨by rw [q];exact hk,_,hn',by simp [q]⟩⟩
  ·rw [if_neg q] at hy
   refine oEA (S.vw.vars y dy hy) fun u hu hc=>?_
   refine ⟨u,hu,?_⟩
   refine Or.elim hc (QCx fun h1 m₁ h2 h3=>?_) (QCx fun h1 c h2 h3=>?_)
   ·exact .inl ⟨h1,_,hn',by simp only [if_neg q];rw [QCZ hm h2];exact h3⟩
   ·exact .inr ⟨h1,c,h2,h3.sameBut hs' (Ne.symm (QCX hm h3))⟩
 ·intro y c hc
  refine QEV (S.cell y c hc) fun h1 h2 u h3=>?_
  exact ⟨h1,h2,u,h3.sameBut hs' (Ne.symm (QCX hm h3))⟩
 ·intro y ds hy
  refine oA (QBa hy) fun hne hy=>?_
  refine QBC (S.own y ds hy) fun h1 h2 h3 ζ3 vs h6 h7=>?_
  obtain ⟨m₁,h4,h5⟩:=ζ3
  refine ⟨h1,h2,h3,⟨_,hn',by simp only [if_neg hne];rw [QCZ hm h4];exact h5⟩,vs,h6.extBut hs'.extBut (Ne.symm (QCa hm h6)),h7⟩
 ·intro y z dy dz hy hz e
  exact S.ownA y z dy dz (QBa hy).2 (QBa hz).2 e
end
section
variable {prog:QV}{w:QX}{G:Gd prog w}{N:Nat}
variable {A:QT}{E:QS→QR→Prop}{g₀:Fz}{s₀:QR}{env:Env}{σ:PS}{oa:Str→QW}{g:Fz}{s:QR}
theorem Sv.storeC(S:Sv G A g₀ s₀ env σ oa g s){x:Str}{v:QS}{d:D}{Q:Unit→QR→Prop}
  (hk:σ.ρ.kind x=some .cell) (hv:Den g v d) (k:∀h' tk,Sv G A g₀ s₀ env (σ.put x d) oa g {s with heap:=h',toks:=tk}→Mv env σ oa (σ.put x d) oa g s g {s with heap:=h',toks:=tk}→Q () {s with heap:=h',toks:=tk}):
  Qa (model prog w) A (storeName env x v) Q E s:=by
 refine oE S.ns fun m hm=>?_
 refine oE (S.vw.cel x (.inl hk)) fun c hc=>?_
 refine QEV (S.cell x c hc) fun gc c0 u hu=>?_
 refine wpAny_storeName_cell S.vw.kind (by rw [S.vw.kindOf];exact hk) hc hu fun h' hc' hs'=>?_
 have keep:∀b o,b≠c→s.heap.get? b=some o→h'.get? b=some o:=fun b o hb e=>hs'.extBut b o hb e
 have live:∀b o,s.heap.get? b=some o→∃o',h'.get? b=some o':=fun b o e=>by
  by_cases q:b=c
  ·subst q;(revert hc';refine rEA fun o' ho' _=>?_);exact ⟨o',ho'⟩
  ·exact ⟨o,keep b o q e⟩
 have hLc:=QCX hm hu
 have hn':h'.Ns env.locals m:=hm.sameBut hs' hLc
 have other:∀y cy,env.cells.lookup y=some cy→y≠x→cy≠c:=fun y cy hy hne e=>by
  subst e
  exact hne (name_of_addr S.apart (mem_of_lookup hy) (mem_of_lookup hc))
 refine k h' s.toks ?_ ⟨fun b o e hl=>⟨o,keep b o (fun q=>hl (.inr (.inl ⟨x,q▸hc⟩))) e,.rfl'⟩,.refl _,fun _ _ e=> .inl e,fun b ⟨y,ds,hy,e⟩=> .inr ⟨y,ds,(QBa hy).2,e⟩,live⟩
 refine {ext:=?_,vw:=?_,locg:=S.locg,loc0:=S.loc0,ns:=⟨_,hn'⟩,cell:=?_,apart:=S.apart,own:=?_,ownA:=?_}
 ·refine oEE S.ext.same fun h1 t1 e1=>?_
  exact ⟨S.ext.heap.to fun b o o' e e'=>keep b o' (fun q=>by rw [q,c0] at e;cases e) e',S.ext.le,S.ext.inn.to fun b o o' e e'=>keep b o' (fun q=>by rw [q,gc] at e;cases e) e',S.ext.new,⟨h',s.toks,by rw [e1]⟩⟩
 ·refine {kind:=S.vw.kind,sc:=S.vw.sc,glo:=S.vw.glo,bui:=S.vw.bui,vars:=?_,cel:=S.vw.cel,inn:=S.vw.inn.to fun b o o' e e'=>keep b o' (fun q=>by rw [q,gc] at e;cases e) e',base:=S.vw.base,fr:=?_}
  rotate_left
  ·revert hu
   refine rEA fun oc hoc hdc=>?_
   exact S.vw.fr.keepOff keep hoc fun _ _ q=>by rw [hdc] at q;cases q
  intro y dy hy
  rw [QCi] at hy
  by_cases q:y=x
  ·rw [if_pos q] at hy;cases hy
   exact ⟨v,hv,.inr ⟨.inl (by rw [q];exact hk),c,by rw [q];exact hc,hc'⟩⟩
  ·rw [if_neg q] at hy
   refine oEA (S.vw.vars y dy hy) fun u' hu' hcc=>?_
   refine ⟨u',hu',?_⟩
   refine Or.elim hcc (QCx fun h1 m₁ h2 h3=>?_) (QCx fun h1 c' h2 h3=>?_)
   ·exact .inl ⟨h1,m₁,h2.sameBut hs' (by rw [show env.locals=env.locals from rfl];exact hLc),h3⟩
   ·exact .inr ⟨h1,c',h2,h3.sameBut hs' (other y c' h2 q)⟩
 ·intro y cy hy
  by_cases q:y=x
  ·subst q;rw [hc] at hy;cases hy;exact ⟨gc,c0,_,hc'⟩
  ·refine QEV (S.cell y cy hy) fun h1 h2 u' h3=>?_
   exact ⟨h1,h2,u',h3.sameBut hs' (other y cy hy q)⟩
 ·intro y ds hy
  refine oA (QBa hy) fun hne hy=>?_
  refine QBC (S.own y ds hy) fun h1 h2 h3 ζ3 vs h6 h7=>?_
  obtain ⟨m₁,h4,h5⟩:=ζ3
  exact ⟨h1,h2,h3,⟨m₁,h4.sameBut hs' hLc,h5⟩,vs,h6.extBut hs'.extBut (Ne.symm (QEL hu h6)),h7⟩
 ·intro y z dy dz hy hz e
  exact S.ownA y z dy dz (QBa hy).2 (QBa hz).2 e
theorem Sv.store(S:Sv G A g₀ s₀ env σ oa g s){x:Str}{v:QS}{d:D}{Q:Unit→QR→Prop}(hk:storable σ x=true)(hv:Den g v d)
  (k:∀h' tk,Sv G A g₀ s₀ env (σ.put x d) oa g {s with heap:=h',toks:=tk}→Mv env σ oa (σ.put x d) oa g s g {s with heap:=h',toks:=tk}→Q () {s with heap:=h',toks:=tk}):
  Qa (model prog w) A (storeName env x v) Q E s:=by
 unfold storable at hk
 simp only [Bool.or_eq_true,beq_iff_eq] at hk
 rcases hk with hk|hk
 ·exact S.storeL hk hv k
 ·exact S.storeC hk hv k
theorem QEO{x y:Str}{ds:List D}(h:(σ.newOwn x).os.lookup y=some ds):(y=x∧ds=[])∨(y≠x∧σ.os.lookup y=some ds):=by
 have h':List.lookup y ((x,[])::σ.os.filter fun p=>p.1 !=x)=some ds:=h
 rw [Qt] at h'
 cases q:y==x with
 |true=>rw [q] at h';cases h';exact .inl ⟨eq_of_beq q,rfl⟩
 |false=>
  rw [q] at h'
  have hne:y≠x:=by simpa using q
  rw [QAr,if_neg hne] at h'
  exact .inr ⟨hne,h'⟩
theorem QEq{x y:Str}{d:D}(h:List.lookup y (σ.ρ.vs.filter fun p=>p.1 !=x)=some d):y≠x∧σ.ρ.get y=some d:=by
 rw [QAr] at h
 by_cases q:y=x
 ·rw [if_pos q] at h;cases h
 ·rw [if_neg q] at h;exact ⟨q,h⟩
theorem Sv.newOwn(S:Sv G A g₀ s₀ env σ oa g s){x:Str}{Q:Unit→QR→Prop}(hk:σ.ρ.kind x=some .local)
  (k:∀h' tk oa',Sv G A g₀ s₀ env (σ.newOwn x) oa' g {s with heap:=h',toks:=tk}→Mv env σ oa (σ.newOwn x) oa' g s g {s with heap:=h',toks:=tk}→Q () {s with heap:=h',toks:=tk}):
  Qa (model prog w) A (storeName env x (.ref s.heap.objs.size)) Q E {s with heap:=s.heap.push {cls:= .type "list",data:= .seq ([]:List QS).toArray}}:=by
 refine oE S.ns fun m hm=>?_
 generalize hO:({cls:= .type "list",data:= .seq ([]:List QS).toArray}:Obj)=O
 have hm1:(s.heap.push O).Ns env.locals m:=hm.push O
 refine QD7 (s:={s with heap:=s.heap.push O}) S.vw.kind (by rw [S.vw.kindOf];exact hk) hm1 fun h' tk hn' hs'=>?_
 have keep:∀b o,b≠env.locals→s.heap.get? b=some o→h'.get? b=some o:=fun b o hb e=>hs'.extBut b o hb (Heap.get?_push_of_some _ e)
 have hfr:=QAp s.heap
 have hLl:env.locals≠s.heap.objs.size:=Qi hm.lt
 have live:∀b o,s.heap.get? b=some o→∃o',h'.get? b=some o':=fun b o e=>by
  by_cases q:b=env.locals
  ·subst q;(revert hn';refine QCg fun o' _ _ ho' _=>?_);exact ⟨o',ho'⟩
  ·exact ⟨o,keep b o q e⟩
 have hl:h'.PlainList s.heap.objs.size #[]:=⟨0,hs'.extBut _ _ (Ne.symm hLl) (by rw [←hO];exact Heap.get?_push_size _ rfl)⟩
 have oldOwn:∀y ds,σ.os.lookup y=some ds→oa y≠s.heap.objs.size:=fun y ds hy e=>by
  refine QBC (S.own y ds hy) fun _ _ _ _ vs ζ5 _=>?_
  obtain ⟨n,ho⟩:=ζ5
  rw [e,hfr] at ho;cases ho
 refine k h' tk (fun y=>if y=x then s.heap.objs.size else oa y) ?_ ⟨fun b o e hl=>⟨o,keep b o (fun q=>hl (.inl q)) e,.rfl'⟩,.refl _,fun _ _ e=> .inl e,?_,live⟩
 refine {ext:=?_,vw:=?_,locg:=S.locg,loc0:=S.loc0,ns:=⟨_,hn'⟩,cell:=?_,apart:=S.apart,own:=?_,ownA:=?_}
 ·refine oEE S.ext.same fun h1 t1 e1=>?_
  exact ⟨S.ext.heap.to fun b o o' e e'=>keep b o' (fun q=>by rw [q,S.loc0] at e;cases e) e',S.ext.le,S.ext.inn.to fun b o o' e e'=>keep b o' (fun q=>by rw [q,S.locg] at e;cases e) e',S.ext.new,⟨h',tk,by rw [e1]⟩⟩
 ·refine {kind:=S.vw.kind,sc:=S.vw.sc,glo:=S.vw.glo,bui:=S.vw.bui,vars:=?_,cel:=S.vw.cel,inn:=S.vw.inn.to fun b o o' e e'=>keep b o' (fun q=>by rw [q,S.locg] at e;cases e) e',base:=S.vw.base,fr:=?_}
  rotate_left
  ·exact S.vw.fr.keepNs keep hn'
  intro y dy hy
  refine oA (QEq hy) fun q hy=>?_
  refine oEA (S.vw.vars y dy hy) fun u hu hc=>?_
  refine ⟨u,hu,?_⟩
  refine Or.elim hc (QCx fun h1 m₁ h2 h3=>?_) (QCx fun h1 c h2 h3=>?_)
  ·exact .inl ⟨h1,_,hn',by simp only [if_neg q];rw [QCZ hm h2];exact h3⟩
  ·exact .inr ⟨h1,c,h2,((QAm _ O).cell h3).sameBut hs' (Ne.symm (QCX hm h3))⟩
 ·intro y c hc
  refine QEV (S.cell y c hc) fun h1 h2 u h3=>?_
  exact ⟨h1,h2,u,((QAm _ O).cell h3).sameBut hs' (Ne.symm (QCX hm h3))⟩
 ·intro y ds hy
  rcases QEO hy with ⟨rfl,rfl⟩|⟨hne,hy⟩
  ·rw [if_pos rfl]
   exact ⟨hk,S.ext.inn.none hfr,S.ext.heap.none hfr,⟨_,hn',by simp⟩,#[],hl,.nil⟩
  ·rw [if_neg hne]
   refine QBC (S.own y ds hy) fun h1 h2 h3 ζ3 vs h6 h7=>?_
   obtain ⟨m₁,h4,h5⟩:=ζ3
   exact ⟨h1,h2,h3,⟨_,hn',by simp only [if_neg hne];rw [QCZ hm h4];exact h5⟩,vs,((QAm _ O).plain h6).extBut hs'.extBut (Ne.symm (QCa hm h6)),h7⟩
 ·intro y z dy dz hy hz e
  refine Or.elim (QEO hy) (rA fun q _=>?_) (rA fun hne hy'=>?_)<;>refine Or.elim (QEO hz) (rA fun q' _=>?_) (rA fun hne' hz'=>?_)
  ·rw [q,q']
  ·rw [if_pos q,if_neg hne'] at e;exact absurd e.symm (oldOwn _ _ hz')
  ·rw [if_pos q',if_neg hne] at e;exact absurd e (oldOwn _ _ hy')
  ·rw [if_neg hne,if_neg hne'] at e;exact S.ownA y z dy dz hy' hz' e
 ·intro b
  refine QDe fun y ds hy ζ3=>?_
  cases ζ3
  rcases QEO hy with ⟨rfl,rfl⟩|⟨hne,hy⟩
  ·dsimp only;rw [if_pos rfl];exact .inl hfr
  ·dsimp only;rw [if_neg hne];exact .inr ⟨y,ds,hy,rfl⟩
theorem QCH{x y:Str}{ds dx:List D}(h:(σ.setOwn x dx).os.lookup y=some ds):(y=x∧ds=dx)∨(y≠x∧σ.os.lookup y=some ds):=by
 have h':List.lookup y ((x,dx)::σ.os.filter fun p=>p.1 !=x)=some ds:=h
 rw [Qt] at h'
 cases q:y==x with
 |true=>rw [q] at h';cases h';exact .inl ⟨eq_of_beq q,rfl⟩
 |false=>
  rw [q] at h'
  have hne:y≠x:=by simpa using q
  rw [QAr,if_neg hne] at h'
  exact .inr ⟨hne,h'⟩
theorem Sv.grown(S:Sv G A g₀ s₀ env σ oa g s){x:Str}{ds ds':List D}{vs':Array QS}{h':Heap}(hx:σ.os.lookup x=some ds)(hl':h'.PlainList (oa x) vs')(hs':Heap.SameBut (oa x) s.heap h')(hv:DenL g vs'.toList ds'):
  Sv G A g₀ s₀ env (σ.setOwn x ds') oa g {s with heap:=h'}∧Mv env σ oa (σ.setOwn x ds') oa g s g {s with heap:=h'}:=by
 refine QBC (S.own x ds hx) fun k1 k2 k3 ζ3 vs k6 k7=>?_
 obtain ⟨m,k4,k5⟩:=ζ3
 have keep:∀b o,b≠oa x→s.heap.get? b=some o→h'.get? b=some o:=fun b o hb e=>hs'.extBut b o hb e
 have live:∀b o,s.heap.get? b=some o→∃o',h'.get? b=some o':=fun b o e=>by
  by_cases q:b=oa x
  ·subst q;(revert hl';refine rE fun n ho'=>?_);exact ⟨_,ho'⟩
  ·exact ⟨o,keep b o q e⟩
 have hn':h'.Ns env.locals m:=k4.sameBut hs' (QCa k4 k6)
 refine ⟨?_,⟨fun b o e hl=>⟨o,keep b o (fun q=>hl (.inr (.inr ⟨x,ds,hx,q⟩))) e,.rfl'⟩,.refl _,fun _ _ e=> .inl e,?_,live⟩⟩
 refine {ext:=?_,vw:=?_,locg:=S.locg,loc0:=S.loc0,ns:=⟨_,hn'⟩,cell:=?_,apart:=S.apart,own:=?_,ownA:=?_}
 ·refine oEE S.ext.same fun h1 t1 e1=>?_
  exact ⟨S.ext.heap.to fun b o o' e e'=>keep b o' (fun q=>by rw [q,k3] at e;cases e) e',S.ext.le,S.ext.inn.to fun b o o' e e'=>keep b o' (fun q=>by rw [q,k2] at e;cases e) e',S.ext.new,⟨h',s.toks,by rw [e1]⟩⟩
 ·refine {kind:=S.vw.kind,sc:=S.vw.sc,glo:=S.vw.glo,bui:=S.vw.bui,vars:=?_,cel:=S.vw.cel,inn:=S.vw.inn.to fun b o o' e e'=>keep b o' (fun q=>by rw [q,k2] at e;cases e) e',base:=S.vw.base,fr:=?_}
  rotate_left
  ·revert k6
   refine rE fun nl hol=>?_
   exact S.vw.fr.keepOff keep hol fun _ _ q=>nomatch q
  intro y dy hy
  refine oA (QEq hy) fun q hy=>?_
  refine oEA (S.vw.vars y dy hy) fun u hu hc=>?_
  refine ⟨u,hu,?_⟩
  refine Or.elim hc (QCx fun h1 m₁ h2 h3=>?_) (QCx fun h1 c h2 h3=>?_)
  ·exact .inl ⟨h1,m₁,h2.sameBut hs' (QCa k4 k6),h3⟩
  ·exact .inr ⟨h1,c,h2,h3.sameBut hs' (QEL h3 k6)⟩
 ·intro y c hc
  refine QEV (S.cell y c hc) fun h1 h2 u h3=>?_
  exact ⟨h1,h2,u,h3.sameBut hs' (QEL h3 k6)⟩
 ·intro y dy hy
  rcases QCH hy with ⟨rfl,rfl⟩|⟨hne,hy⟩
  ·refine ⟨k1,k2,k3,⟨m,hn',k5⟩,_,hl',?_⟩
   exact hv
  ·refine QBC (S.own y dy hy) fun h1 h2 h3 ζ3 vs' h6 h7=>?_
   obtain ⟨m₁,h4,h5⟩:=ζ3
   refine ⟨h1,h2,h3,⟨m₁,h4.sameBut hs' (QCa k4 k6),h5⟩,vs',h6.extBut hs'.extBut (fun e=>hne (S.ownA y x dy ds hy hx e)),h7⟩
 ·intro y z dy dz hy hz e
  have f:∀y dy,(σ.setOwn x (ds')).os.lookup y=some dy→∃dy',σ.os.lookup y=some dy':=fun y dy hy=>by
   rcases QCH hy with ⟨rfl,rfl⟩|⟨hne,hy⟩
   ·exact ⟨_,hx⟩
   ·exact ⟨_,hy⟩
  refine oE (f y dy hy) fun _ a1=>?_
  refine oE (f z dz hz) fun _ a2=>?_
  exact S.ownA y z _ _ a1 a2 e
 ·intro b
  refine QDe fun y dy hy ζ3=>?_
  cases ζ3
  rcases QCH hy with ⟨rfl,rfl⟩|⟨hne,hy⟩
  ·exact .inr ⟨_,_,hx,rfl⟩
  ·exact .inr ⟨_,_,hy,rfl⟩
theorem Sv.appendOwn(S:Sv G A g₀ s₀ env σ oa g s){x:Str}{v:QS}{d:D}{ds:List D}{Q:QS→QR→Prop}(hx:σ.os.lookup x=some ds)(hl:ds.length≤1000)(hv:Den g v d)
  (k:∀h',Sv G A g₀ s₀ env (σ.setOwn x (ds++[d])) oa g {s with heap:=h'}→Mv env σ oa (σ.setOwn x (ds++[d])) oa g s g {s with heap:=h'}→Q .none {s with heap:=h'}):
  Qa (model prog w) A (call (.builtin "list.append") [.ref (oa x),v]) Q E s:=by
 refine QBC (S.own x ds hx) fun k1 k2 k3 ζ3 vs k6 k7=>?_
 obtain ⟨m,k4,k5⟩:=ζ3
 have hsz:vs.size≤sizeLine:=by have h1:=k7.length;have h2:=QAb;rw [Array.length_toList] at h1;exact zn3 [_,_,_] 1 (.v 0) (.v 1) 1 (.v 2) (.n 1000) 1 (.v 0) (.v 2) 1 (.n 100000) (.v 1) rfl hl (Qe h1) h2
 refine wpAny_list_append_plain (hsz:=hsz) k6 fun h' hl' hs'=>?_
 refine oA (S.grown (ds':=ds++[d]) hx hl' hs' (by rw [Array.toList_push];exact k7.append (.cons hv .nil))) fun S' M'=>?_
 exact k h' S' M'
set_option tactic.hygienic true in
theorem Sv.extendOwn(S:Sv G A g₀ s₀ env σ oa g s){x:Str}{v:QS}{ds es:List D}{Q:QS→QR→Prop}(hx:σ.os.lookup x=some ds)(hl:ds.length≤1000)(he:es.length≤1000)(hv:Den g v (.list es))
  (k:∀h',Sv G A g₀ s₀ env (σ.setOwn x (ds++es)) oa g {s with heap:=h'}→Mv env σ oa (σ.setOwn x (ds++es)) oa g s g {s with heap:=h'}→Q .none {s with heap:=h'}):
  Qa (model prog w) A (call (.builtin "list.extend") [.ref (oa x),v]) Q E s:=by
 refine QBC (S.own x ds hx) fun k1 k2 k3 ζ3 vs ζ5 k7=>?_
 obtain ⟨m,k4,k5⟩:=ζ3
 obtain ⟨n,k6⟩:=ζ5
 cases hv with
 |list ho hc hd hle=>
  rename_i b o ws n2
  obtain ⟨cls,dd,data,sl⟩:=o
  revert hc
  refine rAA fun hc1 hc2 hc3=>?_
  simp only at hc1 hc2 hc3 hd
  subst hc1 hc2 hc3 hd
  have h1:=k7.length
  have h2:=hle.length
  have h3:=QAb
  rw [Array.length_toList] at h1 h2
  have hno:¬(!vs.isEmpty&&Builtin.List.listTooLong (vs.size+ws.size))=true:=by
   unfold Builtin.List.listTooLong
   rw [QAT,decide_eq_true_eq,not_and]
   intro _;omega
  refine call_meets PySem.F.slot_list_extend ⟨_,k6,rfl⟩ PySem.F.entry_list_extend (PySem.F.args_list_extend_2 _ _) (PySem.AutoSeq1.list_extend_list_list_0 (oa x) vs n b ws n2 hno (by exact zn3 [_,_,_] 1 (.v 0) (.v 1) 1 (.v 2) (.n 1000) 1 (.v 0) (.v 2) 1 (.n 100000) (.v 1) rfl hl (Qe h1) h3) (by omega)) ⟨k6,S.vw.inn.sq ho rfl,?_⟩
  have hl':(s.heap.update (oa x) (Obj.mapSeq fun x=>x++ws)).PlainList (oa x) (vs++ws):=by
   have:=Heap.get?_update_self (Obj.mapSeq fun x=>x++ws) k6 (by rw [Obj.mapSeq];rfl)
   rw [Obj.mapSeq] at this
   exact ⟨_,this⟩
  refine oA (S.grown (ds':=ds++es) hx hl' (Heap.SameBut.update ..) (by rw [Array.toList_append];exact k7.append hle)) fun S' M'=>?_
  exact k _ S' M'
theorem Sv.freezeOne(S:Sv G A g₀ s₀ env σ oa g s)(x:Str):∃g',Sv G A g₀ s₀ env (σ.freezeOne x) oa g' s∧Mv env σ oa (σ.freezeOne x) oa g s g' s:=by
 unfold PS.freezeOne
 cases hx:σ.os.lookup x with
 |none=>exact ⟨g,S,.refl⟩
 |some ds=>
  refine QBC (S.own x ds hx) fun k1 k2 k3 ζ3 vs ζ5 k7=>?_
  obtain ⟨m,k4,k5⟩:=ζ3
  obtain ⟨n,k6⟩:=ζ5
  have k6':s.heap.PlainList (oa x) vs:=⟨n,k6⟩
  have addle:FLe g (g.add (oa x) {cls:= .type "list",data:= .seq vs n}):=Fz.add_le k2
  have inn':FIn (g.add (oa x) {cls:= .type "list",data:= .seq vs n}) s.heap:=fun b o e=>by
   unfold Fz.add at e
   by_cases q:b=oa x
   ·subst q;rw [if_pos rfl] at e;cases e;exact ⟨_,k6,.rfl'⟩
   ·rw [if_neg q] at e;exact S.vw.inn b o e
  have addne:∀b,b≠oa x→g b=none→(g.add (oa x) {cls:= .type "list",data:= .seq vs n}) b=none:=fun b q e=>by unfold Fz.add;rw [if_neg q];exact e
  refine ⟨g.add (oa x) {cls:= .type "list",data:= .seq vs n},?_,⟨fun b o e _=>⟨o,e,.rfl'⟩,addle,?_,fun b ⟨y,dy,hy,e⟩=> .inr ⟨y,dy,(QBa hy).2,e⟩,fun b o e=>⟨o,e⟩⟩⟩
  ·refine {ext:=?_,vw:=?_,locg:=addne _ (QCa k4 k6') S.locg,loc0:=S.loc0,ns:=S.ns,cell:=?_,apart:=S.apart,own:=?_,ownA:=?_}
   ·refine ⟨S.ext.heap,S.ext.le.trans addle,inn',fun b o e=>?_,S.ext.same⟩
    unfold Fz.add at e
    by_cases q:b=oa x
    ·subst q;exact .inr k3
    ·rw [if_neg q] at e;exact S.ext.new b o e
   ·refine {kind:=S.vw.kind,sc:=S.vw.sc,glo:=S.vw.glo,bui:=S.vw.bui,vars:=?_,cel:=S.vw.cel,inn:=inn',base:=S.vw.base.trans addle,fr:=S.vw.fr}
    intro y dy hy
    rw [QCi] at hy
    by_cases q:y=x
    ·rw [if_pos q] at hy;cases hy
     exact ⟨.ref (oa x),.list (Fz.add_self _ _ _) ⟨rfl,rfl,rfl⟩ rfl (k7.mono addle),.inl ⟨by rw [q];exact k1,m,k4,by rw [q];exact k5⟩⟩
    ·rw [if_neg q] at hy
     exact (S.vw.vars y dy hy).up addle (.refl _)
   ·intro y c hc
    refine QEV (S.cell y c hc) fun h1 h2 u h3=>?_
    exact ⟨addne _ (QEL h3 k6') h1,h2,u,h3⟩
   ·intro y dy hy
    refine oA (QBa hy) fun hne hy=>?_
    refine QBC (S.own y dy hy) fun h1 h2 h3 h4 vs' h6 h7=>?_
    exact ⟨h1,addne _ (fun e=>hne (S.ownA y x dy ds hy hx e)) h2,h3,h4,vs',h6,h7.mono addle⟩
   ·intro y z dy dz hy hz e
    exact S.ownA y z dy dz (QBa hy).2 (QBa hz).2 e
  ·intro b o e
   unfold Fz.add at e
   by_cases q:b=oa x
   ·exact .inr (.inr ⟨x,ds,hx,q⟩)
   ·rw [if_neg q] at e;exact .inl e
theorem Sv.freezeAll:∀(xs:List Str) {σ:PS} {g:Fz},Sv G A g₀ s₀ env σ oa g s→∃g',Sv G A g₀ s₀ env (σ.freezeAll xs) oa g' s∧Mv env σ oa (σ.freezeAll xs) oa g s g' s
 |[],σ,g,S=>⟨g,S,.refl⟩
 |x::r,σ,g,S=>by
  refine oEA (S.freezeOne x) fun g1 S1 M1=>?_
  refine oEA (Sv.freezeAll r S1) fun g2 S2 M2=>?_
  exact ⟨g2,S2,M1.trans M2⟩
theorem Sv.freeze(S:Sv G A g₀ s₀ env σ oa g s):∃g',Sv G A g₀ s₀ env σ.freeze oa g' s∧Mv env σ oa σ.freeze oa g s g' s:=S.freezeAll _
end
section
variable {prog:QV}{w:QX}{G:Gd prog w}{N:Nat}
noncomputable def QDx(G:Gd prog w)(A:QT)(g₀:Fz)(s₀:QR)(env:Env)(σ:PS)(oa:Str→QW)(g:Fz)(s:QR)(Q:Flow→QR→Prop):Out→Prop
 | .next σ'=>∀g' s' oa',Sv G A g₀ s₀ env σ' oa' g' s'→Mv env σ oa σ' oa' g s g' s'→Q .next s'
 | .brk σ'=>∀g' s' oa',Sv G A g₀ s₀ env σ' oa' g' s'→Mv env σ oa σ' oa' g s g' s'→Q .brk s'
 | .cont σ'=>∀g' s' oa',Sv G A g₀ s₀ env σ' oa' g' s'→Mv env σ oa σ' oa' g s g' s'→Q .cont s'
 | .ret d=>∀g' s' v,Ext g₀ s₀ g' s'→Den g' v d→Q (.ret v) s'
noncomputable def QC7(G:Gd prog w)(N:Nat)(st:Stmt)(σ:PS)(o:Out):Prop:=
 ∀(A:QT) (env:Env) (g₀:Fz) (s₀:QR) (oa:Str→QW) (g:Fz) (s:QR) (Q:Flow→QR→Prop) (E:QS→QR→Prop),Rm A N→Sv G A g₀ s₀ env σ oa g s→QDx G A g₀ s₀ env σ oa g s Q o→Qa (model prog w) A (exec st env) Q E s
noncomputable def QCG(G:Gd prog w)(N:Nat)(sts:List Stmt)(σ:PS)(o:Out):Prop:=
 ∀(A:QT) (env:Env) (g₀:Fz) (s₀:QR) (oa:Str→QW) (g:Fz) (s:QR) (Q:Flow→QR→Prop) (E:QS→QR→Prop),Rm A N→Sv G A g₀ s₀ env σ oa g s→QDx G A g₀ s₀ env σ oa g s Q o→Qa (model prog w) A (execs sts env) Q E s
theorem QDx.via{A:QT}{g₀:Fz}{s₀:QR}{env:Env}{σ σ':PS}{oa oa':Str→QW}{g g':Fz}{s s':QR}{Q:Flow→QR→Prop}{o:Out}(h:QDx G A g₀ s₀ env σ oa g s Q o)(M:Mv env σ oa σ' oa' g s g' s'):QDx G A g₀ s₀ env σ' oa' g' s' Q o:=by
 cases o with
 |next τ=>exact fun g2 s2 oa2 S2 M2=>h g2 s2 oa2 S2 (M.trans M2)
 |brk τ=>exact fun g2 s2 oa2 S2 M2=>h g2 s2 oa2 S2 (M.trans M2)
 |cont τ=>exact fun g2 s2 oa2 S2 M2=>h g2 s2 oa2 S2 (M.trans M2)
 |ret d=>exact h
theorem Sv.kindOf{A:QT}{g₀:Fz}{s₀:QR}{env:Env}{σ:PS}{oa:Str→QW}{g:Fz}{s:QR}(S:Sv G A g₀ s₀ env σ oa g s)(x:Str):env.kindOf x=σ.ρ.kind x:=S.vw.kindOf x
theorem Sv.sameKind{A:QT}{g₀:Fz}{s₀:QR}{env:Env}{σ σ':PS}{oa oa':Str→QW}{g g':Fz}{s s':QR}(S:Sv G A g₀ s₀ env σ oa g s)(S':Sv G A g₀ s₀ env σ' oa' g' s')(x:Str):σ'.ρ.kind x=σ.ρ.kind x:=by
 rw [←S.kindOf,←S'.kindOf]
theorem QA6{v:Expr}(h1:QFT v=false)(h2:QFe v=false)(t:Option Expr)(line:Nat)(env:Env):swapsWith v t line env=pure false:=by
 skip
 cases v<;>first|rfl|exact Bool.noConfusion (h1:true=false)|exact Bool.noConfusion (h2:true=false)
theorem QNA{elt:Expr}{gs:List Comprehension}{scope:Scope}{pos py:Pos}{y:Str}{line:Nat}{env:Env}:∃b,swapsWith (.ListComp elt gs scope pos) (some (.Name y py)) line env=pure b∧(b=true→env.kindOf y=some .local):=by
 refine ⟨_,rfl,fun h=>?_⟩
 simp only [QAT,beq_iff_eq] at h
 exact h.1.1.2
theorem Sv.ofStp{A:QT}{g₀:Fz}{s₀:QR}{env:Env}{σ:PS}{oa:Str→QW}{g g':Fz}{s s':QR}{m:Str→Option QS}{x:Str}{v:QS}{d:D}(S:Sv G A g₀ s₀ env σ oa g s)(P:Stp env.locals g s g' s')(hm:s.heap.Ns env.locals m)(hk:σ.ρ.kind x=some .local)
  (hv:Den g' v d) (hn':s'.heap.Ns env.locals (fun z=>if z=x then some v else m z)):Sv G A g₀ s₀ env (σ.put x d) oa g' s'∧Mv env σ oa (σ.put x d) oa g s g' s':=by
 have off:∀a o,g a=none→s.heap.get? a=some o→g' a=none:=fun a o h1 h2=>by
  cases q:g' a with
  |none=>rfl
  |some o'=>
   rcases P.new _ _ q with e|e
   ·rw [h1] at e;cases e
   ·rw [h2] at e;cases e
 refine QLr (id hm) fun oL _ _ hoL _=>?_
 have live:∀b o,s.heap.get? b=some o→∃o',s'.heap.get? b=some o':=fun b o e=>by
  by_cases q:b=env.locals
  ·subst q;(revert hn';refine QCg fun o' _ _ ho' _=>?_);exact ⟨o',ho'⟩
  ·refine oEA (P.keep b o q e) fun o' e' _=>?_;exact ⟨o',e'⟩
 refine ⟨{ext:=?_,vw:=?_,locg:=off _ _ S.locg hoL,loc0:=S.loc0,ns:=⟨_,hn'⟩,cell:=?_,apart:=S.apart,own:=?_,ownA:=?_},⟨fun b o e hl=>P.keep b o (fun q=>hl (.inl q)) e,P.le,fun a o e=>(P.new a o e).imp_right .inl,fun b ⟨y,ds,hy,e⟩=> .inr ⟨y,ds,(QBa hy).2,e⟩,live⟩⟩
 ·refine ⟨fun b o e=>by
   refine oEA (S.ext.heap b o e) fun o' e' sm=>?_
   refine oEA (P.keep b o' (fun q=>by rw [q,S.loc0] at e;cases e) e') fun o'' e'' sm'=>?_
   exact ⟨o'',e'',sm.trans sm'⟩,S.ext.le.trans P.le,P.inn,fun a o e=>?_,?_⟩
  ·rcases P.new a o e with q|q
   ·exact S.ext.new a o q
   ·exact .inr (S.ext.heap.none q)
  ·refine oEE S.ext.same fun h1 t1 e1=>?_
   refine oEE P.same fun h2 t2 e2=>?_
   exact ⟨h2,t2,by rw [e2,e1]⟩
 ·refine {kind:=S.vw.kind,sc:=S.vw.sc,glo:=S.vw.glo,bui:=S.vw.bui,vars:=?_,cel:=S.vw.cel,inn:=P.inn,base:=S.vw.base.trans P.le,fr:=?_}
  rotate_left
  ·refine S.vw.fr.step fun b o es ep e d=>?_
   by_cases q:b=env.locals
   ·subst q
    revert hn'
    refine QCB fun o' es' ep' e' d' _=>?_
    exact ⟨o',es',ep',e',d'⟩
   ·refine oEA (P.keep b o q e) fun o' e' sm=>?_
    exact ⟨o',es,ep,e',sm.data.trans d⟩
  intro y dy hy
  rw [QCi] at hy
  by_cases q:y=x
  ·rw [if_pos q] at hy;cases hy
   exact ⟨v,hv,.inl ⟨by rw [q];exact hk,_,hn',by simp [q]⟩⟩
  ·rw [if_neg q] at hy
   refine oEA (S.vw.vars y dy hy) fun u hu hc=>?_
   refine ⟨u,hu.mono P.le,?_⟩
   refine Or.elim hc (QCx fun h1 m₁ h2 h3=>?_) (QCx fun h1 c h2 h3=>?_)
   ·exact .inl ⟨h1,_,hn',by simp only [if_neg q];rw [QCZ hm h2];exact h3⟩
   ·refine oEA (id h3) fun o ho hd=>?_
    refine oEA (P.keep _ _ (Ne.symm (QCX hm h3)) ho) fun o' e' sm=>?_
    exact .inr ⟨h1,c,h2,o',e',sm.data.trans hd⟩
 ·intro y c hc
  refine QEV (S.cell y c hc) fun h1 h2 u h3=>?_
  refine oEA (id h3) fun o ho hd=>?_
  refine oEA (P.keep _ _ (Ne.symm (QCX hm h3)) ho) fun o' e' sm=>?_
  exact ⟨off _ _ h1 ho,h2,u,o',e',sm.data.trans hd⟩
 ·intro y ds hy
  refine oA (QBa hy) fun hne hy=>?_
  refine QBC (S.own y ds hy) fun h1 h2 h3 ζ3 vs h6 h7=>?_
  obtain ⟨m₁,h4,h5⟩:=ζ3
  refine oE (id h6) fun n ho=>?_
  refine ⟨h1,off _ _ h2 ho,h3,⟨_,hn',by simp only [if_neg hne];rw [QCZ hm h4];exact h5⟩,vs,⟨n,?_⟩,h7.mono P.le⟩
  refine oEA (P.keep _ _ (Ne.symm (QCa hm h6)) ho) fun o' e' sm=>?_
  rw [sm.exact fun _ _ q=>nomatch q] at e'
  exact e'
 ·intro y z dy dz hy hz e
  exact S.ownA y z dy dz (QBa hy).2 (QBa hz).2 e
noncomputable def EvX(G:Gd prog w)(N:Nat)(e:Expr)(ρ:PE)(d:D):Prop:=
 QAW G N e ρ d∧(QFT e=true→∃elt t i ifs sc pos ys,e= .ListComp elt [⟨t,i,ifs,0⟩] sc pos∧d= .list ys∧QFY G N elt t i ifs sc ρ ys)
theorem EvX.of{e:Expr}{ρ:PE}{d:D}(hc:QFT e=false)(h:QAW G N e ρ d):EvX G N e ρ d:=⟨h,fun q=>Bool.noConfusion (hc.symm.trans q)⟩
noncomputable def StK(G:Gd prog w)(N:Nat)(st:Stmt)(σ τ:PS):Prop:=
 ∀(A:QT) (env:Env) (g₀:Fz) (s₀:QR) (oa:Str→QW) (g:Fz) (s:QR) (Q:Flow→QR→Prop) (E:QS→QR→Prop),Rm A N→Sv G A g₀ s₀ env σ oa g s→
  (∀g' s',Sv G A g₀ s₀ env τ oa g' s'→Mv env σ oa τ oa g s g' s'→Q .next s')→Qa (model prog w) A (exec st env) Q E s
theorem StK.to{st:Stmt}{σ τ:PS}(h:StK G N st σ τ):QC7 G N st σ (.next τ):=fun A env g₀ s₀ oa g s Q E R S k=>h A env g₀ s₀ oa g s Q E R S fun g' s' S' M'=>k g' s' oa S' M'
theorem QFH{x:Str}{p pos:Pos}{e:Expr}{σ:PS}{d:D}(hk:storable σ x=true)(hsd:QFe e=false)(h:EvX G N e σ.ρ d):StK G N (.Assign [.Name x p] e pos) σ (σ.put x d):=by
 intro A env g₀ s₀ oa g s Q E R S k
 have plain:swapsWith e (some (.Name x p)) pos.line env=pure false→Qa (model prog w) A (exec (.Assign [.Name x p] e pos) env) Q E s:=fun hsw=>by
  refine wpAny_Assign_Name (h.1 A env g s _ E R S.vw fun g1 s1 v1 x1 d1=>?_) hsw
  refine (S.up x1).store hk d1 fun h' tk S' M'=>k _ _ S' ((Mv.ofExt x1).trans M')
 cases hc:QFT e with
 |true=>
  refine QBh (h.2 hc) fun elt t i ifs sc=>QFC fun cpos ys ζ7 ζ8 hcomp=>?_
  subst ζ7
  subst ζ8
  refine oEA (QNA (elt:=elt) (gs:=[⟨t,i,ifs,0⟩]) (scope:=sc) (pos:=cpos) (py:=p) (y:=x) (line:=pos.line) (env:=env)) fun b hb hloc=>?_
  cases b with
  |false=>exact plain hb
  |true=>
   have hkl:env.kindOf x=some .local:=hloc rfl
   refine oE S.ns fun m hm=>?_
   refine QKv hcomp hb R S.vw hkl hm S.locg fun g' s' Da P hd hn'=>?_
   refine oA (S.ofStp P hm (by rw [←S.kindOf];exact hkl) hd hn') fun S' M'=>?_
   exact k _ _ S' M'
 |false=>exact plain (QA6 hc hsd _ _ _)
theorem QCJ{x:Str}{p pos:Pos}{e:Expr}{σ:PS}{d:D}(hk:storable σ x=true)(hsd:QFe e=false)(h:EvX G N e σ.ρ d):QC7 G N (.Assign [.Name x p] e pos) σ (.next (σ.put x d)):=(QFH hk hsd h).to
end
inductive Or where
 |d (v:D)
 |b (v:Bool)
 |l (v:List D)
 |o (v:Out)
 |s (v:PS)
noncomputable abbrev OL:=List Or
noncomputable def qb(c:Bool)(P:Prop):Prop:=match c with
 |true=>P
 |false=>False
noncomputable def om{α:Type}(o:Option α)(f:α→Prop):Prop:=match o with
 |some a=>f a
 |none=>False
noncomputable def qf(c:Bool)(P Q:Prop):Prop:=match c with
 |true=>P
 |false=>Q
noncomputable def omd{α:Type}(o:Option α)(f:α→Prop)(Q:Prop):Prop:=match o with
 |some a=>f a
 |none=>Q
theorem QBr{c:Bool}{P X:Prop}(h:qb c P)(f:c=true→P→X):X:=by cases c with|true=>exact f rfl h|false=>exact h.elim
theorem QEY{c:Bool}{P Q X:Prop}(h:qf c P Q)(f:c=true→P→X)(g:c=false→Q→X):X:=by cases c with|true=>exact f rfl h|false=>exact g rfl h
theorem QBM{α:Type}{o:Option α}{f:α→Prop}{X:Prop}(h:om o f)(k:∀a,o=some a→f a→X):X:=by cases o with|some a=>exact k a rfl h|none=>exact h.elim
theorem QDZ{α:Type}{o:Option α}{f:α→Prop}{Q X:Prop}(h:omd o f Q)(k:∀a,o=some a→f a→X)(g:Q→X):X:=by cases o with|some a=>exact k a rfl h|none=>exact g h
noncomputable def nx{α:Type}(p:Or→Option α)(os:OL)(f:α→OL→Prop):Prop:=match os with
 |[]=>False
 |x::r=>om (p x) fun v=>f v r
noncomputable abbrev nd:=nx fun| .d v=>some v|_=>none
noncomputable abbrev nb:=nx fun| .b v=>some v|_=>none
noncomputable abbrev nl:=nx fun| .l v=>some v|_=>none
noncomputable abbrev no:=nx fun| .o v=>some v|_=>none
noncomputable abbrev ns:=nx fun| .s v=>some v|_=>none
theorem QC1{α:Type}{p:Or→Option α}{os:OL}{P f:α→OL→Prop}{X:Prop}(h:nx p os fun v os=>P v os∧f v os)(k:∀v r,P v r→f v r→X):X:=by
 cases os with|nil=>exact h.elim|cons x r=>exact QBM h fun v _ h=>k v r h.1 h.2
inductive Cm where
 |ev (e:Expr) (ρ:PE) (os:OL) (k:D→OL→Prop)
 |te (e:Expr) (ρ:PE) (os:OL) (k:Bool→OL→Prop)
 |ch (a:D) (ops:List CmpOp) (rs:List Expr) (ρ:PE) (os:OL) (k:Bool→OL→Prop)
 |al (op:BoolOp) (xs:List Expr) (ρ:PE) (os:OL) (k:Bool→OL→Prop)
 |ts (xs:List Expr) (ρ:PE) (os:OL) (k:Bool→OL→Prop)
 |it (t e:Expr) (ρ:PE) (os:OL) (k:List D→OL→Prop)
 |iv (t e:Expr) (ρ:PE) (os:OL) (k:List D→OL→Prop)
 |st (s:Stmt) (σ:PS) (os:OL) (k:Out→OL→Prop)
 |sts (s:List Stmt) (σ:PS) (os:OL) (k:Out→OL→Prop)
structure PLe (ρ ρ':PE):Prop where
 sc:ρ'.sc=ρ.sc
 vs:∀x d,ρ.get x=some d→ρ'.get x=some d
structure SLe (σ τ:PS):Prop where
 e:PLe σ.ρ τ.ρ
 os:∀x,τ.os.lookup x=σ.os.lookup x
inductive FL (t:Expr)(B:PS→Out→Prop):List D→PS→Out→Prop
 |nil {σ τ:PS}:SLe τ σ→FL t B [] σ (.next τ)
 |next {d:D} {r:List D} {bs:List (Str×D)} {σ τ:PS} {o:Out}:QAe t d=some bs→B (σ.puts bs) (.next τ)→FL t B r τ o→FL t B (d::r) σ o
 |cont {d:D} {r:List D} {bs:List (Str×D)} {σ τ:PS} {o:Out}:QAe t d=some bs→B (σ.puts bs) (.cont τ)→FL t B r τ o→FL t B (d::r) σ o
 |brk {d:D} {r:List D} {bs:List (Str×D)} {σ τ:PS}:QAe t d=some bs→B (σ.puts bs) (.brk τ)→FL t B (d::r) σ (.next τ)
 |ret {d:D} {r:List D} {bs:List (Str×D)} {σ:PS} {v:D}:QAe t d=some bs→B (σ.puts bs) (.ret v)→FL t B (d::r) σ (.ret v)
inductive WL (T:PS→Bool→Prop)(B:PS→Out→Prop):PS→Out→Prop
 |done {σ τ:PS}:T σ false→SLe τ σ→WL T B σ (.next τ)
 |next {σ τ:PS} {o:Out}:T σ true→B σ (.next τ)→WL T B τ o→WL T B σ o
 |cont {σ τ:PS} {o:Out}:T σ true→B σ (.cont τ)→WL T B τ o→WL T B σ o
 |brk {σ τ:PS}:T σ true→B σ (.brk τ)→WL T B σ (.next τ)
 |ret {σ:PS} {v:D}:T σ true→B σ (.ret v)→WL T B σ (.ret v)
noncomputable def PS.gs(σ:PS):List (Option D):=σ.ρ.vs.map fun p=>some p.2
noncomputable def okE(sh:PS)(ρ:PE):Prop:=ρ.sc=sh.ρ.sc∧(sh.ρ.vs.map fun p=>ρ.get p.1)=sh.gs
noncomputable def okS(sh τ:PS):Prop:=(τ.ρ.sc=sh.ρ.sc∧(sh.ρ.vs.map fun p=>τ.ρ.get p.1)=sh.gs)∧τ.os=sh.os
noncomputable def okN(sh:PS)(o:Out)(_:OL):Prop:=match o with
 | .next τ=>okS sh τ
 | .cont τ=>okS sh τ
 |_=>False
noncomputable def okR(v:D)(o:Out)(_:OL):Prop:=match o with
 | .ret d=>d=v
 |_=>False
noncomputable def adds(op:Operator)(x y:Int):Option Int:=match op with
 | .Add=>some (x+y)
 | .Sub=>some (x-y)
 |_=>none
noncomputable def QTZ(op:Operator)(a b:D):Option Int:=(asI a).bind fun x=>(asI b).bind fun y=>adds op x y
noncomputable def QTV(op:Operator)(a b:D)(os:OL)(k:D→OL→Prop):Prop:=omd (QTZ op a b) (fun i=>k (.int i) os) (nd os fun v os=>QB1 op a b=some v∧k v os)
noncomputable def qTr(d:D)(os:OL)(k:Bool→OL→Prop):Prop:=match d with
 | .none=>k false os
 | .bool b=>k b os
 |_=>nb os fun v os=>QC2 d=some v∧k v os
noncomputable def auto:D→D→Bool
 | .int _,_=>false
 | .bytes _,.bytes _=>false
 | .str _,.str _=>false
 | .list _,_=>false
 | .tup _,_=>false
 |_,_=>true
noncomputable def qCm(op:CmpOp)(a b:D)(os:OL)(k:Bool→OL→Prop):Prop:=qf (auto a b) (om (QA8 op a b) fun v=>k v os) (nb os fun v os=>QA8 op a b=some v∧k v os)
noncomputable def QQ1(f:Str)(ds:List D)(os:OL)(k:D→OL→Prop):Prop:=qf (f==QCM||f==QFn) (om (dCall f ds) fun v=>k v os) (nd os fun v os=>dCall f ds=some v∧k v os)
noncomputable def QIh(f:Expr→OL→(D→OL→Prop)→Prop):List Expr→OL→(List D→OL→Prop)→Prop
 |[],os,k=>k [] os
 |e::r,os,k=>f e os fun d os=>QIh f r os fun ds os=>k (d::ds) os
noncomputable def QQo(f:Expr→OL→(D→OL→Prop)→Prop):Option Expr→OL→(D→OL→Prop)→Prop
 |none,os,k=>k .none os
 |some e,os,k=>f e os k
theorem QPg{op:Operator}{a b:D}{i:Int}(h:QTZ op a b=some i):QB1 op a b=some (.int i):=by
 refine oEA (Option.bind_eq_some_iff.mp h) fun x e1 h=>oEA (Option.bind_eq_some_iff.mp h) fun y e2 h=>?_
 rw [QFi e1,QFi e2]
 cases op<;>first|exact QAV h|(cases h;rfl)
theorem QQX{op:Operator}{a b:D}{os:OL}{k:D→OL→Prop}{X:Prop}(h:QTV op a b os k)(f:∀d r,QB1 op a b=some d→k d r→X):X:=QDZ h (fun _ e h=>f _ _ (QPg e) h) fun h=>QC1 h f
theorem QK1{d:D}{os:OL}{k:Bool→OL→Prop}{X:Prop}(h:qTr d os k)(f:∀b r,QC2 d=some b→k b r→X):X:=by
 have g:(nb os fun v os=>QC2 d=some v∧k v os)→X:=fun h=>QC1 h f
 cases d with
 |none=>exact f _ _ rfl h
 |bool b=>exact f _ _ rfl h
 |_=>exact g h
theorem QKz{op:CmpOp}{a b:D}{os:OL}{k:Bool→OL→Prop}{X:Prop}(h:qCm op a b os k)(f:∀v r,QA8 op a b=some v→k v r→X):X:=QEY h (fun _ h=>QBM h fun v e h=>f v _ e h) fun _ h=>QC1 h f
theorem QOQ{g:Str}{ds:List D}{os:OL}{k:D→OL→Prop}{X:Prop}(h:QQ1 g ds os k)(f:∀v r,dCall g ds=some v→k v r→X):X:=QEY h (fun _ h=>QBM h fun v e h=>f v _ e h) fun _ h=>QC1 h f
noncomputable def isG(ρ:PE)(x:Str):Bool:=decide (ρ.kind x=some .globalImplicit)
noncomputable def sliceOf:Expr→Option (Option Expr×Option Expr×Option Expr)
 | .Slice a b c _=>some (a,b,c)
 |_=>none
noncomputable def isSet:Expr→Bool
 | .Set .. =>true
 |_=>false
noncomputable def QQ6:Expr→Bool
 | .List [] _=>true
 |_=>false
noncomputable def nameOf:Expr→Option Str
 | .Name x _=>some x
 |_=>none
noncomputable def QGb:Expr→Option (Expr×List Expr×Pos)
 | .Call f args [] p=>some (f,args,p)
 |_=>none
noncomputable def QLC:Expr→Option (Expr×Str×Pos)
 | .Attribute o m p=>some (o,m,p)
 |_=>none
noncomputable def QQy:Expr→Bool
 | .Constant (.str _) _ _=>true
 |_=>false
noncomputable def gk(ρ:PE)(n f:Str)(es:List Expr):Bool:=decide (ρ.kind f=some .globalImplicit)&&(f==n)&&QAh es
noncomputable def QH5(σ:PS)(x:Str):PS:=if (σ.os.lookup x).isSome then σ.freeze else σ
section
variable {prog:QV}{w:QX}(G:Gd prog w)(N:Nat)
noncomputable def ChainTo(a:D)(ops:List CmpOp)(rs:List Expr)(ρ:PE)(b:Bool):Prop:=
 ∀(A:QT) (env:Env) (g:Fz) (s:QR) (va:QS) (pos:Pos) (Q:Bool→QR→Prop) (E:QS→QR→Prop),Rm A N→Vw G A env ρ g s.heap→Den g va a→
  (∀g' s',Ext g s g' s'→Q b s')→Qa (model prog w) A (testChain pos va ops (evalEach rs env)) Q E s
noncomputable def QN4(op:BoolOp)(xs:List Expr)(ρ:PE)(b:Bool):Prop:=
 ∀(A:QT) (env:Env) (g:Fz) (s:QR) (Q:Bool→QR→Prop) (E:QS→QR→Prop),Rm A N→Vw G A env ρ g s.heap→
  (∀g' s',Ext g s g' s'→Q b s')→Qa (model prog w) A (allTrue op xs env) Q E s
noncomputable def Cm.ok:Cm→Prop
 | .ev e ρ os k=>∃d r,EvX G N e ρ d∧k d r
 | .te e ρ os k=>∃b r,QAl G N e ρ b∧k b r
 | .ch a ops rs ρ os k=>∃b r,ChainTo G N a ops rs ρ b∧k b r
 | .al op xs ρ os k=>∃b r,QN4 G N op xs ρ b∧k b r
 | .ts xs ρ os k=>∃b r,QCj G N xs ρ b∧k b r
 | .it t e ρ os k=>∃ds r,(QD4 G N t e ρ ds∧(∀env x,foldedSetIterable e env x=pure x)∧ds.length≤1000)∧k ds r
 | .iv t e ρ os k=>∃ds r,(QD4 G N t e ρ ds∧(∀env x,foldedSetIterable e env x=pure x)∧ds.length≤1000)∧k ds r
 | .st s σ os k=>∃o r,QC7 G N s σ o∧k o r
 | .sts s σ os k=>∃o r,QCG G N s σ o∧k o r
noncomputable def FLt(t:Expr)(b:List Stmt):List D→PS→Out→Prop:=FL t (QCG G N b)
noncomputable def WLt(t:Expr)(b:List Stmt):PS→Out→Prop:=WL (fun σ c=>QAl G N t σ.ρ c) (QCG G N b)
variable (F:QC9)(C:QCl)(r:Cm→Prop)
noncomputable def qCl(f:Str)(args:List Expr)(kws:List Keyword)(ρ:PE)(os:OL)(k:D→OL→Prop):Prop:=
 omd (F f) (fun sem=>QIh (fun e os k=>r (.ev e ρ os k)) args os fun ds os=>om (QFF kws) fun ks=>QIh (fun e os k=>r (.ev e ρ os k)) (kws.map (·.value)) os fun vs os=>nd os fun v os=>sem ds (ks.zip vs) v∧k v os)
 (qb kws.isEmpty (qf (f==QFp)
  (om (one args) fun e=>om (QGb e) fun x=>om (nameOf x.1) fun z=>om (two x.2.1) fun p=>qb (gk ρ QG6 z [p.1,p.2]) (r (.ev p.1 ρ os fun x os=>om (asL x) fun xs=>r (.ev p.2 ρ os fun y os=>om (asL y) fun ys=>
   nd os fun v os=>((xs.length≤1000)∧(QBg xs ys).map (fun l=>D.dict (dictFrom l))=some v)∧k v os))))
  (QIh (fun e os k=>r (.ev e ρ os k)) args os fun ds os=>QQ1 f ds os k)))
noncomputable def qEv(e:Expr)(ρ:PE)(os:OL)(k:D→OL→Prop):Prop:=match e with
 | .Constant c _ _=>om (QNw c) fun d=>k d os
 | .Name x _=>qb (plainName x) (om (if ρ.kind x=some .globalImplicit then C x else ρ.get x) fun d=>k d os)
 | .BinOp a op b _=>r (.ev a ρ os fun x os=>r (.ev b ρ os fun y os=>QTV op x y os k))
 | .UnaryOp op x _=>(match op with
  | .USub=>r (.ev x ρ os fun d os=>om (asI d) fun i=>k (.int (-i)) os)
  | .Not=>r (.ev x ρ os fun d os=>qTr d os fun b os=>k (.bool (!b)) os)
  |_=>False)
 | .BoolOp op xs _=>om (two xs) fun p=>r (.ev p.1 ρ os fun x os=>qTr x os fun b os=>match op,b with
   | .And,false=>k x os
   | .Or,true=>k x os
   |_,_=>r (.ev p.2 ρ os k))
 | .IfExp t b o _=>r (.te t ρ os fun c os=>match c with
  |true=>r (.ev b ρ os k)
  |false=>r (.ev o ρ os k))
 | .Compare a ops bs _=>om (one ops) fun op=>om (one bs) fun b=>qb (!behindInMarks op b) (r (.ev a ρ os fun x os=>r (.ev b ρ os fun y os=>qCm op x y os fun v os=>k (.bool v) os)))
 | .Call f args kws pos=>omd (nameOf f) (fun f=>qb (isG ρ f&&QAh args&&plainName f) (qCl F r f args kws ρ os k))
  (om (QLC f) fun x=>qb (kws.isEmpty&&QAh args&&decide (args.length≤5)&&(x.2.2.endLine==pos.line)&&QFM x.1) (r (.ev x.1 ρ os fun d os=>QIh (fun e os k=>r (.ev e ρ os k)) args os fun ds os=>nd os fun v os=>QDG x.2.1 d ds=some v∧k v os)))
 | .Subscript v i _=>r (.ev v ρ os fun d os=>omd (sliceOf i) (fun x=>QQo (fun e os k=>r (.ev e ρ os k)) x.1 os fun l os=>QQo (fun e os k=>r (.ev e ρ os k)) x.2.1 os fun h os=>QQo (fun e os k=>r (.ev e ρ os k)) x.2.2 os fun s os=>nd os fun w os=>QDy d l h s=some w∧k w os)
  (r (.ev i ρ os fun j os=>nd os fun w os=>QBb d j=some w∧k w os)))
 | .List es _=>qb (QAh es&&decide (es.length≤20)) (QIh (fun e os k=>r (.ev e ρ os k)) es os fun ds os=>k (.list ds) os)
 | .Tuple es _ _=>qb (QAh es&&decide (es.length≤20)) (QIh (fun e os k=>r (.ev e ρ os k)) es os fun ds os=>k (.tup ds) os)
 | .ListComp elt gs scope _=>om (one gs) fun g=>qb (decide (g.is_async=0)&&QJT ρ scope g.target) (r (.it g.target g.iter ρ os fun ds os=>ns os fun sh os=>okE sh ρ∧nl os fun ys os=>CLt G N g.target g.ifs elt scope sh.ρ ds ys∧k (.list ys) os))
 |_=>False
noncomputable def qTe(e:Expr)(ρ:PE)(os:OL)(k:Bool→OL→Prop):Prop:=match e with
 | .UnaryOp .Not x _=>r (.te x ρ os fun b os=>k (!b) os)
 | .BoolOp op xs _=>r (.al op xs ρ os k)
 | .IfExp t b o _=>r (.te t ρ os fun c os=>match c with
  |true=>r (.te b ρ os k)
  |false=>r (.te o ρ os k))
 | .Compare a ops bs _=>qb (!lastMarks ops bs) (r (.ev a ρ os fun x os=>r (.ch x ops bs ρ os k)))
 |e=>r (.ev e ρ os fun d os=>qTr d os k)
noncomputable def qCh(a:D)(ops:List CmpOp)(bs:List Expr)(ρ:PE)(os:OL)(k:Bool→OL→Prop):Prop:=match ops,bs with
 |[op],[b]=>r (.ev b ρ os fun y os=>qCm op a y os k)
 |op::op'::ops,b::b'::bs=>r (.ev b ρ os fun y os=>qCm op a y os fun v os=>match v with
  |true=>r (.ch y (op'::ops) (b'::bs) ρ os k)
  |false=>k false os)
 |_,_=>False
noncomputable def qAl(op:BoolOp)(xs:List Expr)(ρ:PE)(os:OL)(k:Bool→OL→Prop):Prop:=match xs with
 |[]=>k (op== .And) os
 |x::xs=>r (.te x ρ os fun b os=>match op,b with
  | .And,false=>k false os
  | .Or,true=>k true os
  |_,_=>r (.al op xs ρ os k))
noncomputable def qTs(xs:List Expr)(ρ:PE)(os:OL)(k:Bool→OL→Prop):Prop:=match xs with
 |[]=>k true os
 |x::xs=>r (.te x ρ os fun b os=>match b with
  |false=>k false os
  |true=>r (.ts xs ρ os k))
noncomputable def qIt(t e:Expr)(ρ:PE)(os:OL)(k:List D→OL→Prop):Prop:=
 omd (QGb e) (fun x=>omd (nameOf x.1) (fun f=>omd (one x.2.1) (fun a=>qf (gk ρ QBs f [a]) (qb (QE5 t) (r (.ev a ρ os fun x os=>om (asL x) fun xs=>xs.length≤1000∧k (QCR 0 xs) os)))
  (qf (gk ρ QER f [a]) (qb (isName t&&plainName f) (r (.ev a ρ os fun x os=>om (asI x) fun j=>(-1000≤j∧j≤1000)∧k (QCA 0 j.toNat) os))) (r (.iv t e ρ os k))))
  (omd (two x.2.1) (fun p=>qf (gk ρ QG6 f [p.1,p.2]) (qb (QE5 t) (r (.ev p.1 ρ os fun x os=>om (asL x) fun xs=>r (.ev p.2 ρ os fun y os=>om (asL y) fun ys=>(xs.length≤1000∧xs.length=ys.length)∧k (QF5 xs ys) os)))) (r (.iv t e ρ os k)))
  (r (.iv t e ρ os k)))) (r (.iv t e ρ os k))) (r (.iv t e ρ os k))
noncomputable def qIv(t e:Expr)(ρ:PE)(os:OL)(k:List D→OL→Prop):Prop:=qb (!isSet e) (qf (isName t)
 (r (.ev e ρ os fun x os=>match x with
  | .list xs=>xs.length≤1000∧k xs os
  | .bytes b=>b.size≤1000∧k (b.toList.map fun j=> .int (j.toNat:Nat)) os
  |_=>False))
 (om (QFJ t) fun j=>r (.ev e ρ os fun x os=>om (asL x) fun xs=>(xs.length≤1000∧QDF j xs=true)∧k xs os)))
noncomputable def qSt(s:Stmt)(σ:PS)(os:OL)(k:Out→OL→Prop):Prop:=match s with
 | .Assign ts v _=>omd (one ts) (fun t=>om (nameOf t) fun x=>qf (QQ6 v) (qb (decide (σ.ρ.kind x=some .local)) (k (.next (σ.newOwn x)) os))
   (qb (storable σ x&& !QFe v) (r (.ev v (QH5 σ x).ρ os fun d os=>k (.next ((QH5 σ x).put x d)) os))))
  (om (two ts) fun p=>om (nameOf p.1) fun x=>om (nameOf p.2) fun y=>qb (storable σ x&&storable σ y) (r (.ev v σ.ρ os fun d os=>k (.next ((σ.put x d).put y d)) os)))
 | .If t b o _=>r (.te t σ.ρ os fun c os=>match c with
  |true=>r (.sts b σ os k)
  |false=>r (.sts o σ os k))
 | .Return e _=>om e fun e=>r (.ev e σ.freeze.ρ os fun d os=>k (.ret d) os)
 | .While t b els _=>qb els.isEmpty (ns os fun sh os=>okS sh σ∧no os fun o os=>WLt G N t b sh o∧k o os)
 | .For t i b els _=>qb (els.isEmpty&&QKF σ (targetNames t)) (r (.it t i σ.ρ os fun ds os=>ns os fun sh os=>okS sh σ∧no os fun o os=>FLt G N t b ds sh o∧k o os))
 | .Break _=>k (.brk σ) os
 | .Continue _=>k (.cont σ) os
 | .Pass _=>k (.next σ) os
 | .Expr e _=>qf (QQy e) (k (.next σ) os) (om (QGb e) fun c=>om (QLC c.1) fun y=>om (nameOf y.1) fun x=>om (one c.2.1) fun e=>qb (plainName x&&QAh [e]&&(y.2.2.endLine==c.2.2.line)) (om (σ.os.lookup x) fun ds=>ds.length≤1000∧r (.ev e σ.ρ os fun d os=>
   qf (y.2.1==QKI) (k (.next (σ.setOwn x (ds++[d]))) os) (qb (y.2.1==QJt) (om (asL d) fun es=>es.length≤1000∧k (.next (σ.setOwn x (ds++es))) os)))))
 | .AugAssign t op e _=>(match op with
  | .Add=>om (nameOf t) fun x=>qb (storable σ x&&plainName x) (om (σ.ρ.get x) fun a=>om (asI a) fun i=>r (.ev e σ.ρ os fun b os=>om (asI b) fun j=>k (.next (σ.put x (.int (i+j)))) os))
  |_=>False)
 | .Try b hs els fin _=>qb (!hs.isEmpty&&els.isEmpty&&fin.isEmpty) (r (.sts b σ os k))
 |_=>False
noncomputable def QSp(s:List Stmt)(σ:PS)(os:OL)(k:Out→OL→Prop):Prop:=match s with
 |[]=>k (.next σ) os
 |s::t=>r (.st s σ os fun o os=>match o with
  | .next τ=>r (.sts t τ os k)
  |o=>k o os)
noncomputable def QTF(c:Cm):Prop:=match c with
 | .ev e ρ os k=>qEv G N F C r e ρ os k
 | .te e ρ os k=>qTe r e ρ os k
 | .ch a ops bs ρ os k=>qCh r a ops bs ρ os k
 | .al op xs ρ os k=>qAl r op xs ρ os k
 | .ts xs ρ os k=>qTs r xs ρ os k
 | .it t e ρ os k=>qIt r t e ρ os k
 | .iv t e ρ os k=>qIv r t e ρ os k
 | .st s σ os k=>qSt G N r s σ os k
 | .sts s σ os k=>QSp r s σ os k
noncomputable def q:Nat→Cm→Prop
 |0,_=>False
 |n+1,c=>QTF G N F C (q n) c
end
theorem PLe.refl{ρ:PE}:PLe ρ ρ:=⟨rfl,fun _ _ h=>h⟩
theorem SLe.refl{σ:PS}:SLe σ σ:=⟨.refl,fun _=>rfl⟩
theorem PLe.kind{ρ ρ':PE}(h:PLe ρ ρ')(x:Str):ρ'.kind x=ρ.kind x:=congrArg (List.lookup x) h.sc
theorem SLe.kind{σ τ:PS}(h:SLe σ τ)(x:Str):τ.ρ.kind x=σ.ρ.kind x:=h.e.kind x
theorem QNU{α:Type}{c:Prop}[Decidable c]{o a b:Option α}{d:α}(h:a=some d→b=some d)(q:(if c then o else a)=some d):(if c then o else b)=some d:=by
 by_cases c:c
 ·rw [if_pos c] at q⊢;exact q
 ·rw [if_neg c] at q⊢;exact h q
theorem SLe.put{σ τ:PS}(h:SLe σ τ)(x:Str)(d:D):SLe (σ.put x d) (τ.put x d) where
 e:=⟨h.e.sc,fun y e q=>by rw [QCi] at q⊢;exact QNU (h.e.vs y e) q⟩
 os:=fun y=>(QAr.trans (by rw [h.os])).trans QAr.symm
theorem SLe.puts:∀(bs:List (Str×D)) {σ τ:PS},SLe σ τ→SLe (σ.puts bs) (τ.puts bs):=by
 intro bs
 induction bs with
 |nil=>exact fun h=>h
 |cons p r ih=>exact fun h=>ih (h.put p.1 p.2)
theorem PLe.of{sh:PS}{ρ:PE}(h:okE sh ρ):PLe sh.ρ ρ:=by
 refine ⟨h.1,fun x d e=>?_⟩
 replace h:=h.2
 obtain ⟨⟨sc,vs⟩,os⟩:=sh
 revert h e
 show vs.lookup x=some d→(vs.map fun p=>ρ.get p.1)=(vs.map fun p=>some p.2)→_
 induction vs with
 |nil=>intro e;exact QAV e
 |cons p r ih=>
  obtain ⟨y,v⟩:=p
  intro e h
  injection h with a b
  rw [Qt] at e
  cases q:x==y with
  |true=>rw [q] at e;rw [eq_of_beq q];exact a.trans e
  |false=>rw [q] at e;exact ih e b
theorem SLe.of{sh τ:PS}(h:okS sh τ):SLe sh τ:=⟨.of h.1,fun x=>by rw [h.2]⟩
theorem QEB{α:Type}{p:Str→Bool}:∀(l:List (Str×α)) (x:Str),(l.filter fun q=>p q.1).lookup x=if p x=true then l.lookup x else none:=by
 intro l x
 induction l with
 |nil=>exact (ite_self _).symm
 |cons q r ih=>
  obtain ⟨k,v⟩:=q
  rw [List.filter_cons,Qt]
  cases hx:x==k with
  |true=>
   cases eq_of_beq hx
   by_cases hp:p x=true
   ·rw [if_pos hp,if_pos hp,Qt,hx]
   ·rw [if_neg hp,ih,if_neg hp,if_neg hp]
  |false=>
   by_cases hp:p k=true
   ·rw [if_pos hp,Qt,hx];exact ih
   ·rw [if_neg hp];exact ih
theorem QED{α:Type}:∀{l r:List (Str×α)} {x:Str},(l++r).lookup x=match l.lookup x with|some d=>some d|none=>r.lookup x:=by
 intro l
 induction l with
 |nil=>intro r x;rfl
 |cons q l ih=>
  intro r x
  rw [List.cons_append,Qt,Qt]
  cases x==q.1 with
  |true=>rfl
  |false=>exact ih
theorem PLe.comp{ρ ρ':PE}(h:PLe ρ ρ')(s:Scope)(bs:List (Str×D)):PLe (QBL ρ s bs) (QBL ρ' s bs) where
 sc:=by obtain ⟨sc,vs⟩:=ρ;obtain ⟨sc',vs'⟩:=ρ';cases h.sc;rfl
 vs:=fun x d e=>by
  unfold PE.get QBL at e⊢
  dsimp only at e⊢
  rw [QED,QEB (p:=fun y=>s.names.lookup y==some NameKind.free)] at e⊢
  cases q:bs.lookup x with
  |some v=>rw [q] at e;exact e
  |none=>
   rw [q] at e
   by_cases c:(s.names.lookup x==some NameKind.free)=true
   ·rw [if_pos c] at e⊢;exact h.vs x d e
   ·rw [if_neg c] at e;exact QAV e
section
variable {prog:QV}{w:QX}{G:Gd prog w}{N:Nat}
theorem Vw.weak{A:QT}{env:Env}{ρ ρ':PE}{g:Fz}{h:Heap}(L:PLe ρ ρ')(V:Vw G A env ρ' g h):Vw G A env ρ g h:=
 ⟨V.kind,V.sc.trans L.sc,V.glo,V.bui,fun x d e=>by rw [←L.kind];exact V.vars x d (L.vs x d e),fun x e=>V.cel x (by rw [L.kind];exact e),V.inn,V.base,V.fr⟩
variable {A:QT}{g₀:Fz}{s₀:QR}{env:Env}{σ τ σ' τ':PS}{oa oa':Str→QW}{g g':Fz}{s s':QR}
theorem Sv.weak(L:SLe σ τ)(S:Sv G A g₀ s₀ env τ oa g s):Sv G A g₀ s₀ env σ oa g s:=
 ⟨S.ext,S.vw.weak L.e,S.locg,S.loc0,S.ns,S.cell,S.apart,fun x ds e=>by rw [←L.kind];exact S.own x ds ((L.os x).trans e),fun x y dx dy e1 e2=>S.ownA x y dx dy ((L.os x).trans e1) ((L.os y).trans e2)⟩
theorem Own.weak(L:SLe σ τ){b:QW}(h:Own σ oa b):Own τ oa b:=let ⟨x,ds,e,q⟩:=h;⟨x,ds,(L.os x).trans e,q⟩
theorem Mv.out(L:SLe σ' τ')(M:Mv env σ oa τ' oa' g s g' s'):Mv env σ oa σ' oa' g s g' s':=
 ⟨M.keep,M.le,M.new,fun b h=>M.own b (h.weak L),M.live⟩
theorem Mv.inn(L:SLe σ τ)(M:Mv env σ oa τ' oa' g s g' s'):Mv env τ oa τ' oa' g s g' s':=
 ⟨fun b o e h=>M.keep b o e fun q=>h (q.imp_right fun q=>q.imp_right fun q=>q.weak L),M.le,fun a o e=>(M.new a o e).imp_right fun q=>q.imp_right fun q=>q.weak L,fun b h=>(M.own b h).imp_right fun q=>q.weak L,M.live⟩
theorem QDx.inn{Q:Flow→QR→Prop}{o:Out}(L:SLe σ τ)(k:QDx G A g₀ s₀ env τ oa g s Q o):QDx G A g₀ s₀ env σ oa g s Q o:=by
 cases o with
 |ret d=>exact k
 |_=>exact fun g' s' oa' S M=>k g' s' oa' S (M.inn L)
theorem QCG.inn{b:List Stmt}{o:Out}(L:SLe σ τ)(h:QCG G N b σ o):QCG G N b τ o:=fun A env g₀ s₀ oa g s Q E R S k=>h A env g₀ s₀ oa g s Q E R (S.weak L) (k.inn L)
theorem QAl.inn{e:Expr}{ρ ρ':PE}{b:Bool}(L:PLe ρ ρ')(h:QAl G N e ρ b):QAl G N e ρ' b:=fun A env g s Q E R V k=>h A env g s Q E R (V.weak L) k
theorem QCj.inn{e:List Expr}{ρ ρ':PE}{b:Bool}(L:PLe ρ ρ')(h:QCj G N e ρ b):QCj G N e ρ' b:=fun A env g s Q E R V k=>h A env g s Q E R (V.weak L) k
theorem QAW.inn{e:Expr}{ρ ρ':PE}{b:D}(L:PLe ρ ρ')(h:QAW G N e ρ b):QAW G N e ρ' b:=fun A env g s Q E R V k=>h A env g s Q E R (V.weak L) k
theorem CLt.inn{t elt:Expr}{ifs:List Expr}{sc:Scope}{ρ ρ':PE}{ds ys:List D}(L:PLe ρ ρ')(h:CLt G N t ifs elt sc ρ ds ys):CLt G N t ifs elt sc ρ' ds ys:=by
 induction h with
 |nil=>exact .nil
 |skip a _ ih=>exact .skip (a.imp fun bs a=>⟨a.1,a.2.inn (L.comp sc bs)⟩) ih
 |take a b _ ih=>exact .take (a.imp fun bs a=>⟨a.1,a.2.inn (L.comp sc bs)⟩) (b.imp fun bs a=>⟨a.1,a.2.inn (L.comp sc bs)⟩) ih
theorem FLt.inn{t:Expr}{b:List Stmt}{ds:List D}{o:Out}(L:SLe σ τ)(h:FLt G N t b ds σ o):FLt G N t b ds τ o:=by
 induction h with
 |nil l=>exact .nil ⟨⟨L.e.sc.trans l.e.sc,fun x d e=>L.e.vs x d (l.e.vs x d e)⟩,fun x=>(L.os x).trans (l.os x)⟩
 |next a b c=>exact .next a (b.inn (L.puts _)) c
 |cont a b c=>exact .cont a (b.inn (L.puts _)) c
 |brk a b=>exact .brk a (b.inn (L.puts _))
 |ret a b=>exact .ret a (b.inn (L.puts _))
theorem WLt.inn{t:Expr}{b:List Stmt}{o:Out}(L:SLe σ τ)(h:WLt G N t b σ o):WLt G N t b τ o:=by
 induction h with
 |done a l=>exact .done (a.inn L.e) ⟨⟨L.e.sc.trans l.e.sc,fun x d e=>L.e.vs x d (l.e.vs x d e)⟩,fun x=>(L.os x).trans (l.os x)⟩
 |next a b c=>exact .next (a.inn L.e) (b.inn L) c
 |cont a b c=>exact .cont (a.inn L.e) (b.inn L) c
 |brk a b=>exact .brk (a.inn L.e) (b.inn L)
 |ret a b=>exact .ret (a.inn L.e) (b.inn L)
end
theorem QBq{σ:PS}:∀{bs:List (Str×D)} {y:Str},(bs.map (·.1)).Nodup→(σ.puts bs).ρ.get y=(match bs.lookup y with|some d=>some d|none=>σ.ρ.get y)∧∀ds,(σ.puts bs).os.lookup y=some ds→y∉bs.map (·.1)∧σ.os.lookup y=some ds
 |[],y,_=>⟨rfl,fun ds h=>⟨nofun,h⟩⟩
 |(x,d)::r,y,hn=>by
  rw [Q0,Q9] at hn
  refine oA (@QBq (σ.put x d) r y hn.2) fun h1 h2=>?_
  refine ⟨?_,fun ds h=>?_⟩
  ·show ((σ.put x d).puts r).ρ.get y=_
   rw [h1,Qt,QCi]
   cases q:y==x with
   |true=>
    have e:=eq_of_beq q
    subst e
    have hnone:r.lookup y=none:=by
     cases q2:r.lookup y with
     |none=>rfl
     |some d'=>exact absurd (QEh q2) hn.1
    rw [hnone,if_pos rfl]
   |false=>
    have hne:y≠x:=by simpa using q
    rw [if_neg hne]
  ·refine oA (h2 ds h) fun h3 h4=>?_
   refine oA (QBa h4) fun h5 h6=>?_
   exact ⟨by simp only [Q0,Qx,not_or];exact ⟨h5,h3⟩,h6⟩
theorem QE8{σ:PS}:∀{bs:List (Str×D)},(σ.puts bs).ρ.sc=σ.ρ.sc
 |[]=>rfl
 |(x,d)::r=>by show ((σ.put x d).puts r).ρ.sc=_;rw [QE8];rfl
section
variable {prog:QV}{w:QX}{A:QT}{R:Result→QR→Prop}{s:QR}
theorem QDK{test body orelse env}
  (turn:Qa (model prog w) A (isTrue test env (eval test env)) (fun b s₂=>
    if b then Qa (model prog w) A (execs body env) (fun f s₃=>match f with
      | .next| .cont=>codeAny (model prog w) A (.whileLoop test body orelse env) R s₃
      | .brk=>R (.ok .next) s₃
      | .ret v=>R (.ok (.ret v)) s₃) (notedBy (model prog w) A env fun e s'=>R (.error e) s') s₂
    else Qa (model prog w) A (execs orelse env) (fun f s₃=>R (.ok f) s₃) (notedBy (model prog w) A env fun e s'=>R (.error e) s') s₂)
    (notedBy (model prog w) A env fun e s'=>R (.error e) s') s):codeAny (model prog w) A (.whileLoop test body orelse env) R s:=by
 refine codeAny_of_tree ?_
 show Qa _ A ((whileTurn test body orelse env).onRaise (fun x=>do noteFrame x env;theTreesLotGoes x)) _ _ s
 refine wpAny_noted ?_
 unfold whileTurn
 refine QB (QL turn (fun b s₂ h₂=>?_) fun _ _ h'=>h')
 cases b with
 |false=>exact QB (QL h₂ (fun f s₃ h₃=>QC h₃) fun _ _ h'=>h')
 |true=>
  refine QB (QL h₂ (fun f s₃ h₃=>?_) fun _ _ h'=>h')
  cases f with
  |next=>exact QC ⟨rfl,h₃⟩
  |cont=>exact QC ⟨rfl,h₃⟩
  |brk=>exact QC h₃
  |ret v=>exact QC h₃
end
section
variable {prog:QV}{w:QX}{G:Gd prog w}{N:Nat}
variable {g₀:Fz}{s₀:QR}{env:Env}{σ:PS}{oa:Str→QW}{g:Fz}{s:QR}
theorem Sv.bound(S:Sv G A g₀ s₀ env σ oa g s){m:Str→Option QS}(hm:s.heap.Ns env.locals m){wr:List QW}(hw:∀b∈wr,g b=none∧s₀.heap.get? b=none∧¬Loose env σ oa b)(hnd':∀b∈wr,∃o,s.heap.get? b=some o∧∀es ep,o.data≠ .dict es ep){bs:List (Str×QS)}{dbs:List (Str×D)}(hb:QDY g bs dbs)
  (hk:∀x∈dbs.map (·.1),σ.ρ.kind x=some .local) {h':Heap} {tk:Nat} (hn':h'.Ns env.locals (ovr bs m)) (keep:∀b o,b≠env.locals→b∉wr→s.heap.get? b=some o→h'.get? b=some o):
  Sv G A g₀ s₀ env (σ.puts dbs) oa g {s with heap:=h',toks:=tk}:=by
 have hnd:=hb.2.2
 have hbn:=hb.1
 have keepG:∀b o o',g b=some o→s.heap.get? b=some o'→h'.get? b=some o':=fun b o o' e h=>keep b o' (fun q=>by rw [q,S.locg] at e;cases e) (fun q=>by rw [(hw b q).1] at e;cases e) h
 have keepC:∀x c,env.cells.lookup x=some c→∀v,s.heap.IsCell c v→h'.IsCell c v:=fun x c hc v hv=>by
  refine oEA (id hv) fun o ho hd=>?_
  exact ⟨o,keep _ _ (Ne.symm (QCX hm hv)) (fun q=>(hw _ q).2.2 (.inr (.inl ⟨x,hc⟩))) ho,hd⟩
 refine {ext:=?_,vw:=?_,locg:=S.locg,loc0:=S.loc0,ns:=⟨_,hn'⟩,cell:=?_,apart:=S.apart,own:=?_,ownA:=?_}
 ·refine oEE S.ext.same fun h1 t1 e1=>?_
  refine ⟨S.ext.heap.to fun b o o' e e'=>keep b o' (fun q=>by rw [q,S.loc0] at e;cases e) (fun q=>by rw [(hw b q).2.1] at e;cases e) e',S.ext.le,S.ext.inn.to keepG,S.ext.new,⟨h',tk,by rw [e1]⟩⟩
 ·refine {kind:=S.vw.kind,sc:=by rw [QE8];exact S.vw.sc,glo:=S.vw.glo,bui:=S.vw.bui,vars:=?_,cel:=?_,inn:=S.vw.inn.to keepG,base:=S.vw.base,fr:=?_}
  rotate_left
  rotate_left
  ·refine S.vw.fr.step fun b o es ep e d=>?_
   by_cases q:b=env.locals
   ·subst q
    revert hn'
    refine QCB fun o' es' ep' e' d' _=>?_
    exact ⟨o',es',ep',e',d'⟩
   ·by_cases q2:b∈wr
    ·refine oEA (hnd' b q2) fun o' e' nd=>?_
     rw [e] at e';cases e'
     exact absurd d (nd es ep)
    ·exact ⟨o,es,ep,keep b o q q2 e,d⟩
  ·intro y dy hy
   have hkk:(σ.puts dbs).ρ.kind y=σ.ρ.kind y:=by unfold PE.kind;rw [QE8]
   rw [(QBq hnd).1] at hy
   rw [hkk]
   cases q:dbs.lookup y with
   |some d'=>
    rw [q] at hy
    cases hy
    refine oEA (hb.get (m:=m) q) fun v hv dv=>?_
    exact ⟨v,dv,.inl ⟨hk y (QEh q),_,hn',hv⟩⟩
   |none=>
    rw [q] at hy
    have hoff:y∉bs.map (·.1):=by
     rw [hbn]
     intro hmem
     refine oE (QBY hmem) fun c hc=>?_
     rw [q] at hc;cases hc
    refine oEA (S.vw.vars y dy hy) fun u hu hc=>?_
    refine ⟨u,hu,?_⟩
    refine Or.elim hc (QCx fun h1 m₁ h2 h3=>?_) (QCx fun h1 c h2 h3=>?_)
    ·exact .inl ⟨h1,_,hn',by rw [QGB hoff,QCZ hm h2];exact h3⟩
    ·exact .inr ⟨h1,c,h2,keepC y c h2 _ h3⟩
  ·intro x hx
   refine S.vw.cel x ?_
   unfold PE.kind at hx⊢
   rwa [QE8] at hx
 ·intro y c hc
  refine QEV (S.cell y c hc) fun h1 h2 u h3=>?_
  exact ⟨h1,h2,u,keepC y c hc _ h3⟩
 ·intro y ds hy
  refine oA ((QBq hnd).2 ds hy) fun hoff hy=>?_
  refine QBC (S.own y ds hy) fun h1 h2 h3 ζ3 vs h6 h7=>?_
  obtain ⟨m₁,h4,h5⟩:=ζ3
  refine oE (id h6) fun n ho=>?_
  refine ⟨by unfold PE.kind;rw [QE8];exact h1,h2,h3,⟨_,hn',by rw [QGB (by rw [hbn];exact hoff),QCZ hm h4];exact h5⟩,vs,⟨n,keep _ _ (Ne.symm (QCa hm h6)) (fun q=>(hw _ q).2.2 (.inr (.inr ⟨y,ds,hy,rfl⟩))) ho⟩,h7⟩
 ·intro y z dy dz hy hz e
  exact S.ownA y z dy dz ((QBq hnd).2 _ hy).2 ((QBq hnd).2 _ hz).2 e
theorem QTy{t:Expr}{body:List Stmt}{σ:PS}{o:Out}(h:WLt G N t body σ o):∀{A:QT} {env:Env} {g₀:Fz} {s₀:QR} {oa:Str→QW} {g:Fz} {s:QR}
  {R:Result→QR→Prop},Rm A N→Sv G A g₀ s₀ env σ oa g s→QDx G A g₀ s₀ env σ oa g s (fun f s'=>R (.ok f) s') o→codeAny (model prog w) A (.whileLoop t body [] env) R s:=by
 induction h with
 |done ht L=>
  intro A env g₀ s₀ oa g s R hR S k
  refine QDK (ht A env g s _ _ hR S.vw fun g1 s1 x1=>?_)
  rw [if_neg QAS]
  exact QG (k _ _ _ ((S.up x1).weak L) ((Mv.ofExt x1).out L))
 |next ht hb _ ih=>
  intro A env g₀ s₀ oa g s R hR S k
  refine QDK (ht A env g s _ _ hR S.vw fun g1 s1 x1=>?_)
  rw [if_pos rfl]
  exact hb A env g₀ s₀ oa g1 s1 _ _ hR (S.up x1) fun g2 s2 oa2 S2 M2=>ih hR S2 ((k.via (.ofExt x1)).via M2)
 |cont ht hb _ ih=>
  intro A env g₀ s₀ oa g s R hR S k
  refine QDK (ht A env g s _ _ hR S.vw fun g1 s1 x1=>?_)
  rw [if_pos rfl]
  exact hb A env g₀ s₀ oa g1 s1 _ _ hR (S.up x1) fun g2 s2 oa2 S2 M2=>ih hR S2 ((k.via (.ofExt x1)).via M2)
 |brk ht hb=>
  intro A env g₀ s₀ oa g s R hR S k
  refine QDK (ht A env g s _ _ hR S.vw fun g1 s1 x1=>?_)
  rw [if_pos rfl]
  exact hb A env g₀ s₀ oa g1 s1 _ _ hR (S.up x1) fun g2 s2 oa2 S2 M2=>k _ _ _ S2 ((Mv.ofExt x1).trans M2)
 |ret ht hb=>
  intro A env g₀ s₀ oa g s R hR S k
  refine QDK (ht A env g s _ _ hR S.vw fun g1 s1 x1=>?_)
  rw [if_pos rfl]
  exact hb A env g₀ s₀ oa g1 s1 _ _ hR (S.up x1) fun g2 s2 v2 x2 d2=>k _ _ _ x2 d2
inductive FI (G:Gd prog w)(A:QT)(g₀:Fz)(s₀:QR)(env:Env)(σ:PS)(oa:Str→QW)(g:Fz)(s:QR)(n:Nat)(wr:List QW)(gi:Fz)(Wst:Nat→Heap→Prop)(J:Nat→PS→(Str→QW)→Prop)(j:Nat)(s':QR):Prop
 |mk (i:Nat) (τ:PS) (oa':Str→QW) (g':Fz):j=n+1-i→i≤n→J i τ oa'→Sv G A g₀ s₀ env τ oa' g' s'→Mv env σ oa τ oa' g s g' s'→FLe gi g'→Wst i s'.heap→(∀b∈wr,g' b=none∧¬Own τ oa' b)→FI G A g₀ s₀ env σ oa g s n wr gi Wst J j s'
theorem QS0{target:Expr}{body:List Stmt}{n:Nat}{I:QW}{wr:List QW}{Wst:Nat→Heap→Prop}{A:QT}{env:Env}{g₀:Fz}{s₀:QR}{σ:PS}{oa:Str→QW}{g gi:Fz}{s si:QR}{R:Result→QR→Prop}
  (J:Nat→PS→(Str→QW)→Prop) (dat:Nat→D→Prop) (j0:J 0 σ oa) (S:Sv G A g₀ s₀ env σ oa g s) (xi:Ext g s gi si) (w0:Wst 0 si.heap)
  (off:∀b∈wr,gi b=none∧s.heap.get? b=none)
  (live:∀i h,Wst i h→∀b∈wr,∃o,h.get? b=some o∧∀es ep,o.data≠ .dict es ep)
  (wframe:∀i h h',Wst i h→FIn gi h→FIn gi h'→(∀b∈wr,∀o,h.get? b=some o→h'.get? b=some o)→Wst i h')
  (lwAt:∀i τ oa' g' s',FLe gi g'→Sv G A g₀ s₀ env τ oa' g' s'→J i τ oa'→Wst i s'.heap→∃fp Bd St,Lw prog w A target I fp wr n Bd St∧St i s'.heap∧env.locals∉fp∧(∀j h',St j h'→Wst j h')∧(∀bs,i<n→Bd i bs→∃d dbs,dat i d∧QAe target d=some dbs∧QDY g' bs dbs))
  (hl:∀x∈targetNames target,σ.ρ.kind x=some .local)
  (hb:∀i τ oa' d dbs g' s',i<n→FLe gi g'→dat i d→QAe target d=some dbs→J i τ oa'→Sv G A g₀ s₀ env (τ.puts dbs) oa' g' s'→Mv env σ oa (τ.puts dbs) oa' g s g' s'→∀(Q:Flow→QR→Prop) (E':QS→QR→Prop),
   (∀f τ' oa3 g'' s'',(f= .next∨f= .cont)→J (i+1) τ' oa3→Sv G A g₀ s₀ env τ' oa3 g'' s''→Mv env (τ.puts dbs) oa' τ' oa3 g' s' g'' s''→Q f s'')→(∀s'',R (.ok .next) s''→Q .brk s'')→(∀v s'',R (.ok (.ret v)) s''→Q (.ret v) s'')→Qa (model prog w) A (execs body env) Q E' s')
  (k:∀τ g' s' oa',J n τ oa'→Sv G A g₀ s₀ env τ oa' g' s'→Mv env σ oa τ oa' g s g' s'→R (.ok .next) s'):
  codeAny (model prog w) A (.forLoop target (.ref I) body [] env) R si:=by
 have Si:=S.up xi
 have hoL:∃oL,s.heap.get? env.locals=some oL:=rE (fun _=>QCg fun oL _ _ h _=>⟨oL,h⟩) S.ns
 have offS:∀b o,s.heap.get? b=some o→b∉wr:=fun b o e q=>by rw [(off b q).2] at e;cases e
 have wrL:∀b∈wr,b≠env.locals:=fun b hb q=>rE (fun o e=>offS _ o e (q▸hb)) hoL
 have wrC:∀b∈wr,∀x,env.cells.lookup x≠some b:=fun b hb x hx=>QEV (S.cell x b hx) fun _ _ _=>rEA fun o' ho' _=>offS _ o' ho' hb
 have wrOwn:∀b∈wr,gi b=none∧¬Own σ oa b:=fun b hb=>⟨(off b hb).1,QDe fun x dx hx e=>QBC (S.own x dx hx) fun _ _ _ _ _ q _=>rE (fun nn ho=>offS _ _ ho (e▸hb)) q⟩
 refine codeAny_forLoop_any (FI G A g₀ s₀ env σ oa g s n wr gi Wst J) ?_ (n+1) (.mk 0 σ oa gi rfl (Ql _) j0 Si (.ofExt xi) (.refl _) w0 wrOwn)
 refine fun j s' hI=>QJL fun X kX=>?_
 cases hI with
 |mk i τ oa' g' ej hi hJ S' M' lg st' hw'=>
 refine oE S'.ns fun m hm=>?_
 have hwL:∀b∈wr,g' b=none∧s₀.heap.get? b=none∧¬Loose env τ oa' b:=fun b hb=>⟨(hw' b hb).1,S.ext.heap.none (off b hb).2,fun q=>q.elim (wrL b hb) fun q=>q.elim (rE fun x q=>wrC b hb x q) (hw' b hb).2⟩
 have turn:∀bs dbs h₂ tk₂,QDY g' bs dbs→(∀x∈dbs.map (·.1),τ.ρ.kind x=some .local)→h₂.Ns env.locals (ovr bs m)→(∀b o,b≠env.locals→b∉wr→s'.heap.get? b=some o→h₂.get? b=some o)→
   Sv G A g₀ s₀ env (τ.puts dbs) oa' g' {s' with heap:=h₂,toks:=tk₂}∧Mv env σ oa (τ.puts dbs) oa' g s g' {s' with heap:=h₂,toks:=tk₂}:=fun bs dbs h₂ tk₂ hd hk hn₂ hk₂=>
  ⟨S'.bound hm hwL (live _ _ st') hd hk hn₂ hk₂,{
   keep:=fun b o e hl=>oEA (M'.keep b o e hl) fun o' e' sm=>⟨o',hk₂ b o' (fun q=>hl (.inl q)) (offS b o e) e',sm⟩
   le:=M'.le
   new:=M'.new
   own:=fun b=>QDe fun x dx hx e=>M'.own b ⟨x,dx,((QBq hd.2.2).2 _ hx).2,e⟩
   live:=fun b o e=>oE (M'.live b o e) fun o' e'=>(Classical.em (b=env.locals)).elim (fun q=>QCg (fun o' _ _ ho' _=>⟨o',q▸ho'⟩) hn₂) fun q=>⟨o',hk₂ b o' q (offS b o e) e'⟩}⟩
 refine QGw (lwAt i τ oa' g' s' lg S' hJ st') fun fp Bd St L hSt=>rAA fun hLf hW hBd=>?_
 by_cases hlt:i<n
 ·refine kX (L.item i env m s' _ (fun _ s₂=>_) _ hlt hSt hm hLf S'.vw.kind (fun x hx=>by rw [S.kindOf];exact hl x hx) fun bs h₂ tk₂ hbd st₂ hn₂ hk₂=>QJL fun Y kY=>?_)
  refine QBO (hBd bs hlt hbd) fun d dbs hdi hbt hbden=>?_
  refine oA (turn bs dbs h₂ tk₂ hbden (fun x hx=>by rw [S.sameKind S'];exact hl x (by rw [←bindNames hbt];exact hx)) hn₂ hk₂) fun S₂ M₂=>?_
  have nl:∀b∈wr,¬Loose env (τ.puts dbs) oa' b:=fun b hb q=>q.elim (wrL b hb) fun q=>q.elim (rE fun x q=>wrC b hb x q) (QDe fun x dx hx e=>(hw' b hb).2 ⟨x,dx,((QBq hbden.2.2).2 _ hx).2,e⟩)
  have wst₂:=hW _ _ st₂
  have step:∀τ' oa3 g3 s3,J (i+1) τ' oa3→Sv G A g₀ s₀ env τ' oa3 g3 s3→Mv env (τ.puts dbs) oa' τ' oa3 g' {s' with heap:=h₂,toks:=tk₂} g3 s3→∃m',m'<j∧FI G A g₀ s₀ env σ oa g s n wr gi Wst J m' s3:=fun τ' oa3 g3 s3 hJ' S3 M3=>
   ⟨n+1-(i+1),ej▸Nat.sub_lt_sub_left (Nat.lt_succ_of_le hi) (Qn i),.mk (i+1) τ' oa3 g3 rfl hlt hJ' S3 (M₂.trans M3) (lg.trans M3.le)
    (wframe _ _ _ wst₂ (fun b o e=>S₂.vw.inn b o (lg b o e)) (fun b o e=>S3.vw.inn b o (M3.le b o (lg b o e))) fun b hb o e=>oEA (live _ _ wst₂ b hb) fun on en nd=>oEA (M3.keep b o e (nl b hb)) fun o'' e'' sm=>by
     rw [e] at en;cases en;rw [sm.exact nd] at e'';exact e'')
    fun b hb=>oEA (live _ _ wst₂ b hb) fun ob hob _=>⟨by
     cases q:g3 b with
     |none=>rfl
     |some o'=>exact (M3.new _ _ q).elim (fun e=>by rw [(hw' b hb).1] at e;cases e) fun e=>e.elim (fun e=>absurd (hob.symm.trans e) (fun e=>by cases e)) fun e=>(nl b hb (.inr (.inr e))).elim,
     fun q=>(M3.own b q).elim (fun e=>absurd (hob.symm.trans e) (fun e=>by cases e)) fun e=>nl b hb (.inr (.inr e))⟩⟩
  refine kY (hb i τ oa' d dbs g' _ hlt lg hdi hbt hJ S₂ M₂ _ _ (fun f τ' oa3 g3 s3 hf hJ' S3 M3=>?_) (fun _ h=>h) fun _ _ h=>h)
  rcases hf with rfl|rfl
  ·exact step _ _ _ _ hJ' S3 M3
  ·exact step _ _ _ _ hJ' S3 M3
 ·have hin:i=n:=Qk hi (Nat.le_of_not_lt hlt)
  refine kX (L.done _ _ _ (hin▸hSt) fun h₂ tk₂ hk₂=>QG (oA (turn [] [] h₂ tk₂ ⟨rfl,.nil,.nil⟩ (fun x hx=>nomatch hx) (hm.at' fun o e=>hk₂ _ o (fun q=>wrL _ q rfl) e) fun b o _ hb e=>hk₂ b o hb e) fun S₂ M₂=>k τ _ _ _ (hin▸hJ) S₂ M₂))
theorem QTx{target:Expr}{body:List Stmt}{σ:PS}{o:Out}{ds:List D}(h:FLt G N target body ds σ o){A:QT}{env:Env}{g₀:Fz}{s₀:QR}{oa:Str→QW}{g gi:Fz}{s si:QR}
  {R:Result→QR→Prop} {I:QW} {fp wr:List QW} {Bd:Nat→List (Str×QS)→Prop} {St:Nat→Heap→Prop} (hR:Rm A N) (S:Sv G A g₀ s₀ env σ oa g s) (xi:Ext g s gi si) (W:QRh prog w A target I fp wr ds Bd St s gi si)
  (hl:∀x∈targetNames target,σ.ρ.kind x=some .local) (k:QDx G A g₀ s₀ env σ oa g s (fun f s'=>R (.ok f) s') o):codeAny (model prog w) A (.forLoop target (.ref I) body [] env) R si:=by
 have hLf:env.locals∉fp:=fun hm=>(W.frz _ hm).elim (fun q=>rE (fun _=>QCg fun oL _ _ h _=>by rw [(W.off _ q).2] at h;cases h) S.ns) (rE fun o' q=>by rw [(S.up xi).locg] at q;cases q)
 refine QS0 (Wst:=St) (fun i τ _=>FLt G N target body (ds.drop i) τ o) (fun i d=>ds[i]? =some d) h S xi W.st W.off (fun i h st=>W.ndw st) (fun i h h' st f1 f2 kw=>W.lw.frame _ _ _ st fun b hb o e=>?_)
  (fun i τ oa' g' s' lg S' hJ st=>⟨fp,Bd,St,W.lw,st,hLf,fun _ _ h=>h,fun bs hi hbd=>QFC (fun d dbs h1 h2 h3=>⟨d,dbs,h1,h2,h3.mono lg⟩) (W.bd i bs hi hbd)⟩) hl (fun i τ oa' d dbs g' s' hi lg hd hbt hp S₂ M₂ Q E' hN hB hV=>?_) fun τ g' s' oa' hp S' M'=>?_
 ·exact oEA (W.nd _ _ st b hb) fun on en nd=>(W.frz b hb).elim (fun q=>kw b q o e) (rE fun o' q=>oEA (f1 _ _ q) fun o2 e2 sm2=>oEA (f2 _ _ q) fun o3 e3 sm3=>by
   rw [e] at en e2;cases en;cases e2
   rw [QJ4 sm2 sm3 nd] at e3;exact e3)
 ·rw [QFy hd] at hp
  cases hp with
  |next b1 hb hp=>rw [hbt] at b1;cases b1;exact hb A env g₀ s₀ oa' g' _ _ _ hR S₂ fun g3 s3 oa3 S3 M3=>hN _ _ _ _ _ (.inl rfl) hp S3 M3
  |cont b1 hb hp=>rw [hbt] at b1;cases b1;exact hb A env g₀ s₀ oa' g' _ _ _ hR S₂ fun g3 s3 oa3 S3 M3=>hN _ _ _ _ _ (.inr rfl) hp S3 M3
  |brk b1 hb=>rw [hbt] at b1;cases b1;exact hb A env g₀ s₀ oa' g' _ _ _ hR S₂ fun g3 s3 oa3 S3 M3=>hB _ (k _ _ _ S3 (M₂.trans M3))
  |ret b1 hb=>rw [hbt] at b1;cases b1;exact hb A env g₀ s₀ oa' g' _ _ _ hR S₂ fun g3 s3 v3 x3 d3=>hV _ _ (k _ _ _ x3 d3)
 ·rw [List.drop_length] at hp
  cases hp with
  |nil L=>exact k _ _ _ (S'.weak L) (Mv.out L M')
end
theorem QMl{b:Bool}(h:(!b)=true):b=false:=by cases b with|true=>exact absurd h QAS|false=>rfl
theorem QPu{i:Expr}{x:Option Expr×Option Expr×Option Expr}(h:sliceOf i=some x):∃p,i= .Slice x.1 x.2.1 x.2.2 p:=by
 cases i<;>first|exact QAV h|(cases h;exact ⟨_,rfl⟩)
theorem QLK{e:Expr}(h:isSet e=false)(env:Env)(x:QS):foldedSetIterable e env x=pure x:=by
 cases e<;>first|rfl|exact Bool.noConfusion h
theorem QCE{t:Expr}{x:Str}(h:nameOf t=some x):∃p,t= .Name x p:=by
 cases t<;>first|exact QAV h|(cases h;exact ⟨_,rfl⟩)
theorem QKh{t:Expr}(h:isName t=true):∃x p,t= .Name x p:=by
 cases t<;>first|exact ⟨_,_,rfl⟩|exact absurd h QAS
theorem QFq{t:Expr}{x:Expr×List Expr×Pos}(h:QGb t=some x):t= .Call x.1 x.2.1 [] x.2.2:=by
 cases t with
 |Call f a k p=>cases k with|nil=>cases h;rfl|cons=>exact QAV h
 |_=>exact QAV h
theorem QIA{t:Expr}{x:Expr×Str×Pos}(h:QLC t=some x):t= .Attribute x.1 x.2.1 x.2.2:=by
 cases t<;>first|exact QAV h|(cases h;rfl)
theorem QPC{t:Expr}(h:QQy t=true):∃x n p,t= .Constant (.str x) n p:=by
 cases t with
 |Constant c n p=>cases c<;>first|exact absurd h QAS|exact ⟨_,_,_,rfl⟩
 |_=>exact absurd h QAS
theorem QTh{g:Comprehension}(h:g.is_async=0):g=⟨g.target,g.iter,g.ifs,0⟩:=by cases g;cases h;rfl
theorem QMG{ρ:PE}{n f:Str}{es:List Expr}{X:Prop}(h:gk ρ n f es=true)(k:ρ.kind f=some .globalImplicit→(f==n)=true→QAh es=true→X):X:=
 rA (fun h c=>rA (fun a b=>k (of_decide_eq_true a) b c) (QBi h)) (QBi h)
theorem QTu{ρ:PE}{x:Str}(h:isG ρ x=true):ρ.kind x=some .globalImplicit:=of_decide_eq_true h
section
variable {prog:QV}{w:QX}{G:Gd prog w}{N:Nat}{F:QC9}{C:QCl}
theorem test_last{M:Model}{A:QT}{E:QS→QR→Prop}{s:QR}{pos:Pos}{a:QS}{op:CmpOp}{r:Sem QS}{Q:Bool→QR→Prop}
  (h:Qa M A r (fun b s₁=>Qa M A (compareOp op a b) (fun c s₂=>Qa M A (truthy c) Q E s₂) E s₁) E s):Qa M A (testChain pos a [op] [r]) Q E s:=by
 show Qa M A (do
  let rv←holding [a] r
  standAt pos
  let c←operate [a,rv] (compareOp op a rv)
  holding [c] (truthy c)) Q E s
 exact QB (QF (QL h (fun b s₁ h₁=>QB (wpAny_standAt (QB (wpAny_operate' (QL h₁ (fun c s₂ h₂=>QF h₂) fun _ _ x=>x))))) fun _ _ x=>x))
theorem R8{A:QT}(hN:1≤N)(R:Rm A N):A.units+8<cLine:=Qj (Nat.add_le_add_left (Nat.mul_le_mul_left 8 hN) _) R.uni
variable {r:Cm→Prop}(H:∀c,r c→c.ok G N)
include H
theorem QBm{e:Expr}{ρ:PE}{os:OL}{k:D→OL→Prop}{X:Prop}(h:r (.ev e ρ os k))(f:∀d o,QAW G N e ρ d→k d o→X):X:=QDe (fun d o e=>f d o e.1) (H _ h)
theorem QGr{e:Expr}{ρ:PE}{os:OL}{k:Bool→OL→Prop}{X:Prop}(h:r (.te e ρ os k))(f:∀d o,QAl G N e ρ d→k d o→X):X:=QDe f (H _ h)
theorem QQ4{t e:Expr}{ρ:PE}{os:OL}{k:List D→OL→Prop}{X:Prop}(h:r (.it t e ρ os k))(f:∀d o,QD4 G N t e ρ d→(∀env x,foldedSetIterable e env x=pure x)→d.length≤1000→k d o→X):X:=QDe (fun d o e=>f d o e.1 e.2.1 e.2.2) (H _ h)
theorem QLf{e:List Stmt}{σ:PS}{os:OL}{k:Out→OL→Prop}{X:Prop}(h:r (.sts e σ os k))(f:∀d o,QCG G N e σ d→k d o→X):X:=QDe f (H _ h)
theorem QFS{e:Expr}{ρ:PE}{os:OL}{k:List D→OL→Prop}{X:Prop}(h:r (.ev e ρ os fun x os=>om (asL x) fun xs=>k xs os))(f:∀d o,QAW G N e ρ (.list d)→k d o→X):X:=
 QBm H h fun _ o e h=>QBM h fun d q h=>f d o (QEk q▸e) h
theorem QK0{e:Expr}{ρ:PE}{os:OL}{k:Int→OL→Prop}{X:Prop}(h:r (.ev e ρ os fun x os=>om (asI x) fun xs=>k xs os))(f:∀d o,QAW G N e ρ (.int d)→k d o→X):X:=
 QBm H h fun _ o e h=>QBM h fun d q h=>f d o (QFi q▸e) h
theorem QFG{ρ:PE}:∀{es os k} {X:Prop},QIh (fun e os k=>r (.ev e ρ os k)) es os k→(∀ds o,L2 (fun e d=>QAW G N e ρ d) es ds→k ds o→X)→X:=by
 intro es
 induction es with
 |nil=>exact fun h f=>f [] _ rfl h
 |cons e t ih=>exact fun h f=>QBm H h fun d _ h1 h=>ih h fun ds o h2 h=>f (d::ds) o ⟨d,ds,rfl,h1,h2⟩ h
theorem QRP{ρ:PE}:∀{kws:List Keyword} {os k} {X:Prop},QIh (fun e os k=>r (.ev e ρ os k)) (kws.map (·.value)) os k→(∀ds o,L2 (fun e d=>QAW G N e.value ρ d) kws ds→k ds o→X)→X:=by
 intro es
 induction es with
 |nil=>exact fun h f=>f [] _ rfl h
 |cons e t ih=>exact fun h f=>QBm H h fun d _ h1 h=>ih h fun ds o h2 h=>f (d::ds) o ⟨d,ds,rfl,h1,h2⟩ h
theorem QIu{ρ:PE}{o:Option Expr}{os:OL}{k:D→OL→Prop}{X:Prop}(h:QQo (fun e os k=>r (.ev e ρ os k)) o os k)(f:∀d o',QJq G N o ρ d→k d o'→X):X:=by
 cases o with
 |none=>exact f .none os rfl h
 |some e=>exact QBm H h f
theorem QR1(hF:FOk G N F)(hN:10≤N){f:Str}{fp p:Pos}{args:List Expr}{kws:List Keyword}{ρ:PE}{os:OL}{k:D→OL→Prop}{X:Prop}(hk:ρ.kind f=some .globalImplicit)(h1:QAh args=true)(h2:plainName f=true)
  (h:qCl F r f args kws ρ os k) (K:∀d o,QAW G N (.Call (.Name f fp) args kws p) ρ d→k d o→X):X:=by
 refine QDZ h (fun sem hf h=>QFG H h fun ds o1 e1 h=>QBM h fun ks e2 h=>QRP H h fun vs o3 e3 h=>QC1 h fun v o4 e4 h=>K v o4 (QNm hF hk h1 hf e1 e2 e3 e4) h) fun h=>QBr h fun hw h=>?_
 refine QEY h (fun hd h=>QBM h fun e q1 h=>QBM h fun x q2 h=>QBM h fun z q3 h=>QBM h fun y q4 h=>QBr h fun c h=>QFS H h fun xs o1 e1 h=>QFS H h fun ys o2 e2 h=>QC1 h fun v o3 e3 h=>?_)
  fun hd h=>QFG H h fun ds o1 e1 h=>QOQ h fun v o2 e2 h=>K v o2 (List.isEmpty_iff.mp hw▸QDJ h2 hk h1 e1 e2 hN) h
 refine oE (QCE q3) fun zp q3=>QMG c fun c1 c2 c3=>oEA (Option.map_eq_some_iff.mp e3.2) fun l q w=>K v o3 ?_ h
 rw [QBT q1,QFq q2,QG0 q4,q3,←w,List.isEmpty_iff.mp hw]
 exact QMe hN hd c2 hk c1 c3 e1 e2 e3.1 q
theorem QOE{elt:Expr}{gs:List Comprehension}{scope:Scope}{pos:Pos}{ρ:PE}{os:OL}{k:D→OL→Prop}
  (h:om (one gs) fun g=>qb (decide (g.is_async=0)&&QJT ρ scope g.target) (r (.it g.target g.iter ρ os fun ds os=>ns os fun sh os=>okE sh ρ∧nl os fun ys os=>CLt G N g.target g.ifs elt scope sh.ρ ds ys∧k (.list ys) os))):
  (Cm.ev (.ListComp elt gs scope pos) ρ os k).ok G N:=by
 refine QBM h fun g q h=>QBr h fun c h=>oA (QBi c) fun c0 c=>QQ4 H h fun ds o1 t1 t2 t3 h=>QC1 h fun sh o1 hs h=>QC1 h fun ys o2 hc h=>?_
 rw [QBT q,QTh (of_decide_eq_true c0)]
 have hT:QFY G N elt g.target g.iter g.ifs scope ρ ys:=⟨ds,QMt c,t2,t1,hc.inn (.of hs),t3⟩
 exact ⟨_,o2,⟨QGY hT,fun _=>⟨_,_,_,_,_,_,_,rfl,rfl,hT⟩⟩,h⟩
omit H in
theorem QEs{e:Expr}{ρ:PE}{os:OL}{k:D→OL→Prop}{d:D}{o:OL}(c:QFT e=false)(h1:QAW G N e ρ d)(h:k d o):(Cm.ev e ρ os k).ok G N:=⟨d,o,.of c h1,h⟩
theorem QSJ(hF:FOk G N F)(hC:COk G C)(hN:10≤N){e:Expr}{ρ:PE}{os:OL}{k:D→OL→Prop}(h:qEv G N F C r e ρ os k):(Cm.ev e ρ os k).ok G N:=by
 cases e with
 |Constant c q p=>exact QBM h fun d e h=>QEs rfl (constOk e) h
 |Name x p=>exact QBr h fun c h=>QBM h fun d e h=>QEs rfl (QG5 hC c e) h
 |BinOp a op b p=>exact QBm H h fun x o1 e1 h=>QBm H h fun y o2 e2 h=>QQX h fun v o3 e3 h=>QEs rfl (QPk e1 e2 e3) h
 |UnaryOp op x p=>cases op with
  |USub=>exact QK0 H h fun d o1 e1 h=>QEs rfl (QTI e1) h
  |Not=>exact QBm H h fun d o1 e1 h=>QK1 h fun b o2 e2 h=>QEs rfl (QTC e1 e2) h
  |_=>exact False.elim h
 |BoolOp op xs p=>
  refine QBM h fun x q h=>QBm H h fun d o1 e1 h=>QK1 h fun b o2 e2 h=>?_
  replace q:=QG0 q
  subst q
  cases op<;>cases b<;>first|exact QEs rfl (QKS e1 e2 (id rfl)) h|exact QBm H h fun v o3 e3 h=>QEs rfl (QKS e1 e2 e3) h
 |IfExp t b o p=>
  refine QGr H h fun c o1 e1 h=>?_
  cases c<;>exact QBm H h fun v o2 e2 h=>QEs rfl (QQj e1 e2) h
 |Compare a ops bs p=>
  refine QBM h fun op q1 h=>QBM h fun b q2 h=>QBr h fun c h=>QBm H h fun x o1 e1 h=>QBm H h fun y o2 e2 h=>QKz h fun v o3 e3 h=>?_
  rw [QBT q1,QBT q2]
  exact QEs rfl (QK9 (QMl c) e1 e2 e3 (Qd (by decide) hN)) h
 |Call f args kws p=>
  refine QDZ h (fun f q h=>QBr h fun c h=>?_) fun h=>QBM h fun x q h=>QBr h fun c h=>?_
  ·refine oE (QCE q) fun fp q=>oA (QBi c) fun c c3=>oA (QBi c) fun c1 c2=>?_
   rw [q]
   exact QR1 H hF hN (QTu c1) c2 c3 h fun _ _=>QEs rfl
  ·refine oA (QBi c) fun c c4=>oA (QBi c) fun c c3=>oA (QBi c) fun c c2=>oA (QBi c) fun c0 c1=>?_
   rw [QIA q,List.isEmpty_iff.mp c0]
   exact QBm H h fun d o1 e1 h=>QFG H h fun ds o2 e2 h=>QC1 h fun v o3 e3 h=>QEs rfl (QLb c1 (of_decide_eq_true c2) c3 c4 e1 e2 e3) h
 |Subscript v i p=>
  refine QBm H h fun d o1 e1 h=>QDZ h (fun x q h=>QIu H h fun l o2 e2 h=>QIu H h fun hi o3 e3 h=>QIu H h fun s o4 e4 h=>QC1 h fun w o5 e5 h=>?_)
   fun h=>QBm H h fun j o2 e2 h=>QC1 h fun w o3 e3 h=>QEs rfl (QMH e1 e2 e3) h
  refine oE (QPu q) fun sp q=>?_
  rw [q]
  exact QEs rfl (QGk e1 e2 e3 e4 e5) h
 |List es p=>exact QBr h fun c h=>oA (QBi c) fun c1 c2=>QFG H h fun ds o1 e1 h=>QEs rfl (QRH e1 c1 (of_decide_eq_true c2)) h
 |Tuple es q p=>exact QBr h fun c h=>oA (QBi c) fun c1 c2=>QFG H h fun ds o1 e1 h=>QEs rfl (QQw e1 c1 (of_decide_eq_true c2)) h
 |ListComp elt gs scope p=>exact QOE H h
 |_=>exact False.elim h
end
theorem QOu:QJt=("extend":Str):=by decide+kernel
theorem QPN:QKI=("append":Str):=by decide+kernel
set_option tactic.hygienic true in
theorem QPK{v:Expr}(h:QQ6 v=true):∃p,v= .List [] p:=by
 cases v<;>first|exact absurd h QAS|(rename_i es p;cases es with|nil=>exact ⟨p,rfl⟩|cons=>exact absurd h QAS)
section
variable {prog:QV}{w:QX}{G:Gd prog w}{N:Nat}
theorem QCL{env:Env}(h:env.scope.kind= .function):interactive env=false:=by
 unfold interactive;rw [h];rfl
theorem ownStep{σ:PS}{x:Str}{xp lp p:Pos}(hk:σ.ρ.kind x=some .local):QC7 G N (.Assign [.Name x xp] (.List [] lp) p) σ (.next (σ.newOwn x)):=by
 intro A env g₀ s₀ oa g s Q E R S k
 refine wpAny_Assign_Name (wpAny_List (QK ⟨Ql _,?_⟩)) (QA6 rfl rfl _ _ _)
 exact S.newOwn hk fun h' tk oa' S' M'=>k _ _ _ S' M'
theorem Sv.storable{A:QT}{g₀:Fz}{s₀:QR}{env:Env}{σ σ':PS}{oa oa':Str→QW}{g g':Fz}{s s':QR}(S:Sv G A g₀ s₀ env σ oa g s)(S':Sv G A g₀ s₀ env σ' oa' g' s'){x:Str}(h:storable σ x=true):KQ.storable σ' x=true:=by
 unfold KQ.storable at h⊢
 rw [S.sameKind S' x];exact h
theorem QK3{σ:PS}{x:Str}{xp p:Pos}{v:Expr}{d:D}(h1:storable σ x=true)(h2:QFe v=false)(h:EvX G N v (QH5 σ x).ρ d):QC7 G N (.Assign [.Name x xp] v p) σ (.next ((QH5 σ x).put x d)):=by
 by_cases ho:(σ.os.lookup x).isSome=true
 ·unfold QH5 at h⊢
  rw [if_pos ho] at h⊢
  intro A env g₀ s₀ oa g s Q E R S k
  refine oEA S.freeze fun g' S' M'=>?_
  exact QCJ (S.storable S' h1) h2 h A env g₀ s₀ oa g' s Q E R S' (QDx.via (o:= .next _) k M')
 ·unfold QH5 at h⊢
  rw [if_neg ho] at h⊢
  exact QCJ h1 h2 h
theorem QI5{σ:PS}{o:Out}{t:Expr}{b oe:List Stmt}{p:Pos}{c:Bool}(ht:QAl G N t σ.ρ c)(h:QCG G N (if c=true then b else oe) σ o):QC7 G N (.If t b oe p) σ o:=by
 intro A env g₀ s₀ oa g s Q E R S k
 refine wpAny_If (ht A env g s _ E R S.vw fun g1 s1 x1=>?_)
 cases c<;>exact h A env g₀ s₀ oa g1 s1 Q E R (S.up x1) (k.via (.ofExt x1))
theorem QE4{σ:PS}{e:Expr}{d:D}{p:Pos}(h:QAW G N e σ.freeze.ρ d):QC7 G N (.Return (some e) p) σ (.ret d):=by
 intro A env g₀ s₀ oa g s Q E R S k
 refine oEA S.freeze fun g' S' M'=>?_
 exact wpAny_Return_some (h A env g' s _ E R S'.vw fun g1 s1 v1 x1 d1=>k _ _ _ (S'.ext.trans x1) d1)
theorem QMR{σ:PS}{o:Out}{t i:Expr}{body:List Stmt}{p:Pos}{ds:List D}(hl:QKF σ (targetNames t)=true)(h1:QD4 G N t i σ.ρ ds)(h2:∀env x,foldedSetIterable i env x=pure x)(h:FLt G N t body ds σ o):QC7 G N (.For t i body [] p) σ o:=by
 intro A env g₀ s₀ oa g s Q E R S k
 refine wpAny_For (h1 A env g s _ E R S.vw fun g1 s1 I fp wr Bd St x1 W=>?_) (h2 env)
 exact QTx h R S x1 W (fun x hx=>eq_of_beq (List.all_eq_true.mp hl x hx)) k
theorem QQs{σ:PS}{x m:Str}{xp ap cp p:Pos}{e:Expr}{ds:List D}{d:D}(hp:plainName x=true)(hs:QAh [e]=true)(hline:(ap.endLine==cp.line)=true)(hds:σ.os.lookup x=some ds)(hd:QAW G N e σ.ρ d)(id:String)(τ:PS)(hsl:Slot "list" m id)(hty:typeOf (.builtin id)=pure (.type "method_descriptor"))
  (hcall:∀(A:QT) (env:Env) (g₀:Fz) (s₀:QR) (oa:Str→QW) (g:Fz) (s:QR) (v:QS) (Q E:QS→QR→Prop),Sv G A g₀ s₀ env σ oa g s→Den g v d→
   (∀h',Sv G A g₀ s₀ env τ oa g {s with heap:=h'}→Mv env σ oa τ oa g s g {s with heap:=h'}→Q .none {s with heap:=h'})→Qa (model prog w) A (call (.builtin id) [.ref (oa x),v]) Q E s):
  StK G N (.Expr (.Call (.Attribute (.Name x xp) m ap) [e] [] cp) p) σ τ:=by
 intro A env g₀ s₀ oa g s Q E R S k
 refine QBC (S.own x ds hds) fun k1 k2 k3 ζ3 vs ζ5 k7=>?_
 obtain ⟨mm,k4,k5⟩:=ζ3
 obtain ⟨nn,k6⟩:=ζ5
 refine wpAny_Expr (wpAny_Call_method_lateS (by unfold attributeBase;rfl) ?_ hline (QM (wpAny_loadName_local S.vw.kind (by rw [S.kindOf];exact k1) k4 k5 ?_) (QBD hp).1)) (QCL S.vw.kind) (QA6 rfl rfl _ _ _)
 ·rw [(QAt hs).2 env];rfl
 ·refine ⟨"list",id,PySem.F.plainAttrs_list,hsl,hty,⟨_,k6,rfl⟩,fun a ea=>by cases ea;exact ⟨_,k6,rfl⟩,?_⟩
  refine QAf (first:=[.ref (oa x)]) (fun a ea=>by cases ea) hs (QBf (.one hd) hs R S.vw fun g1 s1 vs1 x1 dvs=>?_)
  apply wEA (DenL.one dvs);intro v dv
  exact hcall A env g₀ s₀ oa g1 s1 _ _ _ (S.up x1) dv fun h' S' M'=>k _ _ S' ((Mv.ofExt x1).trans M')
theorem QHL{σ:PS}{x m:Str}{xp ap cp p:Pos}{e:Expr}{ds:List D}{d:D}(hp:plainName x=true)(hs:QAh [e]=true)(hline:(ap.endLine==cp.line)=true)(hds:σ.os.lookup x=some ds)(hd:QAW G N e σ.ρ d)(id:String)(τ:PS)(hsl:Slot "list" m id)(hty:typeOf (.builtin id)=pure (.type "method_descriptor"))
  (hcall:∀(A:QT) (env:Env) (g₀:Fz) (s₀:QR) (oa:Str→QW) (g:Fz) (s:QR) (v:QS) (Q E:QS→QR→Prop),Sv G A g₀ s₀ env σ oa g s→Den g v d→
   (∀h',Sv G A g₀ s₀ env τ oa g {s with heap:=h'}→Mv env σ oa τ oa g s g {s with heap:=h'}→Q .none {s with heap:=h'})→Qa (model prog w) A (call (.builtin id) [.ref (oa x),v]) Q E s):
  QC7 G N (.Expr (.Call (.Attribute (.Name x xp) m ap) [e] [] cp) p) σ (.next τ):=(QQs hp hs hline hds hd id τ hsl hty hcall).to
theorem QSZ{σ:PS}{x y:Str}{xp yp p:Pos}{v:Expr}{d:D}(hx:storable σ x=true)(hy:storable σ y=true)(h:QAW G N v σ.ρ d):StK G N (.Assign [.Name x xp,.Name y yp] v p) σ (((σ.put x d).put y d)):=by
 intro A env g₀ s₀ oa g s Q E R S k
 refine wpAny_Assign_two (h A env g s _ E R S.vw fun g1 s1 v1 x1 d1=>?_) rfl rfl
 refine wpAny_assign_Name ((S.up x1).store hx d1 fun h1 t1 S1 M1=>?_)
 refine wpAny_assign_Name (S1.store (σ:=σ.put x d) hy d1 fun h2 t2 S2 M2=>?_)
 exact k _ _ S2 ((Mv.ofExt x1).trans (M1.trans M2))
theorem QMK{σ:PS}{x y:Str}{xp yp p:Pos}{v:Expr}{d:D}(hx:storable σ x=true)(hy:storable σ y=true)(h:QAW G N v σ.ρ d):QC7 G N (.Assign [.Name x xp,.Name y yp] v p) σ (.next ((σ.put x d).put y d)):=(QSZ hx hy h).to
theorem QSn{σ:PS}{x:Str}{xp p:Pos}{e:Expr}{i j:Int}(hx:storable σ x=true)(hp:plainName x=true)(ha:σ.ρ.get x=some (.int i))(h:QAW G N e σ.ρ (.int j)):StK G N (.AugAssign (.Name x xp) .Add e p) σ ((σ.put x (.int (i+j)))):=by
 intro A env g₀ s₀ oa g s Q E R S k
 refine wpAny_AugAssign_Name (QBP S.vw ha (QBD hp).2 fun v dv=>h A env g s _ E R S.vw fun g1 s1 v1 x1 d1=>?_)
 apply wE dv.out;intro t
 apply wE d1.out;intro t1
 have xt:=Ext.tok (g:=g1) (s:=s1) x1.inn (tk:=s1.toks+1)
 refine P.iadd_int (((S.up x1).up xt).store hx (.int _ _) fun h' tk S' M'=>?_)
 exact k _ _ S' ((Mv.ofExt (x1.trans xt)).trans M')
theorem QEG{σ:PS}{x:Str}{xp p:Pos}{e:Expr}{i j:Int}(hx:storable σ x=true)(hp:plainName x=true)(ha:σ.ρ.get x=some (.int i))(h:QAW G N e σ.ρ (.int j)):QC7 G N (.AugAssign (.Name x xp) .Add e p) σ (.next (σ.put x (.int (i+j)))):=(QSn hx hp ha h).to
theorem QCY{σ:PS}{x:Str}{n:Nat}{cp p:Pos}:QC7 G N (.Expr (.Constant (.str x) n cp) p) σ (.next σ):=by
 intro A env g₀ s₀ oa g s Q E R S k
 refine wpAny_Expr (wpAny_Constant_str ?_) (QCL S.vw.kind) (QA6 rfl rfl _ _ _)
 have x:=Ext.tok (g:=g) (s:=s) S.vw.inn (tk:=s.toks+1)
 exact k _ _ _ (S.up x) (.ofExt x)
theorem QQZ{σ:PS}{o:Out}{b:List Stmt}{h0:ExceptHandler}{hs:List ExceptHandler}{p:Pos}(h:QCG G N b σ o):QC7 G N (.Try b (h0::hs) [] [] p) σ o:=by
 intro A env g₀ s₀ oa g s Q E R S k
 refine wpAny_Try_except (h A env g₀ s₀ oa g s _ _ R S ?_)
 cases o with
 |next σ'=>exact fun g1 s1 oa1 S1 M1=>QG (k _ _ _ S1 M1)
 |brk σ'=>exact k
 |cont σ'=>exact k
 |ret d=>exact k
theorem QEu{σ:PS}:QCG G N [] σ (.next σ):=fun A env g₀ s₀ oa g s Q E R S k=>QG (k _ _ _ S .refl)
theorem QBZ{st:Stmt}{r:List Stmt}{σ σ':PS}{o:Out}(h1:QC7 G N st σ (.next σ'))(h2:QCG G N r σ' o):QCG G N (st::r) σ o:=fun A env g₀ s₀ oa g s Q E R S k=>
 QD (h1 A env g₀ s₀ oa g s _ E R S fun g1 s1 oa1 S1 M1=>h2 A env g₀ s₀ oa1 g1 s1 Q E R S1 (k.via M1))
theorem QFE{st:Stmt}{r:List Stmt}{σ:PS}{o:Out}(h1:QC7 G N st σ o)(ho:∀τ,o≠ .next τ):QCG G N (st::r) σ o:=fun A env g₀ s₀ oa g s Q E R S k=>
 QD (h1 A env g₀ s₀ oa g s _ E R S (by cases o<;>first|exact k|exact absurd rfl (ho _)))
theorem QGH(hN:1≤N){a b:D}{op:CmpOp}{e:Expr}{ρ:PE}{c:Bool}(h:QAW G N e ρ b)(hc:QA8 op a b=some c):ChainTo G N a [op] [e] ρ c:=by
 intro A env g s va pos Q E R V da k
 exact test_last (h A env g s _ E R V fun g1 s1 v1 x1 d1=>QKb hc (da.mono x1.le) d1 x1.inn (R8 hN R) (wpAny_truthy_bool (k _ _ x1)))
theorem QLq(hN:1≤N){a b:D}{op op':CmpOp}{ops:List CmpOp}{e e':Expr}{es:List Expr}{ρ:PE}{c d:Bool}(h:QAW G N e ρ b)(hc:QA8 op a b=some c)(h2:if c=true then ChainTo G N b (op'::ops) (e'::es) ρ d else d=false):ChainTo G N a (op::op'::ops) (e::e'::es) ρ d:=by
 intro A env g s va pos Q E R V da k
 refine test_link (h A env g s _ E R V fun g1 s1 v1 x1 d1=>?_)
 refine QKb hc (da.mono x1.le) d1 x1.inn (R8 hN R) (wpAny_truthy_bool ?_)
 cases c with
 |false=>cases h2;exact k _ _ x1
 |true=>exact h2 A env g1 s1 v1 pos Q E R (V.up x1) d1 fun g2 s2 x2=>k _ _ (x1.trans x2)
theorem QF9{l:Expr}{ops:List CmpOp}{rs:List Expr}{p:Pos}{ρ:PE}{a:D}{b:Bool}(hm:lastMarks ops rs=false)(h:QAW G N l ρ a)(h2:ChainTo G N a ops rs ρ b):QAl G N (.Compare l ops rs p) ρ b:=by
 intro A env g s Q E R V k
 show Qa _ A (do testChain p (←eval l env) ops (markedEach ops rs (evalEach rs env))) Q E s
 rw [markedEach_of_false _ _ _ hm]
 exact QB (h A env g s _ E R V fun g1 s1 v1 x1 d1=>h2 A env g1 s1 v1 p Q E R (V.up x1) d1 fun g2 s2 x2=>k _ _ (x1.trans x2))
theorem all_cons{op:BoolOp}{x:Expr}{r:List Expr}{ρ:PE}{c b:Bool}(h:QAl G N x ρ c)(h2:if (match op,c with| .And,false=>true| .Or,true=>true|_,_=>false)=true then b=c else QN4 G N op r ρ b):QN4 G N op (x::r) ρ b:=by
 intro A env g s Q E R V k
 show Qa _ A (do
  match op,←isTrue x env (eval x env) with
  | .And,false=>pure false
  | .Or,true=>pure true
  |_,_=>allTrue op r env) Q E s
 refine QB (h A env g s _ E R V fun g1 s1 x1=>?_)
 cases op<;>cases c
 ·cases h2;exact QC (k _ _ x1)
 ·exact h2 A env g1 s1 Q E R (V.up x1) fun g2 s2 x2=>k _ _ (x1.trans x2)
 ·exact h2 A env g1 s1 Q E R (V.up x1) fun g2 s2 x2=>k _ _ (x1.trans x2)
 ·cases h2;exact QC (k _ _ x1)
variable {F:QC9}{C:QCl}{r:Cm→Prop}(H:∀c,r c→c.ok G N)
include H
theorem QRG{e:Expr}{ρ:PE}{os:OL}{k:Bool→OL→Prop}(h:qTe r e ρ os k):(Cm.te e ρ os k).ok G N:=by
 have pl:r (.ev e ρ os fun d os=>qTr d os k)→(∀env whole,isTrue e env whole=(do let v←whole;standAt e.pos;holding [v] (truthy v)))→(Cm.te e ρ os k).ok G N:=fun h w=>
  QBm H h fun d o1 e1 h=>QK1 h fun b o2 e2 h=>⟨b,o2,QIR e1 e2 w,h⟩
 cases e with
 |UnaryOp op x p=>cases op with
  |Not=>exact QGr H h fun b o1 e1 h=>⟨_,o1,notTest e1,h⟩
  |_=>exact pl h fun _ _=>rfl
 |BoolOp op xs p=>exact QB0 (H _ h) fun b o1 e1 h=>⟨b,o1,fun A env g s Q E R V k=>e1 A env g s Q E R V k,h⟩
 |IfExp t b o p=>
  refine QGr H h fun c o1 e1 h=>?_
  cases c<;>exact QGr H h fun v o2 e2 h=>⟨v,o2,QMy e1 e2,h⟩
 |Compare a ops bs p=>exact QBr h fun c h=>QBm H h fun x o1 e1 h=>QB0 (H _ h) fun v o2 e2 h=>⟨v,o2,QF9 (QMl c) e1 e2,h⟩
 |_=>exact pl h fun _ _=>rfl
theorem QRu(hN:10≤N){a:D}{ops:List CmpOp}{bs:List Expr}{ρ:PE}{os:OL}{k:Bool→OL→Prop}(h:qCh r a ops bs ρ os k):(Cm.ch a ops bs ρ os k).ok G N:=by
 cases ops with
 |nil=>exact False.elim h
 |cons op ops=>cases bs with
  |nil=>cases ops<;>exact False.elim h
  |cons b bs=>cases ops with
   |nil=>cases bs with
    |cons=>exact False.elim h
    |nil=>exact QBm H h fun y o1 e1 h=>QKz h fun v o2 e2 h=>⟨v,o2,QGH (Qd (by decide) hN) e1 e2,h⟩
   |cons op' ops=>cases bs with
    |nil=>exact False.elim h
    |cons b' bs=>
     refine QBm H h fun y o1 e1 h=>QKz h fun v o2 e2 h=>?_
     cases v with
     |false=>exact ⟨_,o2,QLq (Qd (by decide) hN) e1 e2 rfl,h⟩
     |true=>exact QB0 (H _ h) fun u o3 e3 h=>⟨u,o3,QLq (Qd (by decide) hN) e1 e2 e3,h⟩
theorem QRl{op:BoolOp}{xs:List Expr}{ρ:PE}{os:OL}{k:Bool→OL→Prop}(h:qAl r op xs ρ os k):(Cm.al op xs ρ os k).ok G N:=by
 cases xs with
 |nil=>exact ⟨_,os,fun A env g s Q E R V k=>QC (k _ _ (.refl V.inn)),h⟩
 |cons x xs=>
  refine QGr H h fun b o1 e1 h=>?_
  cases op<;>cases b<;>first|exact ⟨_,o1,all_cons e1 (id rfl),h⟩|exact QB0 (H _ h) fun v o2 e2 h=>⟨v,o2,all_cons e1 e2,h⟩
theorem QR0{xs:List Expr}{ρ:PE}{os:OL}{k:Bool→OL→Prop}(h:qTs r xs ρ os k):(Cm.ts xs ρ os k).ok G N:=by
 cases xs with
 |nil=>exact ⟨_,os,QEJ,h⟩
 |cons x xs=>
  refine QGr H h fun b o1 e1 h=>?_
  cases b with
  |false=>exact ⟨_,o1,QDi e1 (id rfl),h⟩
  |true=>exact QB0 (H _ h) fun v o2 e2 h=>⟨v,o2,QDi e1 e2,h⟩
theorem QRM(hN:10≤N){t e:Expr}{ρ:PE}{os:OL}{k:List D→OL→Prop}(h:qIv r t e ρ os k):(Cm.iv t e ρ os k).ok G N:=by
 refine QBr h fun c0 h=>QEY h (fun c h=>QBm H h fun x o1 e1 h=>oEE (QKh c) fun y p q=>?_) fun c h=>QBM h fun j ej h=>QFS H h fun xs o1 e1 h=>⟨_,o1,⟨QN7 hN ej h.1.2 e1,QLK (QMl c0),h.1.1⟩,h.2⟩
 subst q
 cases x with
 |list xs=>exact ⟨_,o1,⟨QLu hN e1,QLK (QMl c0),h.1⟩,h.2⟩
 |bytes b=>exact ⟨_,o1,⟨QPD hN e1,QLK (QMl c0),by rw [Qs];exact h.1⟩,h.2⟩
 |_=>exact False.elim h
omit H in
theorem QLS{e:Expr}{x:Expr×List Expr×Pos}{f:Str}{l:List Expr}(h1:QGb e=some x)(h2:nameOf x.1=some f)(h3:x.2.1=l):∃fp p,e= .Call (.Name f fp) l [] p:=
 oE (QCE h2) fun fp q=>⟨fp,x.2.2,by rw [QFq h1,q,h3]⟩
theorem QSW(hN:10≤N){t e:Expr}{ρ:PE}{os:OL}{k:List D→OL→Prop}(h:qIt r t e ρ os k):(Cm.it t e ρ os k).ok G N:=by
 have pl:r (.iv t e ρ os k)→(Cm.it t e ρ os k).ok G N:=H (.iv t e ρ os k)
 refine QDZ h (fun x q1 h=>QDZ h (fun f q2 h=>QDZ h (fun a q3 h=>QEY h (fun c h=>QBr h fun c1 h=>QFS H h fun xs o1 e1 h=>oEE (QLS q1 q2 (QBT q3)) fun fp p q=>?_)
  fun _ h=>QEY h (fun c h=>QBr h fun c1 h=>QK0 H h fun j o1 e1 h=>oEE (QLS q1 q2 (QBT q3)) fun fp p q=>oA (QBi c1) fun c1 c2=>oEE (QKh c1) fun y yp qt=>?_) fun _=>pl)
  fun h=>QDZ h (fun y q3 h=>QEY h (fun c h=>QBr h fun c1 h=>QFS H h fun xs o1 e1 h=>QFS H h fun ys o2 e2 h=>oEE (QLS q1 q2 (QG0 q3)) fun fp p q=>?_) fun _=>pl) pl) pl) pl
 ·rw [q];exact QMG c fun g1 g2 g3=>⟨_,o1,⟨QIs hN c1 g2 g1 g3 e1,fun _ _=>rfl,by rw [QDM];exact h.1⟩,h.2⟩
 ·rw [q,qt];exact QMG c fun g1 g2 g3=>⟨_,o1,⟨QO3 hN g2 g1 g3 e1 h.1.1 h.1.2,fun _ _=>rfl,by rw [QDg];exact Int.toNat_le.mpr h.1.2⟩,h.2⟩
 ·rw [q];exact QMG c fun g1 g2 g3=>⟨_,o2,⟨QRw hN c1 g2 g1 g3 e1 e2 h.1.2,fun _ _=>rfl,by rw [QHR h.1.2];exact h.1.1⟩,h.2⟩
theorem QPA{e:Expr}{p:Pos}{σ:PS}{os:OL}{k:Out→OL→Prop}(h:qSt G N r (.Expr e p) σ os k):(Cm.st (.Expr e p) σ os k).ok G N:=by
 refine QEY h (fun c h=>QJW (QPC c) fun x n cp q=>?_) fun _ h=>QBM h fun c q1 h=>QBM h fun y q2 h=>QBM h fun x q3 h=>QBM h fun e q4 h=>QBr h fun c h=>QBM h fun ds e0 h=>oA h fun h0 h=>QBm H h fun d o1 e1 h=>
  oE (QCE q3) fun xp q3=>oA (QBi c) fun c c3=>oA (QBi c) fun c1 c2=>?_
 ·rw [q];exact ⟨_,os,QCY,h⟩
 rw [QFq q1,QIA q2,q3,QBT q4]
 refine QEY h (fun m h=>?_) fun _ h=>QBr h fun m h=>QBM h fun es q h=>?_
 ·rw [eq_of_beq m]
  exact ⟨_,o1,QHL c1 c2 c3 e0 e1 "list.append" _ (QPN▸PySem.F.slot_list_append) PySem.F.type_list_append fun A env g₀ s₀ oa g s v Q E S dv kk=>S.appendOwn e0 h0 dv kk,h⟩
 ·rw [eq_of_beq m]
  exact ⟨_,o1,QHL c1 c2 c3 e0 (QEk q▸e1) "list.extend" _ (QOu▸PySem.F.slot_list_extend) PySem.F.type_list_extend fun A env g₀ s₀ oa g s v Q E S dv kk=>S.extendOwn e0 h0 h.1 dv kk,h.2⟩
theorem QK8{ts:List Expr}{v:Expr}{p:Pos}{σ:PS}{os:OL}{k:Out→OL→Prop}(h:qSt G N r (.Assign ts v p) σ os k):(Cm.st (.Assign ts v p) σ os k).ok G N:=by
 refine QDZ h (fun t q1 h=>QBM h fun x q2 h=>oE (QCE q2) fun xp q2=>?_) fun h=>QBM h fun t q1 h=>QBM h fun x q2 h=>QBM h fun y q3 h=>QBr h fun c h=>QBm H h fun d o1 e1 h=>
  oE (QCE q2) fun xp q2=>oE (QCE q3) fun yp q3=>oA (QBi c) fun c1 c2=>?_
 ·rw [QBT q1,q2]
  refine QEY h (fun q h=>QBr h fun c h=>oE (QPK q) fun lp q=>?_) fun _ h=>QBr h fun c h=>oA (QBi c) fun c1 c2=>QB0 (H _ h) fun d o1 e1 h=>⟨_,o1,QK3 c1 (QMl c2) e1,h⟩
  rw [q];exact ⟨_,os,ownStep (of_decide_eq_true c),h⟩
 ·rw [QG0 q1,q2,q3];exact ⟨_,o1,QMK c1 c2 e1,h⟩
theorem QRn{s:Stmt}{σ:PS}{os:OL}{k:Out→OL→Prop}(h:qSt G N r s σ os k):(Cm.st s σ os k).ok G N:=by
 cases s with
 |Assign ts v p=>exact QK8 H h
 |Expr e p=>exact QPA H h
 |If t b o p=>
  refine QGr H h fun c o1 e1 h=>?_
  cases c<;>exact QLf H h fun v o2 e2 h=>⟨v,o2,QI5 e1 e2,h⟩
 |Return e p=>exact QBM h fun e q h=>QBm H h fun d o1 e1 h=>⟨.ret d,o1,q▸QE4 e1,h⟩
 |While t b els p=>
  exact QBr h fun c h=>QC1 h fun sh o1 hs h=>QC1 h fun o o1 hr hk=>⟨o,o1,(List.isEmpty_iff.mp c).symm▸fun A env g₀ s₀ oa g s Q E R S k=>wpAny_While (QTy (hr.inn (.of hs)) R S k),hk⟩
 |For t i b els p=>
  exact QBr h fun c h=>oA (QBi c) fun c c2=>QQ4 H h fun ds o0 t1 t2 t3 h=>QC1 h fun sh o1 hs h=>QC1 h fun o o1 hr hk=>⟨o,o1,(List.isEmpty_iff.mp c).symm▸QMR c2 t1 t2 (hr.inn (.of hs)),hk⟩
 |Break p=>exact ⟨.brk σ,os,fun A env g₀ s₀ oa g s Q E R S k=>wpAny_Break (k _ _ _ S .refl),h⟩
 |Continue p=>exact ⟨.cont σ,os,fun A env g₀ s₀ oa g s Q E R S k=>wpAny_Continue (k _ _ _ S .refl),h⟩
 |Pass p=>exact ⟨.next σ,os,fun A env g₀ s₀ oa g s Q E R S k=>wpAny_Pass (k _ _ _ S .refl),h⟩
 |AugAssign t op e p=>cases op with
  |Add=>exact QBM h fun x q h=>QBr h fun c h=>QBM h fun a e0 h=>QBM h fun i q2 h=>QK0 H h fun j o1 e1 h=>oE (QCE q) fun xp q=>oA (QBi c) fun c1 c2=>⟨_,o1,q▸QEG c1 c2 (QFi q2▸e0) e1,h⟩
  |_=>exact False.elim h
 |Try b hs els fin p=>
  refine QBr h fun c h=>QLf H h fun v o1 e1 hk=>oA (QBi c) fun c c3=>oA (QBi c) fun c1 c2=>?_
  rw [List.isEmpty_iff.mp c2,List.isEmpty_iff.mp c3]
  cases hs with
  |nil=>exact absurd c1 QAS
  |cons a hs=>exact ⟨v,o1,QQZ e1,hk⟩
 |_=>exact False.elim h
theorem QQR{s:List Stmt}{σ:PS}{os:OL}{k:Out→OL→Prop}(h:QSp r s σ os k):(Cm.sts s σ os k).ok G N:=by
 cases s with
 |nil=>exact ⟨_,os,QEu,h⟩
 |cons s t=>
  refine QB0 (H _ h) fun o o1 e1 h=>?_
  cases o with
  |next τ'=>exact QLf H h fun v o2 e2 h=>⟨v,o2,QBZ e1 e2,h⟩
  |brk τ'=>exact ⟨.brk τ',o1,QFE e1 (fun _ h=>nomatch h),h⟩
  |cont τ'=>exact ⟨.cont τ',o1,QFE e1 (fun _ h=>nomatch h),h⟩
  |ret d=>exact ⟨.ret d,o1,QFE e1 (fun _ h=>nomatch h),h⟩
omit H
theorem QTz(hF:FOk G N F)(hC:COk G C)(hN:10≤N):∀n c,q G N F C n c→c.ok G N:=by
 intro n
 induction n with
 |zero=>intro c h;exact False.elim h
 |succ n ih=>
  intro c h
  cases c with
  |ev e ρ os k=>exact QSJ ih hF hC hN h
  |te e ρ os k=>exact QRG ih h
  |ch a ops bs ρ os k=>exact QRu ih hN h
  |al op xs ρ os k=>exact QRl ih h
  |ts xs ρ os k=>exact QR0 ih h
  |it t e ρ os k=>exact QSW ih hN h
  |iv t e ρ os k=>exact QRM ih hN h
  |st s σ os k=>exact QRn ih h
  |sts s σ os k=>exact QQR ih h
end
theorem ai{a b:Prop}(x:a)(y:b):a∧b:=⟨x,y⟩
theorem QAZ{P Q:Prop}(h:P)(e:Q=P):Q:=e.mpr h
noncomputable def fnBody(i:Nat):List Stmt:=match PySem.Challenge.pw_kq0067_01.main.body[i]? with
 |some (.FunctionDef _ _ body _ _ _ _ _ _ _)=>body
 |_=>[]
noncomputable def QAa(i:Nat):List (Str×NameKind):=match PySem.Challenge.pw_kq0067_01.main.body[i]? with
 |some (.FunctionDef _ _ _ _ _ _ s _ _ _)=>s.names
 |_=>[]
noncomputable abbrev nm(x:String):Str:=Qc x
theorem okr(sh:PS):(sh.ρ.sc=sh.ρ.sc∧sh.gs=sh.gs)∧sh.os=sh.os:=⟨⟨rfl,rfl⟩,rfl⟩
theorem oke(sh:PS):sh.ρ.sc=sh.ρ.sc∧sh.gs=sh.gs:=⟨rfl,rfl⟩
noncomputable def loops:List Stmt→List (Expr×List Stmt)
 |[]=>[]
 | .For t _ b _ _::r=>(t,b)::loops r
 | .While t b _ _::r=>(t,b)::loops r
 |_::r=>loops r
noncomputable def lp(b:List Stmt)(i:Nat):Expr×List Stmt:=(loops b).getD i (.Constant .none 0 default,[])
structure CP where
 t:Expr
 ifs:List Expr
 e:Expr
 sc:Scope
noncomputable def QOg(f:Expr→List CP):List Expr→List CP
 |[]=>[]
 |e::r=>f e++QOg f r
noncomputable def QFl:Nat→Expr→List CP
 |0,_=>[]
 |n+1,e=>match e with
  | .ListComp e gs sc _=>(match gs with
   |[⟨t,i,ifs,_⟩]=>⟨t,ifs,e,sc⟩::QFl n i
   |_=>[])
  | .Call f args _ _=>QFl n f++QOg (QFl n) args
  | .Attribute o _ _=>QFl n o
  | .BinOp a _ b _=>QFl n a++QFl n b
  | .Tuple es _ _=>QOg (QFl n) es
  | .BoolOp _ es _=>QOg (QFl n) es
  | .Compare a _ es _=>QFl n a++QOg (QFl n) es
  |_=>[]
noncomputable def QN1:List Stmt→List CP
 |[]=>[]
 | .Assign _ v _::r=>QFl 9 v++QN1 r
 | .Return (some v) _::r=>QFl 9 v++QN1 r
 | .If t _ _ _::r=>QFl 9 t++QN1 r
 |_::r=>QN1 r
noncomputable def cp(b:List Stmt)(i:Nat):CP:=(QN1 b).getD i ⟨.Constant .none 0 default,[],.Constant .none 0 default,default⟩
section
variable {prog:QV}{w:QX}{G:Gd prog w}{N:Nat}{F:QC9}{C:QCl}
noncomputable def QAu(G:Gd prog w)(N:Nat)(names:List (Str×NameKind))(body:List Stmt)(bs:List (Str×D))(d:D):Prop:=
 ∀(A:QT) (env:Env) (g₀:Fz) (s₀ s:QR) (Q:Flow→QR→Prop) (E:QS→QR→Prop),Rm A N→env.frame=some env.locals→(∃fr,A.frames=some (env::fr))→Sv G A g₀ s₀ env {ρ:={sc:=names,vs:=bs},os:=[]} (fun _=>0) g₀ s→
  (∀g' s' v,Ext g₀ s₀ g' s'→Den g' v d→Q (.ret v) s')→Qa (model prog w) A (execs body env) Q E s
structure Ev (G:Gd prog w)(N:Nat)(F:QC9)(C:QCl):Prop where
 hF:FOk G N F
 hC:COk G C
 hN:10≤N
theorem Ev.ok(R:Ev G N F C){n:Nat}{c:Cm}(h:q G N F C n c):c.ok G N:=QTz R.hF R.hC R.hN n c h
theorem QAo(R:Ev G N F C){names:List (Str×NameKind)}{body:List Stmt}{bs:List (Str×D)}{v:D}(os:OL)(h:q G N F C 100 (.sts body ⟨⟨names,bs⟩,[]⟩ os (okR v))):QAu G N names body bs v:=by
 refine QB0 (R.ok h) fun o _ e h=>?_
 cases o with
 |ret d=>cases h;exact fun A env g₀ s₀ s Q E hR _ _ S k=>e A env g₀ s₀ _ g₀ s Q E hR S k
 |_=>exact False.elim h
variable {t e:Expr}{b:List Stmt}{σ sh:PS}{o:Out}{d y:D}{r ds ys:List D}{bs:List (Str×D)}{ifs:List Expr}{sc:Scope}{ρ:PE}
theorem QBv(R:Ev G N F C)(os:OL)(hb:QAe t d=some bs)(h:q G N F C 100 (.sts b (σ.puts bs) os (okN sh)))(h2:FLt G N t b r sh o):FLt G N t b (d::r) σ o:=by
 refine QB0 (R.ok h) fun x _ e h=>?_
 cases x with
 |next τ=>exact .next hb e (h2.inn (.of h))
 |cont τ=>exact .cont hb e (h2.inn (.of h))
 |_=>exact False.elim h
theorem QI1:FLt G N t b [] σ (.next σ):= .nil .refl
theorem QP7(R:Ev G N F C)(os1:OL)(ht:q G N F C 100 (.te t σ.ρ os1 fun b _=>b=true))(os:OL)(h:q G N F C 100 (.sts b σ os (okN sh)))(h2:WLt G N t b sh o):WLt G N t b σ o:=by
 refine QB0 (R.ok ht) fun c _ e1 ζ3=>?_
 subst ζ3
 refine QB0 (R.ok h) fun x _ e h=>?_
 cases x with
 |next τ=>exact .next e1 e (h2.inn (.of h))
 |cont τ=>exact .cont e1 e (h2.inn (.of h))
 |_=>exact False.elim h
theorem QPo(R:Ev G N F C)(os:OL)(ht:q G N F C 100 (.te t σ.ρ os fun b _=>b=false)):WLt G N t b σ (.next σ):=by
 refine QB0 (R.ok ht) fun c _ e1 ζ3=>?_
 subst ζ3
 exact .done e1 .refl
theorem QCV(R:Ev G N F C){α:Type}{x g:α→D}{bs:α→List (Str×D)}(os:α→OL):∀l:List α,(∀a∈l,QAe t (x a)=some (bs a)∧q G N F C 100 (.ev e (QBL ρ sc (bs a)) (os a) fun d _=>d=g a))→
  CLt G N t [] e sc ρ (l.map x) (l.map g):=by
 intro l h
 induction l with
 |nil=>exact .nil
 |cons a l ih=>
  refine oA (h a (.head _)) fun h1 h2=>?_
  refine QB0 (R.ok h2) fun _ _ e2 ζ3=>?_
  subst ζ3
  exact .take ⟨_,h1,QEJ⟩ ⟨_,h1,e2.1⟩ (ih fun b m=>h b (.tail _ m))
theorem QN5{α:Type}{x g:α→D}{p:α→Bool}{bs:α→List (Str×D)}:∀l:List α,(∀a∈l,QAe t (x a)=some (bs a)∧QCj G N ifs (QBL ρ sc (bs a)) (p a)∧(p a=true→QAW G N e (QBL ρ sc (bs a)) (g a)))→
  CLt G N t ifs e sc ρ (l.map x) ((l.filter p).map g):=by
 intro l h
 induction l with
 |nil=>exact .nil
 |cons a l ih=>
  refine oAA (h a (.head _)) fun h1 h2 h3=>?_
  have ih:=ih fun b m=>h b (.tail _ m)
  rw [Q0,List.filter_cons]
  cases q:p a with
  |true=>exact .take ⟨_,h1,q▸h2⟩ ⟨_,h1,h3 q⟩ ih
  |false=>exact .skip ⟨_,h1,q▸h2⟩ ih
theorem QLL(R:Ev G N F C){α:Type}{x g:α→D}{p:α→Bool}{bs:α→List (Str×D)}(l:List α)(h:∀a∈l,QAe t (x a)=some (bs a)∧(∃os,q G N F C 100 (.ts ifs (QBL ρ sc (bs a)) os fun b _=>b=p a))∧(p a=true→∃os,q G N F C 100 (.ev e (QBL ρ sc (bs a)) os fun d _=>d=g a))):
  CLt G N t ifs e sc ρ (l.map x) ((l.filter p).map g):=
 QN5 (bs:=bs) l fun a m=>let ⟨h1,⟨_,h2⟩,h3⟩:=h a m;let ⟨_,_,e1,ep⟩:=R.ok h2;⟨h1,ep▸e1,fun q=>let ⟨_,h3⟩:=h3 q;let ⟨_,_,e2,ep⟩:=R.ok h3;ep▸e2.1⟩
theorem QHP(R:Ev G N F C){c:Expr}(hi:ifs=[c]){α:Type}{x g:α→D}{p:α→Bool}{bs:α→List (Str×D)}(os os2:α→OL)(l:List α)(h:∀a∈l,QAe t (x a)=some (bs a)∧q G N F C 100 (.te c (QBL ρ sc (bs a)) (os a) fun b _=>b=p a)∧q G N F C 100 (.ev e (QBL ρ sc (bs a)) (os2 a) fun d _=>d=g a)):
  CLt G N t ifs e sc ρ (l.map x) ((l.filter p).map g):=by
 subst hi
 refine QN5 (bs:=bs) l fun a m=>?_
 refine oAA (h a m) fun h1 h2 h3=>?_
 refine QB0 (R.ok h2) fun _ _ e1 ep=>?_
 refine QB0 (R.ok h3) fun _ _ e2 eg=>?_
 refine ⟨h1,QDi (ep▸e1) ?_,fun _=>eg▸e2.1⟩
 cases p a with
 |true=>exact QEJ
 |false=>rfl
noncomputable def fst(l:List Expr):Expr:=l.getD 0 (.Constant .none 0 default)
end
theorem QE3{α:Type}[BEq α][LawfulBEq α]{a b:α}(h:a=b):(a==b)=true:=beq_iff_eq.mpr h
theorem QPJ{α:Type}[BEq α][LawfulBEq α]{a b:α}(h:a≠b):(a==b)=false:=Bool.eq_false_iff.mpr fun e=>h (beq_iff_eq.mp e)
set_option tactic.hygienic true in
theorem QB5:∀{names:List (Str×NameKind)} {n:Nat} {acc:List (Str×QW)} {x:Str},(x∈acc.map (·.1)∨(x,NameKind.cell)∈names)→x∈(cellsFrom n names acc).map (·.1)
 |[],n,acc,x,h=>by
  rcases h with h|h
  ·exact h
  ·cases h
 |(y,k)::r,n,acc,x,h=>by
  unfold cellsFrom
  split
  ·rename_i hk
   refine QB5 ?_
   rcases h with h|h
   ·exact .inl (by simp only [Q0,Qx];exact .inr h)
   ·rcases Qx.mp h with e|h
    ·cases e;exact .inl (by exact .head _)
    ·exact .inr h
  ·rename_i hk
   refine QB5 ?_
   rcases h with h|h
   ·exact .inl h
   ·rcases Qx.mp h with e|h
    ·cases e;exact absurd (by rfl) hk
    ·exact .inr h
theorem QIH{k:Str→Option NameKind}{x:Str}:∀{bs:List (Str×QS)} {m:Str→Option QS},x∉bs.map (·.1)→bindL k bs m x=m x
 |[],_,_=>rfl
 |(y,v)::r,m,h=>by
  rw [Q0,Qx,not_or] at h
  unfold bindL
  rw [QIH h.2]
  split
  ·exact if_neg h.1
  ·rfl
theorem QKH{k:Str→Option NameKind}{x:Str}{v:QS}(hk:k x=some .local):∀{bs:List (Str×QS)} {m:Str→Option QS},(bs.map (·.1)).Nodup→(x,v)∈bs→bindL k bs m x=some v
 |(y,u)::r,m,hn,h=>by
  rw [Q0,Q9] at hn
  unfold bindL
  rcases Qx.mp h with e|h
  ·cases e
   rw [QIH hn.1,if_pos hk,if_pos rfl]
  ·exact QKH hk hn.2 h
theorem QHx{k:Str→Option NameKind}{x:Str}:∀{bs:List (Str×QS)} {m:Str→Option QS},x∉bs.map (·.1)→bindC k bs m x=m x
 |[],_,_=>rfl
 |(y,v)::r,m,h=>by
  rw [Q0,Qx,not_or] at h
  unfold bindC
  rw [QHx h.2]
  split
  ·rfl
  ·exact if_neg h.1
theorem QKJ{k:Str→Option NameKind}{x:Str}{v:QS}(hk:k x=some .cell):∀{bs:List (Str×QS)} {m:Str→Option QS},(bs.map (·.1)).Nodup→(x,v)∈bs→bindC k bs m x=some v
 |(y,u)::r,m,hn,h=>by
  rw [Q0,Q9] at hn
  unfold bindC
  rcases Qx.mp h with e|h
  ·cases e
   rw [QHx hn.1,if_neg (by rw [hk];decide),if_pos rfl]
  ·exact QKJ hk hn.2 h
theorem HLe.nolim{h h':Heap}(x:HLe h h')(y:h.NoLimit):h'.NoLimit:=let ⟨mc,a,b⟩:=y;⟨mc,x.ns a,b⟩
noncomputable def QBQ(names:List (Str×NameKind))(ps:List Str):Bool:=(ps.all fun x=>names.lookup x==some .local||names.lookup x==some .cell)&&names.all fun p=>p.2 != .free
section
variable {prog:QV}{w:QX}{G:Gd prog w}{N:Nat}
theorem QFU{A:QT}{fd:QZ}{a:QW}{g:Fz}{s s₁:QR}{binds:List (Str×QS)}{bs:List (Str×D)}(hcl:fd.closure=[])(hgl:fd.globals=mainGlobals)(hbu:fd.builtins=builtinsNs)(hki:fd.scope.kind= .function)
  (fro:QCr A s.heap) (fi:FIn g s.heap) (base:FLe G.h.get? g) (hb:QDY g binds bs) (hk:QBQ fd.scope.names (bs.map (·.1))=true)
  (x:InCallC s (callEnvC fd s.heap.objs.size a).locals (bindL (callEnvC fd s.heap.objs.size a).kindOf binds fun _=>none) (callEnvC fd s.heap.objs.size a).cells (bindC (callEnvC fd s.heap.objs.size a).kindOf binds fun _=>none) s₁):
  Sv G (A.deeper (callEnvC fd s.heap.objs.size a)) g s (callEnvC fd s.heap.objs.size a) {ρ:={sc:=fd.scope.names,vs:=bs},os:=[]} (fun _=>0) g s₁:=by
 unfold QBQ at hk
 simp only [QAT,List.all_eq_true] at hk
 revert hk
 refine rA fun hk1 hk2=>?_
 have fresh:∀b,s.heap.objs.size≤b→s.heap.get? b=none:=fun b hb=>QBW hb
 have fi':FIn g s₁.heap:=fi.up (.of x.toInCall.keep)
 have hbn:(binds.map (·.1)).Nodup:=by rw [hb.1];exact hb.2.2
 refine {ext:=⟨.of x.toInCall.keep,.refl _,fi',fun _ _ e=> .inl e,x.toInCall.same⟩,vw:=?_,locg:=fi.none (fresh _ x.toInCall.fresh),loc0:=fresh _ x.toInCall.fresh,ns:=⟨_,x.toInCall.ns⟩,cell:=?_,apart:=x.apart,own:=(fun y ds h=>nomatch h),ownA:=(fun y z dy dz h=>nomatch h)}
 ·refine {kind:=hki,sc:=rfl,glo:=hgl,bui:=hbu,vars:=?_,cel:=?_,inn:=fi',base:=base,fr:=?_}
  rotate_left
  rotate_left
  ·revert fro
   refine rEA fun fr hfr H=>?_
   refine ⟨callEnvC fd s.heap.objs.size a::fr,by show A.frames.map _=_;rw [hfr];rfl,fun e he=>?_⟩
   rcases Qx.mp he with rfl|he
   ·refine QGw x.toInCall.ns fun o es ep ho hd _=>?_
    exact ⟨by show fd.scope.kind≠ .module;rw [hki];decide,_,o,es,ep,rfl,Qd (QOe fi base) x.toInCall.fresh,ho,hd⟩
   ·refine oA (H e he) fun h1=>QEZ fun L o es ep=>QEg fun h2 hz h3 h4=>?_
    exact ⟨h1,L,o,es,ep,h2,hz,x.toInCall.keep _ _ h3,h4⟩
  ·intro y d hy
   have hm:=mem_of_lookup hy
   refine oE (List.getElem?_of_mem hm) fun i hi=>?_
   refine oEA (hb.2.1.get (i:=i) (d:=d) (by rw [Q7,hi];rfl)) fun v hv dv=>?_
   have hx':(binds.map (·.1))[i]? =some y:=by rw [hb.1,Q7,hi];rfl
   rw [Q7] at hv hx'
   cases q:binds[i]? with
   |none=>rw [q] at hv;cases hv
   |some p=>
    rw [q] at hv hx'
    obtain ⟨z,u⟩:=p
    simp at hv hx'
    subst hv hx'
    have hmem:(z,u)∈binds:=List.mem_of_getElem? q
    have hkind:=hk1 z (Qw.mpr ⟨_,hm,rfl⟩)
    simp only [Bool.or_eq_true,beq_iff_eq] at hkind
    refine ⟨u,dv,?_⟩
    rcases hkind with hkk|hkk
    ·exact .inl ⟨hkk,_,x.toInCall.ns,QKH hkk hbn hmem⟩
    ·refine oE (QBY (QB5 (n:=s.heap.objs.size+1) (acc:=[]) (.inr (mem_of_lookup hkk)))) fun c hc=>?_
     exact .inr ⟨.inl hkk,c,hc,by have:=x.cell z c hc;rwa [QKJ hkk hbn hmem] at this⟩
  ·intro y hy
   rcases hy with hy|hy
   ·exact QBY (QB5 (n:=s.heap.objs.size+1) (acc:=[]) (.inr (mem_of_lookup hy)))
   ·have:=hk2 _ (mem_of_lookup hy)
    simp at this
 ·intro y c hc
  have h1:=x.above y c (mem_of_lookup hc)
  have h2:s.heap.get? c=none:=fresh c (Qo (Qj x.toInCall.fresh h1))
  exact ⟨fi.none h2,h2,_,x.cell y c hc⟩
noncomputable def QEU(ps:List Str)(ds:List D)(kds:List (Str×D)):Option (List (Str×D)):=if ds.length=ps.length∧kds=[] then some (ps.zip ds) else none
theorem QCu{ps:List Str}{fd:QZ}(hn:ps.Nodup)(hk:QBQ fd.scope.names ps=true)(hbind:∀vs:List QS,vs.length=ps.length→bindArgs fd ⟨vs,[]⟩=pure (ps.zip vs)):
  ∀(g:Fz) (s:QR) (vs kvs:List QS) (ds:List D) (kds:List (Str×D)) (bs:List (Str×D)),QEU ps ds kds=some bs→FIn g s.heap→FLe G.h.get? g→DenL g vs ds→DenL g kvs (kds.map (·.2))→
   QBQ fd.scope.names (bs.map (·.1))=true∧∃binds,BindsTo s fd ⟨vs,(kds.map (·.1)).zip kvs⟩ binds∧QDY g binds bs:=by
 intro g s vs kvs ds kds bs h fi base dvs dkvs
 refine oA (QAn h) fun hc e=>?_
 have hl:=hc.1
 have hl':=dvs.length.trans hl
 have e1:(ps.zip ds).map (·.1)=ps:=List.map_fst_zip (Qe hl.symm)
 rw [←e,hc.2,e1]
 refine ⟨hk,ps.zip vs,.of_eq (hbind vs hl'),e1.symm▸List.map_fst_zip (Qe hl'.symm),?_,e1.symm▸hn⟩
 rw [List.map_snd_zip (Qe hl'),List.map_snd_zip (Qe hl)]
 exact dvs
end
section
variable {M:Model}{A:QT}{E:QS→QR→Prop}{s:QR}
theorem QHa{o:Obj}{es:Array DictEntry}{ep:Nat}(h:o.data= .dict es ep):o.isFreed=false:=by
 obtain ⟨c,d,dt,sl⟩:=o
 obtain rfl:dt=_:=h
 rfl
theorem keptOk{env:Env}{outer:List Env}{Q:QS→QR→Prop}(h:∀v,Q v s):Qa M A (keptBack env false outer) Q E s:=by
 cases outer with
 |nil=>exact wpAny_keptBack_nil h
 |cons c r=>
  rw [keptBack]
  split
  ·exact QC (h _)
  ·split
   ·exact QC (h _)
   ·exact QC (h _)
theorem QML:∀(envs:List Env) (s:QR) (Q:Unit→QR→Prop),(∀e∈envs,e.scope.kind≠ .module∧∃L o es ep,e.frame=some L∧gsz≤L∧s.heap.get? L=some o∧o.data= .dict es ep)→
  (∀h',HLe s.heap h'→h'.objs.size=s.heap.objs.size→Q () {s with heap:=h'})→Qa M A (readyFrames envs) Q E s
 |[],s,Q,_,k=>QC (k s.heap (.refl _) rfl)
 |env::outer,s,Q,H,k=>by
  refine oA (H env (.head _)) fun hk=>QEZ fun L o es ep=>QEg fun hf hz ho hd=>?_
  rw [readyFrames,hf]
  refine QB (wpAny_load ho ?_)
  by_cases hr:((o.slots.getD 3 none).isSome)=true
  ·rw [if_pos hr];exact QC (k s.heap (.refl _) rfl)
  ·rw [if_neg hr]
   refine QB (wpAny_of_eq (a:=false) (by simp [behindIsImport,hk]) ?_)
   refine QB (keptOk fun v=>?_)
   refine QB (wpAny_update ho ?_)
   generalize hfn:(fun o:Obj=>({o with slots:= #[some env.code,some (.ref env.globals),o.slots.getD 2 none,some v,o.slots.getD 4 none,env.func.map Value.ref,some (.ref env.builtins)]++(env.cells.map fun c=>some (.ref c.2)).toArray}:Obj))=fn
   have hfree:(fn o).isFreed=false:=hfn▸QHa (o:={o with slots:=_}) hd
   have hself:=Heap.get?_update_self fn ho hfree
   have hle:HLe s.heap (s.heap.update L fn):=fun b ob e=>by
    by_cases q:b=L
    ·subst q
     rw [ho] at e;cases e
     exact ⟨_,hself,.inr ⟨es,ep,_,hz,hd,by rw [←hfn]⟩⟩
    ·exact ⟨ob,(Heap.get?_update_ne _ _ _ _ q).trans e,.rfl'⟩
   refine QML outer _ Q (fun e he=>?_) fun h' hle' hsz=>?_
   ·refine oA (H e (.tail _ he)) fun h1=>QEZ fun L' o' es' ep'=>QEg fun h2 hz' h3 h4=>?_
    refine oEA (hle L' o' h3) fun o'' h5 sm=>?_
    exact ⟨h1,L',o'',es',ep',h2,hz',h5,sm.data.trans h4⟩
   ·exact k h' (hle.trans hle') (hsz.trans (by simp [Heap.update]))
structure Fly (s s':QR)(e:QW)(X:String)(fl:QS)(c:Bool):Prop where
 ex:∃ob vs tb otb tvs,s'.heap.get? e=some ob∧ob.cls= .type X∧ob.data= .fields vs∧vs[1]? =some (.ref tb)∧(c=true→vs[2]? =some .none)∧s'.heap.get? tb=some otb∧otb.data= .fields tvs∧tvs[3]? =some fl∧tb≠e∧s.heap.get? tb=none
 le:HLe s.heap s'.heap
 e0:s.heap.get? e=none
 same:∃h tk,s'={s with heap:=h,toks:=tk}
theorem QMX{env:Env}{fr:List Env}{L e:QW}{s₀ s:QR}{X:String}{Q:Unit→QR→Prop}(hA:A.frames=some (env::fr))(F:QCr A s₀.heap)(hf:env.frame=some L)
  (hx:Heap.NewExcOf s₀.heap s.heap e X) (hsame:∃h tk,s={s₀ with heap:=h,toks:=tk}) {c:Bool} (hcc:c=true→∀ob vs,s.heap.get? e=some ob→ob.data= .fields vs→vs[2]? =some .none)
  (k:∀s',Fly s₀ s' e X (rawInt L) c→Q () s'):Qa M A (noteFrame (.ref e) env) Q E s:=by
 obtain ⟨hkeep,hnew,ob,vs,he,hcls,hd,h1⟩:=hx
 have hsz:1<vs.size:=(Array.getElem?_eq_some_iff.mp h1).1
 revert F
 refine rEA fun fr' hA' H=>?_
 rw [hA] at hA';cases hA'
 unfold noteFrame
 rw [hf]
 refine QB (wpAny_field he hd h1 ?_)
 rw [if_neg (by decide)]
 skip
 refine QB (QB (wpAny_frameEnvs hA ?_))
 have hdw:((env::fr).dropWhile fun x=>x.frame !=env.frame)=env::fr:=by simp [List.dropWhile]
 rw [hdw]
 skip
 refine QB (QB (QML (env::fr) s _ (fun v hv=>?_) fun h₁ hle₁ hsz₁=>QC ?_))
 ·refine oA (H v hv) fun a1=>QEZ fun L' o es ep=>QEg fun a2 az a3 a4=>?_
  exact ⟨a1,L',o,es,ep,a2,az,hkeep _ _ a3,a4⟩
 rw [hf]
 refine QC ?_
 refine QB (wpAny_entryPlaceOf fun pl hpl=>?_)
 skip
 refine QB (wpAny_newObj_type ?_ (hpl.sizeOk5 _ _ _ _ _))
 have he₁:h₁.get? e=some ob:=hle₁.exact he fun _ _ q=>by rw [hd] at q;cases q
 generalize hT:({cls:= .type "traceback",dict:=none,data:= .fields ([Value.none,.ref L,.none,rawInt L,.none]++(if pl.isEmpty then List.replicate 6 Value.none else pl)).toArray}:Obj)=T
 have he₂:(h₁.push T).get? e=some ob:=Heap.get?_push_of_some _ he₁
 refine wpAny_setField he₂ hd hsz ?_
 have hTe:h₁.objs.size≠e:=Nat.ne_of_gt (Heap.lt_size he₁)
 have hde:(ob.mapFields (·.setIfInBounds 1 (.ref h₁.objs.size))).data= .fields (vs.setIfInBounds 1 (.ref h₁.objs.size)):=Obj.data_mapFields hd _
 have he₃:=Heap.get?_update_self (Obj.mapFields (·.setIfInBounds 1 (Value.ref h₁.objs.size))) he₂ (Obj.isFreed_of_fields hde)
 have htb0:s₀.heap.get? h₁.objs.size=none:=by
  rw [hsz₁]
  exact (HLe.of hkeep).none (QAp _)
 refine k _ ⟨⟨_,_,h₁.objs.size,T,_,he₃,?_,hde,?_,?_,?_,by rw [←hT],by exact rfl,hTe,htb0⟩,?_,hnew,?_⟩
 ·exact (Obj.cls_mapFields ..).trans hcls
 ·simp [hsz]
 ·intro hct
  rw [Array.getElem?_setIfInBounds_ne (by decide)]
  exact hcc hct ob vs he hd
 ·exact (Heap.get?_update_ne _ _ _ _ hTe).trans (hT▸Heap.get?_push_size h₁ rfl)
 ·refine ((HLe.of hkeep).trans (hle₁.trans (QAm _ T))).to fun b o o' e1 e2=>?_
  exact (Heap.get?_update_ne _ _ _ _ fun q=>by rw [q,hnew] at e1;cases e1).trans e2
 ·apply wEE hsame;intro h tk
  exact ⟨_,_,rfl⟩
end
theorem QHe:entryFor table "proto.unchain"=some Builtin.«proto.unchain»:=entryFor_of_tree (by kernel_rfl)
section
variable {α:Type}{prog:QV}{w:QX}{A:QT}{E:QS→QR→Prop}{s:QR}
theorem QIo{Q:α→QR→Prop}{a h:QW}{oa oh:Obj}{va vh:Array QS}(hh:A.handled=some (.ref h))(hne:h≠a)(ha:s.heap.get? a=some oa)(hda:oa.data= .fields va)(hsz:2<va.size)
  (ho:s.heap.get? h=some oh) (hd:oh.data= .fields vh) (h2:vh[2]? =some .none)
  (k:E (.ref a) {s with heap:=s.heap.update a (Obj.mapFields (·.setIfInBounds 2 (.ref h)))}):Qa (model prog w) A (raiseNew (.ref a):Sem α) Q E s:=by
 skip
 refine QB (wpAny_handled ?_)
 rw [hh]
 dsimp only
 rw [if_pos (by simp [hne])]
 refine QB (QF (wpAny_runValue (codeAny_builtin QHe ?_)))
 skip
 refine QB (wpAny_field ho hd h2 ?_)
 rw [if_pos (by rfl)]
 refine QC ?_
 skip
 refine QB ?_
 skip
 refine wpAny_setField ha hda hsz ?_
 exact wpAny_throw k
theorem QCv{cls msg:String}{Q:α→QR→Prop}(hp:PlainExc cls){h:QW}{oh:Obj}{vh:Array QS}(hh:A.handled=some (.ref h))(ho:s.heap.get? h=some oh)(hd:oh.data= .fields vh)(h2:vh[2]? =some .none)
  (k:∀h' tk e,Heap.NewExcOf s.heap h' e cls→E (.ref e) {s with heap:=h',toks:=tk}):Qa (model prog w) A (raiseErrorWords cls msg:Sem α) Q E s:=by
 skip
 refine QB (wpAny_mkText (QB ?_))
 skip
 refine QB (wpAny_newObj_type ?_)
 refine QB (m:=firstArgMember _ _) (wpAny_of_eq (a:=Value.none) (by simp only [firstArgMember,hp.first];rfl) ?_)
 rw [hp.own]
 refine wpAny_newObj_type ?_
 have hlt:=Heap.lt_size ho
 refine QIo (oa:={cls:= .type cls,data:= .fields #[.ref s.heap.objs.size,.none,.none,.none,.bool false,.none]}) (va:= #[.ref s.heap.objs.size,.none,.none,.none,.bool false,.none]) hh ?_ (Heap.get?_push_size _ rfl) rfl (by simp)
  (Heap.get?_push_of_some _ (Heap.get?_push_of_some _ ho)) hd h2 ?_
 ·intro q
  rw [Heap.size_push] at q
  exact absurd hlt (by rw [q];exact Nat.not_lt.mpr (Nat.le_succ _))
 ·refine k _ _ _ ⟨fun b o hb=>?_,Heap.get?_none_of_le (by simp),_,#[.ref s.heap.objs.size,.none,.ref h,.none,.bool false,.none],Heap.get?_update_self _ (Heap.get?_push_size _ rfl) rfl,rfl,rfl,rfl⟩
  have hb':=Heap.lt_size hb
  refine (Heap.get?_update_ne _ _ _ _ ?_).trans (Heap.get?_push_of_some _ (Heap.get?_push_of_some _ hb))
  rw [Heap.size_push]
  exact fun q=>absurd hb' (by rw [q];exact Nat.not_lt.mpr (Nat.le_succ _))
theorem QG3{l:QW}{items:Array QS}{k:Int}{t:Tok}{Q:QS→QR→Prop}{h:QW}{oh:Obj}{vh:Array QS}(hh:A.handled=some (.ref h))(ho:s.heap.get? h=some oh)(hdh:oh.data= .fields vh)(h2:vh[2]? =some .none)
  (hl:s.heap.IsList l items) (hout:(items.size:Int)≤k) (hhi:k<2^63)
  (hE:∀h' tk e,Heap.NewExcOf s.heap h' e "IndexError"→E (.ref e) {s with heap:=h',toks:=tk}):
  Qa (model prog w) A (getItem (.ref l) (.int k t)) Q E s:=by
 refine QFw (id hl) fun o hol hc ne hd=>?_
 unfold getItem
 try with_reducible refine QF ?_
 first|refine QB (QC ?_)|skip
 refine QB (wpAny_sequenceKey hl.typeIs (by decide) ?_)
 refine QB (wpAny_callSpecial?_slot (name:=Qc "__getitem__") hl.typeIs slot_list_getitem
  (QJ slot_list_getitem hl.typeIs entry_list_getitem ?_ (args_list_getitem _ _)))
 show Qa _ _ (Builtin.List.listSubscript? (.int k t)>>=_) _ _ s
 refine QB (wpAny_listSubscript_int (fitsIndex_both (by exact zi3 [_,_,_] 1 (.g (.v 0)) (.v 1) 2 (.v 2) (.v 1) 1 (.a (.v 1) (.n 1)) (.v 0) 2 (.n 0) (.v 2) rfl hout hhi (QAC _)) hhi) ?_)
 clear hhi
 cases k with
 |ofNat j=>
  have hx:items[j]? =none:=Array.getElem?_eq_none (by have:(items.size:Int)≤(j:Int):=hout;omega)
  skip
  refine QB (QB (wpAny_seqItemAt hol hd (QC ?_)))
  rw [hx]
  first
   |exact QB (QQ (QCv plainExc_IndexError hh ho hdh h2 hE))
   |exact QB (QQ (raiseMadeHeld plainExc_IndexError hh ho hdh h2 hE))
   |exact QB (QQ (QB (QCv plainExc_IndexError hh ho hdh h2 hE)))
   |exact QB (QQ (QB (raiseMadeHeld plainExc_IndexError hh ho hdh h2 hE)))
   |exact QQ (QCv plainExc_IndexError hh ho hdh h2 hE)
 |negSucc j=>exact absurd hout (by have:=Int.negSucc_lt_zero j;exact QAP.mpr (QJz (zi3 [_,_] 1 (.n 1) (.n 0) 1 (.v 0) (.v 1) 1 (.a (.v 1) (.n 1)) (.n 0) 1 (.n 0) (.v 0) rfl hout this (QAC _))))
end
section
variable {F:QC9}{C:QCl}{n:Nat}{ρ:PE}{σ:PS}
theorem bi_not{op:CmpOp}{e:Expr}(h:isSet e=false):behindInMarks op e=false:=by
 cases e<;>first|rfl|cases h
theorem QP1{a b}:QB1 .Sub (.bool a) (.bool b)=some (.int (b2i a-b2i b)):=rfl
noncomputable def tabOf:List (String×QBR)→QC9
 |[]=>fun _=>none
 |(b,s)::r=>fun x=>if x==Qc b then some s else tabOf r x
noncomputable def QBU:List (String×D)→QCl
 |[]=>fun _=>none
 |(b,s)::r=>fun x=>if x==Qc b then some s else QBU r x
theorem QQh{α β:Type}{f:α→Option β}{x xs}:QF7 f (x::xs)=(match f x with
  |none=>none
  |some y=>match QF7 f xs with
   |none=>none
   |some ys=>some (y::ys)):=rfl
theorem QRE{x y:Str}{d:D}:(σ.put x d).ρ.get y=if y=x then some d else σ.ρ.get y:=QCi
theorem QI8{scope:Scope}{bs:List (Str×D)}{x:Str}:(QBL ρ scope bs).get x=match bs.lookup x with|some d=>some d|none=>if scope.names.lookup x=some .free then ρ.get x else none:=by
 unfold QBL PE.get
 dsimp only
 rw [QED,QEB (p:=fun y=>scope.names.lookup y==some NameKind.free)]
 cases bs.lookup x with
 |some d=>rfl
 |none=>
  dsimp only
  by_cases h:scope.names.lookup x=some .free<;>simp [h]
theorem QGJ{scope:Scope}{bs:List (Str×D)}{x:Str}:(QBL ρ scope bs).kind x=(scope.names.lookup x).map fun k=>if (k==NameKind.free&&ρ.kind x==some .cell)=true then .cell else k:=QCK
end
noncomputable def QA5(c:Int):Int:=if c<48 then (if c=43 then 62 else if c=47 then 63 else 64) else if c≤57 then c+4 else if c<65 then 64 else if c≤90 then c-65 else if c<97 then 64 else if c≤122 then c-71 else 64
noncomputable def b64tab:Array UInt8:=("ABCDEFGHIJKLMNOPQRSTUVWXYZabcdefghijklmnopqrstuvwxyz0123456789+/".toList.map fun c=>UInt8.ofNat c.toNat).toArray
noncomputable def CT(te td:Array UInt8):QCl:=QBU [("str",.typ "str"),("bytes",.typ "bytes"),("bytearray",.typ "bytearray"),("bool",.typ "bool"),("int",.typ "int"),("bytes_types",.tup [.typ "bytes",.typ "bytearray"]),
 ("_B64",.bytes b64tab),("_urlsafe_encode_translation",.bytes te),("_urlsafe_decode_translation",.bytes td)]
theorem le1(a b:Int)(h:a≤b):QA8 .LtE (.int a) (.int b)=some true:=congrArg some (decide_eq_true h)
theorem le0(a b:Int)(h:b<a):QA8 .LtE (.int a) (.int b)=some false:=congrArg some (decide_eq_false (QAP.mpr h))
theorem eq1(a b:Int)(h:a=b):QA8 .Eq (.int a) (.int b)=some true:=congrArg some (QE3 h)
theorem eq0(a b:Int)(h:a≠b):QA8 .Eq (.int a) (.int b)=some false:=congrArg some (QPJ h)
section
variable {prog:QV}{w:QX}{G:Gd prog w}{N:Nat}{F:QC9}{C:QCl}{te td:Array UInt8}
theorem QK2(R:Ev G N F C)(c:Int):QAu G N (QAa 18) (fnBody 18) [(Qc "c",.int c)] (.int (QA5 c)):=by
 unfold QA5
 by_cases h1:c<48
 ·rw [if_pos h1]
  have a:=le0 65 c (Int.lt_trans h1 (by decide:(48:Int)<65))
  have b:=le0 97 c (Int.lt_trans h1 (by decide:(48:Int)<97))
  by_cases h2:c=43
  ·rw [if_pos h2];exact QAo R [.b false,.b false,.b false,.b true] (QAZ (ai a (ai b (ai (le0 48 c h1) (ai (eq1 c 43 h2) (@rfl D (.int 62)))))) (by kernel_rfl))
  ·rw [if_neg h2]
   by_cases h3:c=47
   ·rw [if_pos h3];exact QAo R [.b false,.b false,.b false,.b false,.b true] (QAZ (ai a (ai b (ai (le0 48 c h1) (ai (eq0 c 43 h2) (ai (eq1 c 47 h3) (@rfl D (.int 63))))))) (by kernel_rfl))
   ·rw [if_neg h3];exact QAo R [.b false,.b false,.b false,.b false,.b false] (QAZ (ai a (ai b (ai (le0 48 c h1) (ai (eq0 c 43 h2) (ai (eq0 c 47 h3) (@rfl D (.int 64))))))) (by kernel_rfl))
 ·rw [if_neg h1]
  have e:∀(b:Int),b<48→QA8 .Eq (.int c) (.int b)=some false:=fun b h=>eq0 c b fun q=>h1 (q▸h)
  replace h1:=QAN.mp h1
  have f:=le1 48 c h1
  by_cases h2:c≤57
  ·rw [if_pos h2];exact QAo R [.b false,.b false,.b true,.b true] (QAZ (ai (le0 65 c (Int.lt_of_le_of_lt h2 (by decide))) (ai (le0 97 c (Int.lt_of_le_of_lt h2 (by decide))) (ai f (ai (le1 c 57 h2) (@rfl D (.int (c+4))))))) (by kernel_rfl))
  ·rw [if_neg h2]
   have k:=le0 c 57 (QAP.mp h2)
   by_cases h3:c<65
   ·rw [if_pos h3];exact QAo R [.b false,.b false,.b true,.b false,.b false,.b false] (QAZ (ai (le0 65 c h3) (ai (le0 97 c (Int.lt_trans h3 (by decide))) (ai f (ai k (ai (e 43 (by decide)) (ai (e 47 (by decide)) (@rfl D (.int 64)))))))) (by kernel_rfl))
   ·rw [if_neg h3]
    have l:=le1 65 c (QAN.mp h3)
    by_cases h4:c≤90
    ·rw [if_pos h4];exact QAo R [.b true,.b true] (QAZ (ai l (ai (le1 c 90 h4) (@rfl D (.int (c-65))))) (by kernel_rfl))
    ·rw [if_neg h4]
     have m:=le0 c 90 (QAP.mp h4)
     by_cases h5:c<97
     ·rw [if_pos h5];exact QAo R [.b true,.b false,.b false,.b true,.b false,.b false,.b false] (QAZ (ai l (ai m (ai (le0 97 c h5) (ai f (ai k (ai (e 43 (by decide)) (ai (e 47 (by decide)) (@rfl D (.int 64))))))))) (by kernel_rfl))
     ·rw [if_neg h5]
      have n:=le1 97 c (QAN.mp h5)
      by_cases h6:c≤122
      ·rw [if_pos h6];exact QAo R [.b true,.b false,.b true,.b true] (QAZ (ai l (ai m (ai n (ai (le1 c 122 h6) (@rfl D (.int (c-71))))))) (by kernel_rfl))
      ·rw [if_neg h6];exact QAo R [.b true,.b false,.b true,.b false,.b true,.b false,.b false,.b false] (QAZ (ai l (ai m (ai n (ai (le0 c 122 (QAP.mp h6)) (ai f (ai k (ai (e 43 (by decide)) (ai (e 47 (by decide)) (@rfl D (.int 64)))))))))) (by kernel_rfl))
theorem QSu(R:Ev G N F C)(x y:Array UInt8):QAu G N (QAa 5) (fnBody 5) [(Qc "x",.bytes x),(Qc "y",.bytes y)] (.int (b2i (bLt y.toList x.toList)-b2i (bLt x.toList y.toList))):=
 QAo R [.b (bLt y.toList x.toList),.b (bLt x.toList y.toList),.d (.int (b2i (bLt y.toList x.toList)-b2i (bLt x.toList y.toList)))] (QAZ (ai (rfl (a:=some (bLt y.toList x.toList))) (ai (rfl (a:=some (bLt x.toList y.toList))) (ai (QP1 (a:=bLt y.toList x.toList) (b:=bLt x.toList y.toList)) (@rfl D (.int (b2i (bLt y.toList x.toList)-b2i (bLt x.toList y.toList))))))) (by kernel_rfl))
theorem QQK(R:Ev G N (tabOf []) (CT te td))(b:Array UInt8):QAu G N (QAa 14) (fnBody 14) [(Qc "data",.bytes b)] (.bytes b):=QAo R [] (QAZ (@rfl D (.bytes b)) (by kernel_rfl))
theorem QNr(R:Ev G N (tabOf []) (CT te td))(b:Array UInt8):QAu G N (QAa 15) (fnBody 15) [(Qc "data",.bytes b)] (.bytes b):=QAo R [] (QAZ (@rfl D (.bytes b)) (by kernel_rfl))
theorem QP4(R:Ev G N (tabOf []) (CT te td))(b:Bool):QAu G N (QAa 16) (fnBody 16) [(Qc "x",.bool b)] (.bool b):=by
 cases b with
 |true=>exact QAo R [] (QAZ (@rfl D (.bool true)) (by kernel_rfl))
 |false=>exact QAo R [] (QAZ (@rfl D (.bool false)) (by kernel_rfl))
theorem QM2(R:Ev G N (tabOf []) (CT te td))(x:Str)(h1:x.cps.size≤1000)(h2:(x.cps.toList.all fun k=>decide (k<128))=true):QAu G N (QAa 11) (fnBody 11) [(Qc "s",.str x)] (.bytes (x.cps.map fun k=>UInt8.ofNat k)):=by
 have hm:QDG (Qc "encode") (.str x) [.str (Qc "ascii")]=some (.bytes (x.cps.map fun k=>UInt8.ofNat k)):=by
  unfold QDG
  rw [if_neg (by decide),if_pos (by decide)]
  exact if_pos ⟨by decide,h1,h2⟩
 exact QAo R [.d (.bytes (x.cps.map fun k=>UInt8.ofNat k))] (QAZ (ai hm (@rfl D (.bytes (x.cps.map fun k=>UInt8.ofNat k)))) (by kernel_rfl))
theorem QKD(R:Ev G N (tabOf []) (CT te td))(b:Array UInt8):QAu G N (QAa 11) (fnBody 11) [(Qc "s",.bytes b)] (.bytes b):=QAo R [] (QAZ (@rfl D (.bytes b)) (by kernel_rfl))
end
theorem QSX(k:Nat):∀(a b:Int),0≤b→b<2^k→Builtin.bitAnd (a*2^k) b=0:=by
 induction k with
 |zero=>intro a b h0 h1;cases QAH (Int.le_of_lt_add_one h1) h0;exact bitAnd_zero _
 |succ k ih=>
  intro a b h0 h1
  rw [PySem.W.kbt_halves]
  rw [show (2:Int)^(k+1)=2*2^k by rw [Int.pow_succ,Int.mul_comm]] at h1⊢
  rw [Int.mul_left_comm,Int.mul_ediv_cancel_left _ (by decide),Int.mul_emod_right,ih a (b/2) (Int.ediv_nonneg h0 (by decide)) (Int.ediv_lt_of_lt_mul (by decide) (Int.mul_comm 2 _▸h1)),if_neg fun h=>absurd h.1 (by decide)]
  rfl
theorem QSx(a b:Int)(k:Nat)(h0:0≤b)(h1:b<2^k):Builtin.bitOr (a*2^k) b=a*2^k+b:=by
 rw [bitOr_and,QSX k a b h0 h1,Int.sub_zero]
noncomputable def QAg(i:Int):Int:=((b64tab.toList.getD i.toNat 0).toNat:Nat)
theorem QFh(i:Int)(h0:0≤i)(h1:i<64):QBb (.bytes b64tab) (.int i)=some (.int (QAg i)):=
 if_pos (c:=0≤i∧i<b64tab.toList.length∧b64tab.size≤1000) ⟨h0,h1,by decide⟩
theorem QRN{a:Int}(h:a<100000000):a<big:=Int.lt_trans h (by decide)
theorem QIY(a k:Int)(h0:0≤a)(h1:a<65536)(k0:0≤k)(k1:k≤64):QB1 .LShift (.int a) (.int k)=some (.int (a*2^k.toNat)):=if_pos ⟨k0,k1,h0,QRN (Int.lt_trans h1 (by decide))⟩
theorem QOZ(a k:Int)(k0:0≤k)(k1:k≤64):QB1 .RShift (.int a) (.int k)=some (.int (a/2^k.toNat)):=(if_pos ⟨k0,k1⟩).trans (congrArg (fun z=>some (D.int z)) (Int.fdiv_eq_ediv_of_nonneg _ (Int.le_of_lt (Int.pow_pos (by decide)))))
theorem QHu{a b c:Int}(h:Builtin.bitAnd a b=c):QB1 .BitAnd (.int a) (.int b)=some (.int c):=congrArg (fun z=>some (D.int z)) h
theorem QQi(a b:Int)(k:Nat)(h0:0≤b)(h1:b<2^k):QB1 .BitOr (.int (a*2^k)) (.int b)=some (.int (a*2^k+b)):=congrArg (fun z=>some (D.int z)) (QSx a b k h0 h1)
theorem ge1(a b:Int)(h:b≤a):QA8 .GtE (.int a) (.int b)=some true:=congrArg some (decide_eq_true h)
theorem ge0(a b:Int)(h:a<b):QA8 .GtE (.int a) (.int b)=some false:=congrArg some (decide_eq_false (QAP.mpr h))
noncomputable def QAq(lb lc b:Int):List Int×Int×Int:=
 if lb=0 then ([(lc*256+b)%65536/4%64],2,(lc*256+b)%65536) else if lb=2 then ([(lc*256+b)%65536/16%64],4,(lc*256+b)%65536)
 else ([(lc*256+b)%65536/64%64,(lc*256+b)%65536%64],0,(lc*256+b)%65536)
noncomputable def QAk(lb lc:Int):List Int→List Int×Int×Int
 |[]=>([],lb,lc)
 |b::r=>((QAq lb lc b).1++(QAk (QAq lb lc b).2.1 (QAq lb lc b).2.2 r).1,(QAk (QAq lb lc b).2.1 (QAq lb lc b).2.2 r).2)
noncomputable def QFA(lb lc:Int):List Int:=if lb=2 then [QAg (lc%4*16),61,61] else if lb=4 then [QAg (lc%16*4),61] else []
noncomputable def QB8(bs:List Int):List Int:=(QAk 0 0 bs).1.map QAg++QFA (QAk 0 0 bs).2.1 (QAk 0 0 bs).2.2
noncomputable def toB(l:List Int):Array UInt8:=(l.map fun i=>UInt8.ofNat i.toNat).toArray
theorem QDV(l:List Int):QB3 (l.map .int)=some l:=by
 induction l with
 |nil=>rfl
 |cons x r ih=>show (QB3 (r.map .int)).map (x:: ·)=_;rw [ih];rfl
theorem QMm{l:List Int}(h:∀i∈l,0≤i∧i<256):QF7 QIW l=some (l.map fun i=>UInt8.ofNat i.toNat):=by
 induction l with
 |nil=>rfl
 |cons x r ih=>
  rw [QQh,show QIW x=some (UInt8.ofNat x.toNat) from if_pos (h x (.head _)),ih fun i hi=>h i (.tail _ hi)]
  rfl
theorem QGC(l:List Int)(h:∀i∈l,0≤i∧i<256)(hl:l.length≤1000):dCall (nm "bytes") [.list (l.map .int)]=some (.bytes (toB l)):=by
 show ((QB3 (l.map .int)).bind fun is=>(QF7 QIW is).bind fun bs=>if bs.length≤1000 then some (D.bytes bs.toArray) else none)=_
 rw [QDV,Option.bind_some,QMm h,Option.bind_some,Qs,if_pos hl]
 rfl
theorem QG4{i:Int}:0≤QAg i∧QAg i<256:=⟨QAC _,QAL.mpr (UInt8.toNat_lt _)⟩
theorem QGp{lb lc b:Int}(hl:lb=0∨lb=2∨lb=4):((QAq lb lc b).2.1=0∨(QAq lb lc b).2.1=2∨(QAq lb lc b).2.1=4)∧(0≤(QAq lb lc b).2.2∧(QAq lb lc b).2.2<65536)∧(QAq lb lc b).1.length≤2:=by
 have h:0≤(lc*256+b)%65536∧(lc*256+b)%65536<65536:=⟨QAM _ (by decide),QAO _ (by decide)⟩
 rcases hl with rfl|rfl|rfl
 ·exact ⟨.inr (.inl rfl),h,(by decide:1≤2)⟩
 ·exact ⟨.inr (.inr rfl),h,(by decide:1≤2)⟩
 ·exact ⟨.inl rfl,h,Qf 2⟩
theorem QHX:∀(bs:List Int) (lb lc:Int),(lb=0∨lb=2∨lb=4)→0≤lc∧lc<65536→(QAk lb lc bs).1.length≤2*bs.length∧((QAk lb lc bs).2.1=0∨(QAk lb lc bs).2.1=2∨(QAk lb lc bs).2.1=4)∧0≤(QAk lb lc bs).2.2∧(QAk lb lc bs).2.2<65536:=by
 intro bs
 induction bs with
 |nil=>exact fun _ _ h h2=>⟨Qf 0,h,h2⟩
 |cons b r ih=>
  intro lb lc h h2
  refine oAA (QGp (lc:=lc) (b:=b) h) fun k1 k2 k4=>?_
  refine oA (ih _ (QAq lb lc b).2.2 k1 k2) fun h1 h2=>?_
  refine ⟨?_,h2⟩
  show ((QAq lb lc b).1++_).length≤2*(r.length+1)
  rw [Qu,Nat.mul_succ,Nat.add_comm]
  exact Nat.add_le_add h1 k4
noncomputable def QOd:QBR:=fun ds ks d=>∃b,ds=[.bytes b]∧ks=[]∧d= .bytes b
noncomputable def QIl:QBR:=fun ds ks d=>∃b,ds=[.bool b]∧ks=[]∧d= .bool b
theorem QIG(b:Array UInt8):QOd [.bytes b] [] (.bytes b):=⟨b,rfl,rfl,rfl⟩
theorem QEN(b:Bool):QIl [.bool b] [] (.bool b):=⟨b,rfl,rfl,rfl⟩
noncomputable def QBK(b:Array UInt8):List Int:=b.toList.map fun k=>((k.toNat:Nat):Int)
theorem QKB(b:Array UInt8):(b.toList.map fun k=>D.int ((k.toNat:Nat):Int))=(QBK b).map .int:=by unfold QBK;rw [Q3];rfl
theorem QP5{b:Array UInt8}:∀i∈QBK b,0≤i∧i<256:=by
 intro i hi
 refine oEA (Qw.mp hi) fun u _ ζ2=>?_
 subst ζ2
 exact ⟨QAC _,QAL.mpr u.toNat_lt⟩
theorem QE1{b:Array UInt8}:(QBK b).length=b.size:=Qs ..
noncomputable def B2(out:List D)(lb lc:Int):PS:=⟨⟨QAa 20,[(nm "leftbits",.int lb),(nm "leftchar",.int lc),(nm "newline",.bool false)]⟩,[(nm "out",out)]⟩
section
variable {prog:QV}{w:QX}{G:Gd prog w}{N:Nat}{F:QC9}{C:QCl}{te td:Array UInt8}
theorem QCk{l:List Int}{n:Nat}(h:l.length≤n):(l.map D.int).length≤n:=by rw [Qs];exact h
theorem QN8{α:Type}{l:List α}{x:α}{n m:Nat}(h:l.length≤n)(hn:n+1≤m):(l++[x]).length≤m:=by rw [Qu];exact Qd (Nat.add_le_add_right h 1) hn
theorem QJF(R:Ev G N F (CT te td)){out:List D}{k L y:Int}{o:Out}(k6:6≤k)(k1:k≤60)(hl:out.length≤1000)(hy:L/2^(k-6).toNat%64=y)
  (h:WLt G N (lp (lp (fnBody 20) 0).2 0).1 (lp (lp (fnBody 20) 0).2 0).2 (B2 (out++[.int (QAg y)]) (k-6) L) o):WLt G N (lp (lp (fnBody 20) 0).2 0).1 (lp (lp (fnBody 20) 0).2 0).2 (B2 out k L) o:=by
 have e:=QOZ L (k-6) (Int.sub_nonneg_of_le k6) (QAJ (Int.sub_le_self _ (by decide)) (QAJ k1 (by decide)))
 subst hy
 revert h e
 generalize L/2^(k-6).toNat=x
 intro e h
 exact QP7 R [.b true] (QAZ (ai (ge1 k 6 k6) (@rfl Bool true)) (by kernel_rfl)) [.d (.int x),.d (.int (x%64)),.d (.int (QAg (x%64)))]
  (QAZ (ai hl (ai e (ai (QHu (bitAnd_m6 x)) (ai (QFh (x%64) (QAM _ (by decide)) (QAO _ (by decide))) (okr (B2 (out++[.int (QAg (x%64))]) (k-6) L)))))) (by kernel_rfl)) h
theorem QOM(R:Ev G N F (CT te td)){out:List D}{k L:Int}(h:k<6):WLt G N (lp (lp (fnBody 20) 0).2 0).1 (lp (lp (fnBody 20) 0).2 0).2 (B2 out k L) (.next (B2 out k L)):=
 QPo R [.b false] (QAZ (ai (ge0 k 6 h) (@rfl Bool false)) (by kernel_rfl))
theorem QPd(R:Ev G N F (CT te td)){out:List Int}{lb lc b:Int}(hl:lb=0∨lb=2∨lb=4)(hlen:out.length≤900):WLt G N (lp (lp (fnBody 20) 0).2 0).1 (lp (lp (fnBody 20) 0).2 0).2 (B2 (out.map .int) (lb+8) ((lc*256+b)%65536)) (.next (B2 ((out++(QAq lb lc b).1.map QAg).map .int) (QAq lb lc b).2.1 (QAq lb lc b).2.2)):=by
 have h1:(out.map D.int).length≤1000:=QCk (Qd hlen (by decide))
 rw [Qv]
 rcases hl with rfl|rfl|rfl
 ·exact QJF R (by decide) (by decide) h1 rfl (QOM R (by decide))
 ·exact QJF R (by decide) (by decide) h1 rfl (QOM R (by decide))
 ·refine QJF R (by decide) (by decide) h1 rfl (QJF R (k:=6) (y:=(lc*256+b)%65536%64) (by decide) (by decide) (QN8 (QCk hlen) (by decide)) (congrArg (· %64) (Int.ediv_one _)) ?_)
  rw [Q5];exact QOM R (by decide)
theorem QRo(R:Ev G N F (CT te td)):∀(bs:List Int) (out:List Int) (lb lc:Int),(lb=0∨lb=2∨lb=4)→0≤lc∧lc<65536→(∀b∈bs,0≤b∧b<256)→out.length+2*bs.length≤900→
  FLt G N (lp (fnBody 20) 0).1 (lp (fnBody 20) 0).2 (bs.map .int) (B2 (out.map .int) lb lc) (.next (B2 ((out++(QAk lb lc bs).1.map QAg).map .int) (QAk lb lc bs).2.1 (QAk lb lc bs).2.2)):=by
 intro bs
 induction bs with
 |nil=>intro out lb lc _ _ _ _;show FLt _ _ _ _ _ _ (.next (B2 ((out++[]).map .int) lb lc));rw [List.append_nil];exact QI1
 |cons b r ih=>
  intro out lb lc hl l0 hb hlen
  have hb0:=hb b (.head _)
  refine oAA (QGp (lc:=lc) (b:=b) hl) fun k1 k2 k4=>?_
  rw [Qz] at hlen
  have h2:=ih (out++(QAq lb lc b).1.map QAg) _ _ k1 k2 (fun x hx=>hb x (.tail _ hx)) (by
   rw [Qu,Qs,Nat.add_assoc]
   exact Qd (Nat.add_le_add_left (by rw [Nat.mul_succ,Nat.add_comm];exact Nat.add_le_add_left k4 _) _) hlen)
  rw [Q5,←Qv] at h2
  refine QBv R (bs:=[(nm "b",.int b)]) [.d (.int (lc*256)),.d (.int (lc*256+b)),.d (.int ((lc*256+b)%65536)),.s (B2 (out.map .int) (lb+8) ((lc*256+b)%65536)),.o (.next (B2 ((out++(QAq lb lc b).1.map QAg).map .int) (QAq lb lc b).2.1 (QAq lb lc b).2.2))] rfl
   (QAZ (ai (QIY lc 8 l0.1 l0.2 (by decide) (by decide)) (ai (QQi lc b 8 hb0.1 hb0.2) (ai (QHu (bitAnd_m16 (lc*256+b))) (ai (okr (B2 (out.map .int) (lb+8) ((lc*256+b)%65536))) (ai (QPd R (lc:=lc) (b:=b) hl (Qd (Qg _ _) hlen)) (okr (B2 ((out++(QAq lb lc b).1.map QAg).map .int) (QAq lb lc b).2.1 (QAq lb lc b).2.2))))))) (by kernel_rfl)) h2
theorem QSv(R:Ev G N (tabOf [("_buffer",QOd),("_truth",QIl)]) (CT te td))(b:Array UInt8)(hsz:b.size≤100):QAu G N (QAa 20) (fnBody 20) [(nm "data",.bytes b),(nm "newline",.bool false)] (.bytes (toB (QB8 (QBK b)))):=by
 refine oAA (QHX (QBK b) 0 0 (.inl rfl) ⟨Int.le_refl _,by decide⟩) fun h1 h2 h3=>?_
 have hL:=QRo R (QBK b) [] 0 0 (.inl rfl) ⟨Int.le_refl _,by decide⟩ QP5 (by rw [QE1];exact Qd (Nat.add_le_add_left (Nat.mul_le_mul_left 2 hsz) _) (by decide))
 rw [QE1] at h1
 unfold QB8
 revert hL h1 h2 h3
 rw [List.nil_append,←QKB]
 generalize (QAk 0 0 (QBK b)).1=es
 generalize (QAk 0 0 (QBK b)).2.1=lb
 generalize (QAk 0 0 (QBK b)).2.2=lc
 intro h1 h2 h3 hL
 have fin:∀l:List Int,(∀i∈l,0≤i∧i<256)→l.length≤10→dCall (nm "bytes") [.list ((es.map QAg++l).map .int)]=some (.bytes (toB (es.map QAg++l))):=fun l hl h10=>QGC _ (fun i hi=>by
  rcases Q8.mp hi with hi|hi
  ·refine oEA (Qw.mp hi) fun j _ ζ2=>?_;subst ζ2;exact QG4
  ·exact hl i hi) (by rw [Qu,Qs];exact Qd (Nat.add_le_add (Qd h1 (Nat.mul_le_mul_left 2 hsz)) h10) (by decide))
 have hb:b.size≤1000:=Qd hsz (by decide)
 have he:(es.map QAg).length≤900:=by rw [Qs];exact Qd h1 (Qd (Nat.mul_le_mul_left 2 hsz) (by decide))
 have hm:((es.map QAg).map D.int).length≤900:=QCk he
 have b1:(0:Int)≤61∧(61:Int)<256:=by decide
 have n4:∀{m:Int},0<m→0≤lc%m∧lc%m<m:=fun h=>⟨QAM _ (Int.ne_of_gt h),QAO _ h⟩
 rcases h2 with rfl|rfl|rfl
 ·have f:=fin [] (fun _ h=>nomatch h) (by decide)
  rw [List.append_nil] at f
  show QAu G N _ _ _ (.bytes (toB (es.map QAg++[])))
  rw [List.append_nil]
  exact QAo R [.d (.bytes b),.d (.bool false),.s (B2 [] 0 0),.o (.next (B2 ((es.map QAg).map .int) 0 lc)),.b false,.b false,.d (.bytes (toB (es.map QAg)))]
   (QAZ (ai (QIG b)<|ai (QEN false)<|ai hb<|ai (okr (B2 [] 0 0))<|ai hL<|ai (eq0 0 2 (by decide))<|ai (eq0 0 4 (by decide))<|ai f (@rfl D (.bytes (toB (es.map QAg))))) (by kernel_rfl))
 ·refine oA (n4 (m:=4) (by decide)) fun m0 m1=>?_
  have f:=fin [QAg (lc%4*16),61,61] (by rintro i (_|⟨_,_|⟨_,_|⟨_,h⟩⟩⟩);exact QG4;exact b1;exact b1;cases h) (Qh rfl)
  rw [Qv,Q0,List.append_cons ((es.map QAg).map _),Q0,List.append_cons (((es.map QAg).map _)++_)] at f
  exact QAo R [.d (.bytes b),.d (.bool false),.s (B2 [] 0 0),.o (.next (B2 ((es.map QAg).map .int) 2 lc)),.b true,.d (.int (lc%4)),.d (.int (lc%4*16)),.d (.int (QAg (lc%4*16))),.d (.bytes (toB (es.map QAg++[QAg (lc%4*16),61,61])))]
   (QAZ (ai (QIG b)<|ai (QEN false)<|ai hb<|ai (okr (B2 [] 0 0))<|ai hL<|ai (eq1 2 2 rfl)<|ai (Qd hm (by decide:900≤1000))<|ai (QHu (bitAnd_m2 lc))<|
    ai (QIY (lc%4) 4 m0 (Int.lt_trans m1 (by decide)) (by decide) (by decide))<|ai (QFh (lc%4*16) (Int.mul_nonneg m0 (by decide)) (Int.mul_lt_mul_of_pos_right m1 (by decide)))<|
    ai (QN8 (x:= .int (QAg (lc%4*16))) hm (by decide:901≤1000))<|ai (QN8 (x:= .int 61) (QN8 (x:= .int (QAg (lc%4*16))) hm (Qf 901)) (by decide:902≤1000))<|ai f (@rfl D (.bytes (toB (es.map QAg++[QAg (lc%4*16),61,61]))))) (by kernel_rfl))
 ·refine oA (n4 (m:=16) (by decide)) fun m0 m1=>?_
  have f:=fin [QAg (lc%16*4),61] (by rintro i (_|⟨_,_|⟨_,h⟩⟩);exact QG4;exact b1;cases h) (Qh rfl)
  rw [Qv,Q0,List.append_cons ((es.map QAg).map _)] at f
  exact QAo R [.d (.bytes b),.d (.bool false),.s (B2 [] 0 0),.o (.next (B2 ((es.map QAg).map .int) 4 lc)),.b false,.b true,.d (.int (lc%16)),.d (.int (lc%16*4)),.d (.int (QAg (lc%16*4))),.d (.bytes (toB (es.map QAg++[QAg (lc%16*4),61])))]
   (QAZ (ai (QIG b)<|ai (QEN false)<|ai hb<|ai (okr (B2 [] 0 0))<|ai hL<|ai (eq0 4 2 (by decide))<|ai (eq1 4 4 rfl)<|ai (Qd hm (by decide:900≤1000))<|ai (QHu (bitAnd_m4 lc))<|
    ai (QIY (lc%16) 2 m0 (Int.lt_trans m1 (by decide)) (by decide) (by decide))<|ai (QFh (lc%16*4) (Int.mul_nonneg m0 (by decide)) (Int.mul_lt_mul_of_pos_right m1 (by decide)))<|
    ai (QN8 (x:= .int (QAg (lc%16*4))) hm (by decide:901≤1000))<|ai f (@rfl D (.bytes (toB (es.map QAg++[QAg (lc%16*4),61]))))) (by kernel_rfl))
end
noncomputable def QRF:QBR:=fun ds ks d=>∃c,ds=[.int c]∧ks=[]∧d= .int (QA5 c)
noncomputable abbrev FA:QC9:=tabOf [("_b64_value",QRF),("_ascii_buffer",QOd),("_truth",QIl)]
noncomputable def QBE(qp lc v:Int):List Int×Int×Int:=
 if qp=0 then ([],1,v) else if qp=1 then ([lc*4+v/16],2,v%16) else if qp=2 then ([lc*16+v/4],3,v%4) else ([lc*64+v],0,0)
noncomputable def QAc(qp lc:Int):List Int→List Int×Int×Int
 |[]=>([],qp,lc)
 |v::r=>((QBE qp lc v).1++(QAc (QBE qp lc v).2.1 (QBE qp lc v).2.2 r).1,(QAc (QBE qp lc v).2.1 (QBE qp lc v).2.2 r).2)
noncomputable def QOk(qp lc:Int):Prop:=0≤lc∧((qp=0∧lc<64)∨(qp=1∧lc<64)∨(qp=2∧lc<16)∨(qp=3∧lc<4))
theorem QDc(a b:Int){m n:Int}(a0:0≤a)(a1:a<m)(b0:0≤b)(b1:b<n):0≤a*n+b∧a*n+b<m*n:=
 ⟨Int.add_nonneg (Int.mul_nonneg a0 (Int.le_of_lt (Int.lt_of_le_of_lt b0 b1))) b0,QAK (Int.add_lt_add_left b1 _) (by
  have:=Int.mul_le_mul_of_nonneg_right (Int.add_one_le_of_lt a1) (Int.le_of_lt (Int.lt_of_le_of_lt b0 b1))
  rwa [Int.add_mul,Int.one_mul] at this)⟩
theorem QI0(v:Int){n m:Int}(hn:0<n)(v0:0≤v)(v1:v<m*n):0≤v/n∧v/n<m:=⟨Int.ediv_nonneg v0 (Int.le_of_lt hn),Int.ediv_lt_of_lt_mul hn v1⟩
theorem QJB(v:Int){n:Int}(hn:0<n):0≤v%n∧v%n<n:=⟨QAM _ (Int.ne_of_gt hn),QAO _ hn⟩
theorem QKw{x:Int}(h:0≤x∧x<256):∀y∈[x],0≤y∧y<256:=fun y hy=>Qy.mp hy▸h
theorem QHC{qp lc v:Int}(h:QOk qp lc)(v0:0≤v)(v1:v<64):QOk (QBE qp lc v).2.1 (QBE qp lc v).2.2∧(QBE qp lc v).1.length≤1∧∀x∈(QBE qp lc v).1,0≤x∧x<256:=by
 revert h
 refine rA fun h0 h=>?_
 rcases h with ⟨rfl,h⟩|⟨rfl,h⟩|⟨rfl,h⟩|⟨rfl,h⟩
 ·exact ⟨⟨v0,.inr (.inl ⟨rfl,v1⟩)⟩,Ql _,fun _ h=>nomatch h⟩
 ·have d:=QI0 v (n:=16) (m:=4) (by decide) v0 v1
  exact ⟨⟨(QJB v (n:=16) (by decide)).1,.inr (.inr (.inl ⟨rfl,(QJB v (n:=16) (by decide)).2⟩))⟩,Qf 1,QKw (QDc lc (v/16) (m:=64) (n:=4) h0 h d.1 d.2)⟩
 ·have d:=QI0 v (n:=4) (m:=16) (by decide) v0 v1
  exact ⟨⟨(QJB v (n:=4) (by decide)).1,.inr (.inr (.inr ⟨rfl,(QJB v (n:=4) (by decide)).2⟩))⟩,Qf 1,QKw (QDc lc (v/4) (m:=16) (n:=16) h0 h d.1 d.2)⟩
 ·exact ⟨⟨Int.le_refl 0,.inl ⟨rfl,(by decide:(0:Int)<64)⟩⟩,Qf 1,QKw (QDc lc v (m:=4) (n:=64) h0 h v0 v1)⟩
theorem QMn:∀(vs:List Int) (qp lc:Int),QOk qp lc→(∀v∈vs,0≤v∧v<64)→(QAc qp lc vs).1.length≤vs.length∧∀x∈(QAc qp lc vs).1,0≤x∧x<256:=by
 intro vs
 induction vs with
 |nil=>exact fun _ _ _ _=>⟨Qf 0,fun _ h=>nomatch h⟩
 |cons v r ih=>
  intro qp lc h hv
  refine oAA (QHC h (hv v (.head _)).1 (hv v (.head _)).2) fun k1 k2 k3=>?_
  refine oA (ih _ _ k1 fun x hx=>hv x (.tail _ hx)) fun r2 r3=>?_
  refine ⟨?_,fun x hx=>(Q8.mp hx).elim (k3 x) (r3 x)⟩
  show ((QBE qp lc v).1++_).length≤r.length+1
  rw [Qu,Nat.add_comm]
  exact Nat.add_le_add r2 k2
noncomputable def A2F(out:List D)(qp lc pd:Int):PS:=⟨⟨QAa 19,[(nm "quad_pos",.int qp),(nm "leftchar",.int lc),(nm "pads",.int pd),(nm "strict_mode",.bool false)]⟩,[(nm "out",out)]⟩
noncomputable def A2(out:List D)(qp lc pd i:Int):PS:=⟨⟨QAa 19,(nm "i",.int i)::(A2F out qp lc pd).ρ.vs⟩,(A2F out qp lc pd).os⟩
noncomputable def QF0(l vs:List Int):Prop:=∃cs k,l=cs++List.replicate k 61∧(∀c∈cs,c≠61∧0≤QA5 c∧QA5 c<64)∧cs.map QA5=vs∧
 (((QAc 0 0 vs).2.1=0∧k=0)∨((QAc 0 0 vs).2.1=2∧k=2)∨((QAc 0 0 vs).2.1=3∧k=1))
theorem lt1(a b:Int)(h:a<b):QA8 .Lt (.int a) (.int b)=some true:=congrArg some (decide_eq_true h)
theorem lt0(a b:Int)(h:b≤a):QA8 .Lt (.int a) (.int b)=some false:=congrArg some (decide_eq_false (QAN.mpr h))
theorem ne1(a b:Int)(h:a≠b):QA8 .NotEq (.int a) (.int b)=some true:=congrArg (fun r=>some (!r)) (QPJ h)
theorem ne0(a b:Int)(h:a=b):QA8 .NotEq (.int a) (.int b)=some false:=congrArg (fun r=>some (!r)) (QE3 h)
section
variable {prog:QV}{w:QX}{G:Gd prog w}{N:Nat}{te td:Array UInt8}
noncomputable abbrev a2T:Expr:=(lp (fnBody 19) 0).1
noncomputable abbrev a2B:List Stmt:=(lp (fnBody 19) 0).2
theorem QR9(R:Ev G N FA (CT te td)){out:List Int}{qp lc c i:Int}{r:List D}{o:Out}(q:QOk qp lc)(h61:c≠61)(v0:0≤QA5 c)(v1:QA5 c<64)(hlen:out.length≤900)
  (h:FLt G N a2T a2B r (A2 ((out++(QBE qp lc (QA5 c)).1).map .int) (QBE qp lc (QA5 c)).2.1 (QBE qp lc (QA5 c)).2.2 0 (i+1)) o):FLt G N a2T a2B (.int c::r) (A2 (out.map .int) qp lc 0 i) o:=by
 have s:QRF [.int c] [] (.int (QA5 c)):=⟨c,rfl,rfl,rfl⟩
 revert v0 v1 h s
 generalize QA5 c=v
 intro v0 v1 h s
 revert q
 refine rA fun h0 q=>?_
 have hl:(out.map D.int).length≤1000:=QCk (Qd hlen (by decide))
 rw [Qv] at h
 rcases q with ⟨rfl,q⟩|⟨rfl,q⟩|⟨rfl,q⟩|⟨rfl,q⟩
 ·rw [show out.map D.int++(QBE 0 lc v).1.map .int=out.map .int from List.append_nil _] at h
  exact QBv R (bs:=[(nm "this_ch",.int c)]) [.b false,.d (.int v),.b false,.b false,.b true] rfl
   (QAZ (ai (eq0 c 61 h61)<|ai s<|ai (ge0 v 64 v1)<|ai (rfl (a:=some false))<|ai (eq1 0 0 rfl) (okr (A2 (out.map .int) 1 v 0 (i+1)))) (by kernel_rfl)) h
 ·have d:=QI0 v (n:=16) (m:=4) (by decide) v0 v1
  exact QBv R (bs:=[(nm "this_ch",.int c)]) [.b false,.d (.int v),.b false,.b false,.b false,.b true,.d (.int (lc*4)),.d (.int (v/16)),.d (.int (lc*4+v/16)),.d (.int (v%16))] rfl
   (QAZ (ai (eq0 c 61 h61)<|ai s<|ai (ge0 v 64 v1)<|ai (rfl (a:=some false))<|ai (eq0 1 0 (by decide))<|ai (eq1 1 1 rfl)<|ai hl<|ai (QIY lc 2 h0 (Int.lt_trans q (by decide)) (by decide) (by decide))<|ai (QOZ v 4 (by decide) (by decide))<|
    ai (QQi lc (v/16) 2 d.1 d.2)<|ai (QHu (bitAnd_m4 v)) (okr (A2 (out.map .int++[.int (lc*4+v/16)]) 2 (v%16) 0 (i+1)))) (by kernel_rfl)) h
 ·have d:=QI0 v (n:=4) (m:=16) (by decide) v0 v1
  exact QBv R (bs:=[(nm "this_ch",.int c)]) [.b false,.d (.int v),.b false,.b false,.b false,.b false,.b true,.d (.int (lc*16)),.d (.int (v/4)),.d (.int (lc*16+v/4)),.d (.int (v%4))] rfl
   (QAZ (ai (eq0 c 61 h61)<|ai s<|ai (ge0 v 64 v1)<|ai (rfl (a:=some false))<|ai (eq0 2 0 (by decide))<|ai (eq0 2 1 (by decide))<|ai (eq1 2 2 rfl)<|ai hl<|ai (QIY lc 4 h0 (Int.lt_trans q (by decide)) (by decide) (by decide))<|ai (QOZ v 2 (by decide) (by decide))<|
    ai (QQi lc (v/4) 4 d.1 d.2)<|ai (QHu (bitAnd_m2 v)) (okr (A2 (out.map .int++[.int (lc*16+v/4)]) 3 (v%4) 0 (i+1)))) (by kernel_rfl)) h
 ·exact QBv R (bs:=[(nm "this_ch",.int c)]) [.b false,.d (.int v),.b false,.b false,.b false,.b false,.b false,.d (.int (lc*64)),.d (.int (lc*64+v))] rfl
   (QAZ (ai (eq0 c 61 h61)<|ai s<|ai (ge0 v 64 v1)<|ai (rfl (a:=some false))<|ai (eq0 3 0 (by decide))<|ai (eq0 3 1 (by decide))<|ai (eq0 3 2 (by decide))<|ai hl<|ai (QIY lc 6 h0 (Int.lt_trans q (by decide)) (by decide) (by decide))<|
    ai (QQi lc v 6 v0 v1) (okr (A2 (out.map .int++[.int (lc*64+v)]) 0 0 0 (i+1)))) (by kernel_rfl)) h
theorem QSF(R:Ev G N FA (CT te td)){rest:List D}{o:Out}:∀(cs out:List Int) (qp lc i:Int),QOk qp lc→(∀c∈cs,c≠61∧0≤QA5 c∧QA5 c<64)→out.length+cs.length≤900→
  (∀i,FLt G N a2T a2B rest (A2 ((out++(QAc qp lc (cs.map QA5)).1).map .int) (QAc qp lc (cs.map QA5)).2.1 (QAc qp lc (cs.map QA5)).2.2 0 i) o)→FLt G N a2T a2B (cs.map .int++rest) (A2 (out.map .int) qp lc 0 i) o:=by
 intro cs
 induction cs with
 |nil=>
  intro out qp lc i _ _ _ h
  have:=h i
  rwa [show out++(QAc qp lc (([]:List Int).map QA5)).1=out from List.append_nil _] at this
 |cons c r ih=>
  intro out qp lc i q hc hlen h
  rw [Qz] at hlen
  refine oAA (hc c (.head _)) fun c1 c2 c3=>?_
  refine oAA (QHC q c2 c3) fun k1 k2 _=>?_
  refine QR9 R q c1 c2 c3 (Qd (Qg _ _) hlen) (ih _ _ _ _ k1 (fun x hx=>hc x (.tail _ hx)) ?_ fun j=>?_)
  ·rw [Qu,Nat.add_assoc];exact Qd (Nat.add_le_add_left (Nat.add_comm _ _▸Nat.add_le_add_left k2 _) _) hlen
  ·rw [Q5];exact h j
theorem QLg(R:Ev G N FA (CT te td)){out:List D}{qp lc pd i:Int}{r:List D}{o:Out}(h1:2≤qp)(h2:qp+(pd+1)≤4)(h:FLt G N a2T a2B r (A2 out qp lc (pd+1) (i+1)) o):FLt G N a2T a2B (.int 61::r) (A2 out qp lc pd i) o:=
 QBv R (bs:=[(nm "this_ch",.int 61)]) [.b true,.b true,.b true] rfl (QAZ (ai (eq1 61 61 rfl)<|ai (ge1 qp 2 h1)<|ai (le1 (qp+(pd+1)) 4 h2) (okr (A2 out qp lc (pd+1) (i+1)))) (by kernel_rfl)) h
theorem QPS{out:List D}{qp lc pd i:Int}:FLt G N a2T a2B [] (A2 out qp lc pd i) (.next (A2F out qp lc pd)):= .nil (.of (QAZ (okr (A2F out qp lc pd)) (by kernel_rfl)))
theorem QTT(R:Ev G N FA (CT te td)){b:Array UInt8}{vs:List Int}(hsz:b.size≤100)(h:QF0 (QBK b) vs):QAu G N (QAa 19) (fnBody 19) [(nm "data",.bytes b),(nm "strict_mode",.bool false)] (.bytes (toB (QAc 0 0 vs).1)):=by
 revert h
 refine QCO fun cs k hb hcs ζ4 hk=>?_
 subst ζ4
 have q0:QOk 0 0:=⟨Int.le_refl 0,.inl ⟨rfl,by decide⟩⟩
 have hlen:cs.length≤100:=by
  have:=congrArg List.length hb
  rw [QE1,Qu] at this
  exact Qd (Qg _ _) (this▸hsz)
 obtain ⟨dl,dr⟩:=QMn (cs.map QA5) 0 0 q0 fun v hv=>by (refine oEA (Qw.mp hv) fun c hc ζ2=>?_;subst ζ2);exact (hcs c hc).2
 rw [Qs] at dl
 have f:=QGC _ dr (Qd dl (Qd hlen (by decide)))
 have hL:∀{o},(∀i,FLt G N a2T a2B (List.replicate k (.int 61)) (A2 ((QAc 0 0 (cs.map QA5)).1.map .int) (QAc 0 0 (cs.map QA5)).2.1 (QAc 0 0 (cs.map QA5)).2.2 0 i) o)→FLt G N a2T a2B (b.toList.map fun j=>D.int ((j.toNat:Nat):Int)) (A2 [] 0 0 0 0) o:=fun h=>by
  rw [QKB,hb,Qv,List.map_replicate]
  exact QSF R cs [] 0 0 0 q0 hcs (Qd (Nat.add_le_add_left hlen _) (by decide)) h
 revert f hL hk
 generalize (QAc 0 0 (cs.map QA5)).1=es
 generalize (QAc 0 0 (cs.map QA5)).2.1=qp
 generalize (QAc 0 0 (cs.map QA5)).2.2=lc
 intro hk f hL
 have hs:b.size≤1000:=Qd hsz (by decide)
 rcases hk with ⟨rfl,rfl⟩|⟨rfl,rfl⟩|⟨rfl,rfl⟩
 ·exact QAo R [.d (.bytes b),.d (.bool false),.s (A2 [] 0 0 0 0),.o (.next (A2F (es.map .int) 0 lc 0)),.b false,.b false,.d (.bytes (toB es))]
   (QAZ (ai (QIG b)<|ai (QEN false)<|ai hs<|ai (okr (A2 [] 0 0 0 0))<|ai (hL fun i=>QPS (i:=i))<|ai (eq0 0 1 (by decide))<|ai (ne0 0 0 rfl)<|ai f (@rfl D (.bytes (toB es)))) (by kernel_rfl))
 ·exact QAo R [.d (.bytes b),.d (.bool false),.s (A2 [] 0 0 0 0),.o (.next (A2F (es.map .int) 2 lc 2)),.b false,.b true,.b false,.d (.bytes (toB es))]
   (QAZ (ai (QIG b)<|ai (QEN false)<|ai hs<|ai (okr (A2 [] 0 0 0 0))<|ai (hL fun i=>QLg R (by decide) (by decide) (QLg R (by decide) (by decide) QPS))<|ai (eq0 2 1 (by decide))<|ai (ne1 2 0 (by decide))<|ai (lt0 4 4 (by decide))<|ai f (@rfl D (.bytes (toB es)))) (by kernel_rfl))
 ·exact QAo R [.d (.bytes b),.d (.bool false),.s (A2 [] 0 0 0 0),.o (.next (A2F (es.map .int) 3 lc 1)),.b false,.b true,.b false,.d (.bytes (toB es))]
   (QAZ (ai (QIG b)<|ai (QEN false)<|ai hs<|ai (okr (A2 [] 0 0 0 0))<|ai (hL fun i=>QLg R (by decide) (by decide) QPS)<|ai (eq0 3 1 (by decide))<|ai (ne1 3 0 (by decide))<|ai (lt0 4 4 (by decide))<|ai f (@rfl D (.bytes (toB es)))) (by kernel_rfl))
end
noncomputable def QEn(x:Str):Array UInt8:=x.cps.map fun k=>UInt8.ofNat k
noncomputable def trB(t b:Array UInt8):Array UInt8:=b.map fun k=>t.getD k.toNat 0
noncomputable def QPP(x:Str):Prop:=x.cps.size≤100∧(x.cps.toList.all fun k=>decide (k<128))=true
noncomputable def QSN:QBR:=fun ds ks d=>∃b,ds=[.bytes b]∧ks=[(nm "newline",.bool false)]∧b.size≤100∧d= .bytes (toB (QB8 (QBK b)))
noncomputable def QPj:QBR:=fun ds ks d=>∃b vs,ds=[.bytes b]∧ks=[(nm "strict_mode",.bool false)]∧b.size≤100∧QF0 (QBK b) vs∧d= .bytes (toB (QAc 0 0 vs).1)
noncomputable def QH9:QBR:=fun ds ks d=>ks=[]∧((∃x,ds=[.str x]∧QPP x∧d= .bytes (QEn x))∨∃b,ds=[.bytes b]∧d= .bytes b)
noncomputable def QOq:QBR:=fun ds ks d=>∃b,ds=[.bytes b]∧ks=[]∧b.size≤100∧d= .bytes (toB (QB8 (QBK b)))
noncomputable def sDec:QBR:=fun ds ks d=>ks=[]∧∃vs,d= .bytes (toB (QAc 0 0 vs).1)∧((∃x,ds=[.str x]∧QPP x∧QF0 (QBK (QEn x)) vs)∨∃b,ds=[.bytes b]∧b.size≤100∧QF0 (QBK b) vs)
noncomputable def QOn(te:Array UInt8):QBR:=fun ds ks d=>∃b,ds=[.bytes b]∧ks=[]∧b.size≤100∧d= .bytes (trB te (toB (QB8 (QBK b))))
noncomputable def QO8(td:Array UInt8):QBR:=fun ds ks d=>ks=[]∧∃x vs,ds=[.str x]∧QPP x∧QF0 (QBK (trB td (QEn x))) vs∧d= .bytes (toB (QAc 0 0 vs).1)
theorem QIC{x:Str}:(QEn x).size=x.cps.size:=Array.size_map
theorem QKA{t b:Array UInt8}:(trB t b).size=b.size:=Array.size_map
theorem QJr(lb lc:Int):(QFA lb lc).length≤3:=by
 unfold QFA
 by_cases h:lb=2
 ·rw [if_pos h];exact Qf 3
 ·rw [if_neg h]
  by_cases h:lb=4
  ·rw [if_pos h];exact (by decide:2≤3)
  ·rw [if_neg h];exact Ql 3
theorem QJ9{l:List Int}:(toB l).size=l.length:=Qs ..
theorem QFo{b:Array UInt8}(h:b.size≤100):(toB (QB8 (QBK b))).size≤1000:=by
 rw [QJ9,QB8,Qu,Qs]
 exact Qd (Nat.add_le_add (Qd (QHX (QBK b) 0 0 (.inl rfl) ⟨Int.le_refl _,by decide⟩).1 (Nat.mul_le_mul_left 2 (QE1▸h))) (QJr _ _)) (by decide)
theorem QL4{b t:Array UInt8}(ht:t.size=256)(hb:b.size≤1000):QDG (nm "translate") (.bytes b) [.bytes t]=some (.bytes (trB t b)):=by
 unfold QDG
 rw [if_neg (by decide),if_neg (by decide),if_neg (by decide),if_pos (by decide)]
 exact if_pos ⟨ht,hb⟩
theorem QJf{b:Array UInt8}(h0:0<b.size)(hb:b.size≤1000)(h:(b.toList.all fun k=>decide (k<128))=true):QDG (nm "decode") (.bytes b) [.str (nm "ascii")]=some (.str (asc b)):=by
 unfold QDG
 rw [if_neg (by decide),if_neg (by decide),if_pos (by decide)]
 exact if_pos ⟨by decide,h0,hb,h⟩
noncomputable def signs(coat:Int):Str:=nm "ABCDEFGHIJKLMNOPQRSTUVWXYZabcdefghijklmnopqrstuvwxyz0123456789"++nm (if coat=0 then "+/" else "-_")
theorem QGa(coat:Int):(signs coat).cps.size=64:=by
 unfold signs
 by_cases h:coat=0
 ·rw [if_pos h];decide+kernel
 ·rw [if_neg h];decide+kernel
noncomputable def sign(coat i:Int):Str:=⟨#[(signs coat).cps.getD i.toNat 0]⟩
noncomputable def eqs(n:Nat):Str:=⟨(List.replicate ((-(n:Int)).fmod 4).toNat (nm "=").cps).foldl (· ++ ·) #[]⟩
noncomputable def QBF(figs:List Int)(coat:Int):Str:=QCQ (figs.map (sign coat))++eqs figs.length
theorem QRf{coat i:Int}(h:0≤i∧i<64):QBb (.str (signs coat)) (.int i)=some (.str (sign coat i)):=
 if_pos (c:=0≤i∧i<(signs coat).cps.size∧(signs coat).cps.size≤1000) ⟨h.1,by rw [QGa];exact h.2,by rw [QGa];decide⟩
theorem QMd{α:Type}{h:α→Str}(l:List α):QD6 (l.map fun x=> .str (h x))=some (l.map h):=by
 induction l with
 |nil=>rfl
 |cons x r ih=>show (QD6 (r.map fun x=> .str (h x))).map (h x:: ·)=_;rw [ih];rfl
theorem QRR{ss:List Str}{ds:List D}(hd:QD6 ds=some ss)(h1:ss.length≤1000)(h2:(QCQ ss).length≤1000):QDG (nm "join") (.str (nm "")) [.list ds]=some (.str (QCQ ss)):=by
 unfold QDG
 rw [if_pos (by decide)]
 show (if (nm "").cps.size=0 then (QD6 ds).bind fun ss=>if ss.length≤1000∧(QCQ ss).length≤1000 then some (D.str (QCQ ss)) else none else none)=_
 rw [if_pos (by decide+kernel),hd]
 exact if_pos ⟨h1,h2⟩
theorem QMQ{ds:List D}{n:Nat}(hn:ds.length=n)(h:n≤1000):dCall (nm "len") [.list ds]=some (.int n):=by
 subst hn;exact if_pos (c:=ds.length≤1000) h
theorem QGv{coat:Int}(figs:List Int):(QCQ (figs.map (sign coat))).length=figs.length:=by
 rw [QFj,Q3]
 induction figs with
 |nil=>rfl
 |cons x r ih=>rw [Q0,List.sum_cons,ih,Qz,Nat.add_comm];rfl
theorem fm4(n:Int):0≤n.fmod 4∧n.fmod 4<4:=⟨Int.fmod_nonneg_of_pos _ (by decide),Int.fmod_lt_of_pos _ (by decide)⟩
theorem QQ7(n:Nat):QB1 .Mult (.str (nm "=")) (.int ((-(n:Int)).fmod 4))=some (.str (eqs n)):=
 if_pos (c:=(nm "=").length=1∧0≤(-(n:Int)).fmod 4∧(-(n:Int)).fmod 4≤1000) ⟨by decide+kernel,(fm4 _).1,QAJ (Int.le_of_lt (fm4 _).2) (by decide)⟩
theorem QQf{n:Nat}:(eqs n).length≤3:=by
 unfold eqs
 rw [QLn,show (nm "=").length=1 by decide+kernel,Nat.mul_one]
 exact Int.toNat_le.mpr (Int.le_of_lt_add_one (fm4 _).2)
theorem QSY(a b:Str)(h1:a.length≤1000)(h2:b.length≤1000):QB1 .Add (.str a) (.str b)=some (.str (a++b)):=if_pos (c:=a.length≤1000∧b.length≤1000) ⟨h1,h2⟩
theorem QDR(a b:Int)(h:b≠0):QB1 .Mod (.int a) (.int b)=some (.int (a.fmod b)):=if_pos h
theorem tr1(i:Int)(h:i≠0):QC2 (.int i)=some true:=congrArg some (bne_iff_ne.mpr h)
theorem tr0(i:Int)(h:i=0):QC2 (.int i)=some false:=by subst h;rfl
noncomputable def encOf(te:Array UInt8)(coat:Int)(b:Array UInt8):Array UInt8:=if coat=0 then toB (QB8 (QBK b)) else trB te (toB (QB8 (QBK b)))
section
variable {prog:QV}{w:QX}{G:Gd prog w}{N:Nat}{te td:Array UInt8}
theorem QSl(R:Ev G N (tabOf [("b2a_base64",QSN)]) (CT te td)){b:Array UInt8}(hsz:b.size≤100):QAu G N (QAa 22) (fnBody 22) [(nm "s",.bytes b),(nm "altchars",.none)] (.bytes (toB (QB8 (QBK b)))):=
 QAo R [.d (.bytes (toB (QB8 (QBK b))))] (QAZ (ai (⟨b,rfl,rfl,hsz,rfl⟩:QSN [.bytes b] [(nm "newline",.bool false)] (.bytes (toB (QB8 (QBK b))))) (@rfl D (.bytes (toB (QB8 (QBK b)))))) (by kernel_rfl))
theorem QSO(R:Ev G N (tabOf [("b64encode",QOq)]) (CT te td))(ht:te.size=256){b:Array UInt8}(hsz:b.size≤100):QAu G N (QAa 26) (fnBody 26) [(nm "s",.bytes b)] (.bytes (trB te (toB (QB8 (QBK b))))):=
 QAo R [.d (.bytes (toB (QB8 (QBK b)))),.d (.bytes (trB te (toB (QB8 (QBK b)))))] (QAZ (ai (⟨b,rfl,rfl,hsz,rfl⟩:QOq [.bytes b] [] (.bytes (toB (QB8 (QBK b)))))<|ai (QL4 ht (QFo hsz)) (@rfl D (.bytes (trB te (toB (QB8 (QBK b))))))) (by kernel_rfl))
theorem QQx(R:Ev G N (tabOf [("_bytes_from_decode_data",QH9),("a2b_base64",QPj)]) (CT te td)){b:Array UInt8}{s:D}{vs:List Int}(h1:QH9 [s] [] (.bytes b))(hsz:b.size≤100)(h:QF0 (QBK b) vs):QAu G N (QAa 23) (fnBody 23) [(nm "s",s),(nm "altchars",.none),(nm "validate",.bool false)] (.bytes (toB (QAc 0 0 vs).1)):=
 QAo R [.d (.bytes b),.d (.bytes (toB (QAc 0 0 vs).1))] (QAZ (ai h1<|ai (⟨b,vs,rfl,rfl,hsz,h,rfl⟩:QPj [.bytes b] [(nm "strict_mode",.bool false)] (.bytes (toB (QAc 0 0 vs).1))) (@rfl D (.bytes (toB (QAc 0 0 vs).1)))) (by kernel_rfl))
theorem QRY(R:Ev G N (tabOf [("_bytes_from_decode_data",QH9),("b64decode",sDec)]) (CT te td))(ht:td.size=256){x:Str}{vs:List Int}(hx:QPP x)(h:QF0 (QBK (trB td (QEn x))) vs):QAu G N (QAa 27) (fnBody 27) [(nm "s",.str x)] (.bytes (toB (QAc 0 0 vs).1)):=
 QAo R [.d (.bytes (QEn x)),.d (.bytes (trB td (QEn x))),.d (.bytes (toB (QAc 0 0 vs).1))] (QAZ (ai (⟨rfl,.inl ⟨x,rfl,hx,rfl⟩⟩:QH9 [.str x] [] (.bytes (QEn x)))<|ai (QL4 ht (QIC▸Qd hx.1 (by decide)))<|
  ai (⟨rfl,vs,rfl,.inr ⟨trB td (QEn x),rfl,(by rw [QKA,QIC];exact hx.1),h⟩⟩:sDec [.bytes (trB td (QEn x))] [] (.bytes (toB (QAc 0 0 vs).1))) (@rfl D (.bytes (toB (QAc 0 0 vs).1)))) (by kernel_rfl))
theorem QR7(R:Ev G N (tabOf []) (CT te td))(figs:List Int)(coat:Int)(hl:figs.length≤100)(hf:∀i∈figs,0≤i∧i<64):QAu G N (QAa 37) (fnBody 37) [(nm "figures",.list (figs.map .int)),(nm "coat",.int coat)] (.str (QBF figs coat)):=by
 have hc:CLt G N (cp (fnBody 37) 0).t (cp (fnBody 37) 0).ifs (cp (fnBody 37) 0).e (cp (fnBody 37) 0).sc ⟨QAa 37,[(nm "signs",.str (signs coat))]⟩ (figs.map .int) (figs.map fun f=> .str (sign coat f)):=
  QCV R (bs:=fun a=>[(nm "figure",.int a)]) (fun a=>[.d (.str (sign coat a))]) figs fun a ha=>⟨rfl,QAZ (ai (QRf (coat:=coat) (hf a ha)) (@rfl D (.str (sign coat a)))) (by kernel_rfl)⟩
 have hj:=QRR (QMd (h:=sign coat) figs) (by rw [Qs];exact Qd hl (by decide)) (by rw [QGv];exact Qd hl (by decide))
 have hs:∃b,QC2 (.int coat)=some b∧QB1 .Add (.str (nm "ABCDEFGHIJKLMNOPQRSTUVWXYZabcdefghijklmnopqrstuvwxyz0123456789")) (.str (nm (if b then "-_" else "+/")))=some (.str (signs coat)):=by
  unfold signs
  by_cases h:coat=0
  ·rw [if_pos h];exact ⟨false,tr0 _ h,QSY _ _ (by decide+kernel) (by decide+kernel)⟩
  ·rw [if_neg h];exact ⟨true,tr1 _ h,QSY _ _ (by decide+kernel) (by decide+kernel)⟩
 revert hs
 refine rEA fun b h1 h2=>?_
 have ha:QB1 .Add (.str (QCQ (figs.map (sign coat)))) (.str (eqs figs.length))=some (.str (QBF figs coat)):=QSY _ _ (by rw [QGv];exact Qd hl (by decide)) (Qd QQf (by decide))
 have hn:=QMQ (Qs (f:=D.int) (as:=figs)) (Qd hl (by decide))
 have hl2:(figs.map D.int).length≤1000:=QCk (Qd hl (by decide))
 cases b with
 |true=>
  exact QAo R [.b true,.d (.str (signs coat)),.s ⟨⟨QAa 37,[(nm "signs",.str (signs coat))]⟩,[]⟩,.l (figs.map fun f=> .str (sign coat f)),.d (.str (QCQ (figs.map (sign coat)))),.d (.int figs.length),.d (.int ((-(figs.length:Int)).fmod 4)),.d (.str (eqs figs.length)),.d (.str (QBF figs coat))]
   (QAZ (ai h1<|ai h2<|ai hl2<|ai (oke ⟨⟨QAa 37,[(nm "signs",.str (signs coat))]⟩,[]⟩)<|ai hc<|ai hj<|ai hn<|ai (QDR (-(figs.length:Int)) 4 (by decide))<|ai (QQ7 figs.length)<|ai ha (@rfl D (.str (QBF figs coat)))) (by kernel_rfl))
 |false=>
  exact QAo R [.b false,.d (.str (signs coat)),.s ⟨⟨QAa 37,[(nm "signs",.str (signs coat))]⟩,[]⟩,.l (figs.map fun f=> .str (sign coat f)),.d (.str (QCQ (figs.map (sign coat)))),.d (.int figs.length),.d (.int ((-(figs.length:Int)).fmod 4)),.d (.str (eqs figs.length)),.d (.str (QBF figs coat))]
   (QAZ (ai h1<|ai h2<|ai hl2<|ai (oke ⟨⟨QAa 37,[(nm "signs",.str (signs coat))]⟩,[]⟩)<|ai hc<|ai hj<|ai hn<|ai (QDR (-(figs.length:Int)) 4 (by decide))<|ai (QQ7 figs.length)<|ai ha (@rfl D (.str (QBF figs coat)))) (by kernel_rfl))
theorem QMx(R:Ev G N (tabOf [("urlsafe_b64encode",QOn te),("b64encode",QOq)]) (CT te td)){b:Array UInt8}(coat:Int)(hb:b.size≤100)(h0:0<(encOf te coat b).size)(ha:((encOf te coat b).toList.all fun k=>decide (k<128))=true):
  QAu G N (QAa 39) (fnBody 39) [(nm "row",.bytes b),(nm "coat",.int coat)] (.str (asc (encOf te coat b))):=by
 by_cases h:coat=0
 ·have e:encOf te coat b=toB (QB8 (QBK b)):=if_pos h
  rw [e] at h0 ha⊢
  exact QAo R [.b false,.d (.bytes (toB (QB8 (QBK b)))),.d (.str (asc (toB (QB8 (QBK b)))))] (QAZ (ai (tr0 coat h)<|ai (⟨b,rfl,rfl,hb,rfl⟩:QOq [.bytes b] [] (.bytes (toB (QB8 (QBK b)))))<|ai (QJf h0 (QFo hb) ha) (@rfl D (.str (asc (toB (QB8 (QBK b))))))) (by kernel_rfl))
 ·have e:encOf te coat b=trB te (toB (QB8 (QBK b))):=if_neg h
  rw [e] at h0 ha⊢
  exact QAo R [.b true,.d (.bytes (trB te (toB (QB8 (QBK b))))),.d (.str (asc (trB te (toB (QB8 (QBK b))))))] (QAZ (ai (tr1 coat h)<|ai (⟨b,rfl,rfl,hb,rfl⟩:QOn te [.bytes b] [] (.bytes (trB te (toB (QB8 (QBK b))))))<|ai (QJf h0 (by rw [QKA];exact QFo hb) ha) (@rfl D (.str (asc (trB te (toB (QB8 (QBK b)))))))) (by kernel_rfl))
end
noncomputable def numOf(n:Int):List Int→Int
 |[]=>n
 |o::r=>numOf (n*256+o) r
noncomputable def QBJ(n:Int):List Int→Int
 |[]=>n
 |o::r=>QBJ (n*64+o) r
noncomputable def QAs(L:Nat):Nat:=(4*L+2)/3
noncomputable def QAX(os:List Int):List Int:=(List.range (QAs os.length)).map fun at_=>((numOf 0 os*4^(3*QAs os.length-4*os.length)).fdiv (64^(QAs os.length-1-at_))).fmod 64
noncomputable def QCF(m:Nat):Nat:=3*m/4
noncomputable def QBI(fs:List Int):List Int:=(List.range (QCF fs.length)).map fun at_=>(((QBJ 0 fs).fdiv (4^(3*fs.length-4*QCF fs.length))).fdiv (256^(QCF fs.length-1-at_))).fmod 256
theorem QOG(a b:Int)(h: -big<a∧a<big∧-big<b∧b<big):QB1 .Mult (.int a) (.int b)=some (.int (a*b)):=if_pos h
theorem QFu(a b:Int){c:Int}(h:a*b=c)(h0:0≤a)(h1:a<2^100)(b0:0≤b)(b1:b≤65536):QB1 .Mult (.int a) (.int b)=some (.int c):=by
 subst h
 exact QOG a b ⟨QAK (by decide) h0,Int.lt_trans h1 (by decide),QAK (by decide) b0,Int.lt_of_le_of_lt b1 (by decide)⟩
theorem QSQ(L:Nat)(h:L≤1000):QB1 .Mult (.int (-4)) (.int (L:Nat))=some (.int (-4*(L:Nat))):=
 QOG _ _ ⟨by decide,by decide,QAK (by decide) (QAC L),Int.lt_of_le_of_lt (QAE.mpr h) (by decide)⟩
theorem pw(b k m:Nat)(h:k≤m)(hb:0<b)(hm:b^m<2^199):0<((b:Nat):Int)^k∧((b:Nat):Int)^k≠0∧-big<((b:Nat):Int)^k∧((b:Nat):Int)^k<big:=by
 have h0:0<((b:Nat):Int)^k:=Int.pow_pos (QAL.mpr hb)
 refine ⟨h0,Int.ne_of_gt h0,Int.lt_trans (by decide) h0,?_⟩
 have h1:b^k<2^199:=Qj (Nat.pow_le_pow_right hb h) hm
 rw [←Int.natCast_pow]
 exact Int.lt_trans (QAL.mpr h1) (by decide)
theorem QCz(a b:Int)(h:b≠0∧-big<b∧b<big):QB1 .FloorDiv (.int a) (.int b)=some (.int (a.fdiv b)):=if_pos h
theorem QJi(a b:Int){c:Int}(h:a^b.toNat=c)(h0:0≤b)(h1:b≤64)(h2:0≤a)(h3:a≤256):QB1 .Pow (.int a) (.int b)=some (.int c):=by subst h;exact if_pos ⟨h0,h1,h2,h3⟩
theorem QMa:∀(n k:Nat),QCA (k:Nat) n=(List.range' k n).map fun i=>D.int ((i:Nat):Int):=by
 intro n
 induction n with
 |zero=>exact fun _=>rfl
 |succ n ih=>intro k;exact congrArg (D.int (k:Nat):: ·) (ih (k+1))
theorem QIq(n:Nat):QCA 0 n=(List.range n).map fun i=>D.int ((i:Nat):Int):=by rw [List.range_eq_range'];exact QMa n 0
theorem QO2:∀(l:List Int) (n:Int) (j:Nat),0≤n→n<256^j→(∀o∈l,0≤o∧o<256)→0≤numOf n l∧numOf n l<256^(j+l.length):=by
 intro l
 induction l with
 |nil=>exact fun n j h0 h1 _=>⟨h0,h1⟩
 |cons o r ih=>
  intro n j h0 h1 h
  have c:=QDc n o (m:=256^j) (n:=256) h0 h1 (h o (.head _)).1 (h o (.head _)).2
  have:=ih (n*256+o) (j+1) c.1 (Int.pow_succ 256 j▸c.2) fun x hx=>h x (.tail _ hx)
  rwa [Nat.add_assoc,Nat.add_comm 1] at this
theorem QRr{n:Int}(b j:Nat){k:Nat}(h:n<((b:Nat):Int)^j)(hj:j≤k)(hb:0<b)(hk:b^k≤2^100):n<2^100:=by
 refine QAK h ?_
 rw [←Int.natCast_pow]
 exact QAE.mpr (Qd (Nat.pow_le_pow_right hb hj) hk)
section
variable {prog:QV}{w:QX}{G:Gd prog w}{N:Nat}{te td:Array UInt8}{F:QC9}{C:QCl}
noncomputable def N2(xs:List D)(n:Int):PS:=⟨⟨QAa 35,[(nm "number",.int n),(nm "octets",.list xs)]⟩,[]⟩
noncomputable def N3(xs:List D)(n:Int):PS:=⟨⟨QAa 36,[(nm "number",.int n),(nm "figures",.list xs)]⟩,[]⟩
theorem QPm(R:Ev G N F C){xs:List D}:∀(l:List Int) (n:Int) (j:Nat),0≤n→n<256^j→j+l.length≤10→(∀o∈l,0≤o∧o<256)→FLt G N (lp (fnBody 35) 0).1 (lp (fnBody 35) 0).2 (l.map .int) (N2 xs n) (.next (N2 xs (numOf n l))):=by
 intro l
 induction l with
 |nil=>exact fun _ _ _ _ _ _=>QI1
 |cons o r ih=>
  intro n j h0 h1 hj h
  have c:=QDc n o (m:=256^j) (n:=256) h0 h1 (h o (.head _)).1 (h o (.head _)).2
  rw [Qz] at hj
  exact QBv R (bs:=[(nm "octet",.int o)]) [.d (.int (n*256))] rfl (QAZ (ai (QFu n 256 rfl h0 (QRr 256 j h1 (Qd (Qg _ _) hj) (by decide) (by decide)) (by decide) (by decide)) (okr (N2 xs (n*256+o)))) (by kernel_rfl))
   (ih (n*256+o) (j+1) c.1 (Int.pow_succ 256 j▸c.2) (by rw [Nat.add_assoc,Nat.add_comm 1];exact hj) fun x hx=>h x (.tail _ hx))
theorem QQb(R:Ev G N F C){xs:List D}:∀(l:List Int) (n:Int) (j:Nat),0≤n→n<64^j→j+l.length≤10→(∀o∈l,0≤o∧o<64)→FLt G N (lp (fnBody 36) 0).1 (lp (fnBody 36) 0).2 (l.map .int) (N3 xs n) (.next (N3 xs (QBJ n l))):=by
 intro l
 induction l with
 |nil=>exact fun _ _ _ _ _ _=>QI1
 |cons o r ih=>
  intro n j h0 h1 hj h
  have c:=QDc n o (m:=64^j) (n:=64) h0 h1 (h o (.head _)).1 (h o (.head _)).2
  rw [Qz] at hj
  exact QBv R (bs:=[(nm "figure",.int o)]) [.d (.int (n*64))] rfl (QAZ (ai (QFu n 64 rfl h0 (QRr 64 j h1 (Qd (Qg _ _) hj) (by decide) (by decide)) (by decide) (by decide)) (okr (N3 xs (n*64+o)))) (by kernel_rfl))
   (ih (n*64+o) (j+1) c.1 (Int.pow_succ 64 j▸c.2) (by rw [Nat.add_assoc,Nat.add_comm 1];exact hj) fun x hx=>h x (.tail _ hx))
theorem QMz:∀L:Fin 6,-((-4*((L.val:Nat):Int)).fdiv 3)=((QAs L.val:Nat):Int)∧QAs L.val≤7∧4*L.val≤3*QAs L.val∧3*QAs L.val-4*L.val≤2:=by decide+kernel
theorem dig(n b m i:Nat)(hb:0<b)(hm:m≤10)(hb2:b≤256)(hi:i<m){M:Int}(hM:M=(m:Nat)):QB1 .Pow (.int (b:Nat)) (.int (M-1-(i:Nat)))=some (.int (((b:Nat):Int)^(m-1-i))):=by
 have e:M-1-((i:Nat):Int)=((m-1-i:Nat):Int):=by
  rw [hM,Int.ofNat_sub (Nat.le_sub_one_of_lt hi),Int.ofNat_sub (Nat.succ_le_of_lt (Qj (Ql _) hi))];rfl
 rw [e]
 exact QJi _ _ (by rw [QAD]) (QAC _) (QAE.mpr (Qd (Nat.sub_le _ _) (Qd (Nat.sub_le _ _) (Qd hm (by decide))))) (QAC _) (QAE.mpr hb2)
theorem QRj(R:Ev G N (tabOf []) (CT te td))(os:List Int)(hL:1≤os.length∧os.length≤5)(ho:∀o∈os,0≤o∧o<256):QAu G N (QAa 35) (fnBody 35) [(nm "octets",.list (os.map .int))] (.list ((QAX os).map .int)):=by
 refine oA (QO2 os 0 0 (Int.le_refl 0) (by decide) ho) fun b0 b1=>?_
 have hloop:=QPm R (xs:=os.map .int) os 0 0 (Int.le_refl 0) (by decide) (Qd (Nat.add_le_add_left hL.2 0) (by decide)) ho
 have hlen:=QMQ (Qs (f:=D.int) (as:=os)) (Qd hL.2 (by decide))
 have hl:(os.map D.int).length≤1000:=QCk (Qd hL.2 (by decide))
 refine QSC (QMz ⟨os.length,Nat.lt_succ_of_le hL.2⟩) fun m1 m2 m3 m4=>?_
 have b2:=QRr 256 (0+os.length) b1 (Nat.add_le_add_left hL.2 0) (by decide) (by decide)
 have hL5:=hL.2
 skip
 revert hlen hloop b0 b2 m1 m2 m3 m4 hL5
 dsimp only
 generalize numOf 0 os=n
 generalize QAs os.length=m
 generalize os.length=L
 generalize os.map D.int=xs at hl⊢
 intro b0 hloop hlen m1 m2 m3 m4 b2 hL5
 generalize hfd:(-4*((L:Nat):Int)).fdiv 3=fd at m1
 have hc:CLt G N (cp (fnBody 35) 0).t (cp (fnBody 35) 0).ifs (cp (fnBody 35) 0).e (cp (fnBody 35) 0).sc ⟨QAa 35,[(nm "number",.int (n*4^(3*m-4*L))),(nm "many",.int (-fd))]⟩ (QCA 0 (-fd).toNat) (((List.range m).map fun i=>((n*4^(3*m-4*L)).fdiv (64^(m-1-i))).fmod 64).map .int):=by
  rw [m1,QAD,QIq,Q3,←m1]
  exact QCV R (bs:=fun i=>[(nm "at",.int (i:Nat))]) (fun i=>[.d (.int (64^(m-1-i))),.d (.int ((n*4^(3*m-4*L)).fdiv (64^(m-1-i)))),.d (.int (((n*4^(3*m-4*L)).fdiv (64^(m-1-i))).fmod 64))]) (List.range m) fun i hi=>
   ⟨rfl,QAZ (ai (dig 0 64 m i (by decide) (Qd m2 (by decide)) (by decide) (List.mem_range.mp hi) m1)<|ai (QCz (n*4^(3*m-4*L)) (64^(m-1-i)) (pw 64 (m-1-i) 7 (Qd (Nat.sub_le _ _) (Qd (Nat.sub_le _ _) m2)) (by decide) (by decide)).2)<|ai (QDR ((n*4^(3*m-4*L)).fdiv (64^(m-1-i))) 64 (by decide)) (@rfl D (.int (((n*4^(3*m-4*L)).fdiv (64^(m-1-i))).fmod 64)))) (by kernel_rfl)⟩
 have hM: -fd≤1000:=by rw [m1];exact QAE.mpr (Qd m2 (by decide))
 have e3:QB1 .Mult (.int 3) (.int (-fd))=some (.int ((3*m:Nat):Int)):=QFu 3 (-fd) (by rw [m1];rfl) (by decide) (by decide) (by rw [m1];exact QAC m) (QAJ hM (by decide))
 have e4:QB1 .Mult (.int 4) (.int (L:Nat))=some (.int ((4*L:Nat):Int)):=QFu 4 L rfl (by decide) (by decide) (QAC L) (QAE.mpr (Qd hL5 (by decide)))
 have e5:QB1 .Pow (.int 4) (.int (((3*m:Nat):Int)-((4*L:Nat):Int)))=some (.int (4^(3*m-4*L))):=by
  rw [←Int.ofNat_sub m3]
  exact QJi 4 _ (by rw [QAD]) (QAC _) (QAE.mpr (Qd m4 (by decide))) (by decide) (by decide)
 have e6:=QFu n (4^(3*m-4*L)) rfl b0 b2 (Int.le_of_lt (Int.pow_pos (by decide))) (QAJ (QAE.mpr (Nat.pow_le_pow_right (by decide) m4)) (by decide:((4^2:Nat):Int)≤65536))
 subst hfd
 exact QAo R [.s (N2 xs 0),.o (.next (N2 xs n)),.d (.int L),.d (.int (-4*(L:Nat))),.d (.int ((-4*((L:Nat):Int)).fdiv 3)),.d (.int ((3*m:Nat):Int)),.d (.int L),.d (.int ((4*L:Nat):Int)),.d (.int (4^(3*m-4*L))),.d (.int (n*4^(3*m-4*L))),
   .s ⟨⟨QAa 35,[(nm "number",.int (n*4^(3*m-4*L))),(nm "many",.int (-(-4*((L:Nat):Int)).fdiv 3))]⟩,[]⟩,.l (((List.range m).map fun i=>((n*4^(3*m-4*L)).fdiv (64^(m-1-i))).fmod 64).map .int)]
  (QAZ (ai hl<|ai (okr (N2 xs 0))<|ai hloop<|ai hlen<|ai (QSQ L (Qd hL5 (by decide)))<|ai (QCz (-4*((L:Nat):Int)) 3 (by decide))<|ai e3<|ai hlen<|ai e4<|ai e5<|ai e6<|ai (ai (QAJ (by decide:(-1000:Int)≤0) (by rw [m1];exact QAC m): -1000≤-(-4*((L:Nat):Int)).fdiv 3) hM)<|
   ai (oke ⟨⟨QAa 35,[(nm "number",.int (n*4^(3*m-4*L))),(nm "many",.int (-(-4*((L:Nat):Int)).fdiv 3))]⟩,[]⟩)<|ai hc (@rfl D (.list (((List.range m).map fun i=>((n*4^(3*m-4*L)).fdiv (64^(m-1-i))).fmod 64).map .int)))) (by kernel_rfl))
theorem QLY:∀L:Fin 8,(((3*L.val:Nat):Int)).fdiv 4=((QCF L.val:Nat):Int)∧QCF L.val≤5∧4*QCF L.val≤3*L.val∧3*L.val-4*QCF L.val≤3:=by decide+kernel
theorem QFd{fs:List Int}:∀i∈QBI fs,0≤i∧i<256:=by
 intro i hi
 refine oEA (Qw.mp hi) fun j _ ζ2=>?_
 subst ζ2
 exact ⟨Int.fmod_nonneg_of_pos _ (by decide),Int.fmod_lt_of_pos _ (by decide)⟩
theorem QRx(R:Ev G N (tabOf []) (CT te td))(fs:List Int)(hL:fs.length≤7)(ho:∀o∈fs,0≤o∧o<64):QAu G N (QAa 36) (fnBody 36) [(nm "figures",.list (fs.map .int))] (.bytes (toB (QBI fs))):=by
 have hloop:=QQb R (xs:=fs.map .int) fs 0 0 (Int.le_refl 0) (by decide) (Qd (Nat.add_le_add_left hL 0) (by decide)) ho
 have hlen:=QMQ (Qs (f:=D.int) (as:=fs)) (Qd hL (by decide))
 have hl:(fs.map D.int).length≤1000:=QCk (Qd hL (by decide))
 refine QSC (QLY ⟨fs.length,Nat.lt_succ_of_le hL⟩) fun m1 m2 m3 m4=>?_
 have hb:=QGC _ (QFd (fs:=fs)) (by unfold QBI;rw [Qs,List.length_range];exact Qd m2 (by decide))
 revert hb
 skip
 revert hlen hloop m1 m2 m3 m4 hL
 dsimp only
 generalize QBJ 0 fs=n
 generalize QCF fs.length=m
 generalize fs.length=L
 generalize fs.map D.int=xs at hl⊢
 intro hL hloop hlen m1 m2 m3 m4 hb
 generalize hk:3*L-4*m=k at m4 hb⊢
 have p4:=pw 4 k 3 m4 (by decide) (by decide)
 generalize hn2:n.fdiv (4^k)=n2 at hb⊢
 have hc:CLt G N (cp (fnBody 36) 0).t (cp (fnBody 36) 0).ifs (cp (fnBody 36) 0).e (cp (fnBody 36) 0).sc ⟨QAa 36,[(nm "number",.int n2),(nm "many",.int (m:Nat))]⟩ (QCA 0 ((m:Nat):Int).toNat) (((List.range m).map fun i=>(n2.fdiv (256^(m-1-i))).fmod 256).map .int):=by
  rw [QAD,QIq,Q3]
  exact QCV R (bs:=fun i=>[(nm "at",.int (i:Nat))]) (fun i=>[.d (.int (256^(m-1-i))),.d (.int (n2.fdiv (256^(m-1-i)))),.d (.int ((n2.fdiv (256^(m-1-i))).fmod 256))]) (List.range m) fun i hi=>
   ⟨rfl,QAZ (ai (dig 0 256 m i (by decide) (Qd m2 (by decide)) (by decide) (List.mem_range.mp hi) rfl)<|ai (QCz n2 (256^(m-1-i)) (pw 256 (m-1-i) 5 (Qd (Nat.sub_le _ _) (Qd (Nat.sub_le _ _) m2)) (by decide) (by decide)).2)<|ai (QDR (n2.fdiv (256^(m-1-i))) 256 (by decide)) (@rfl D (.int ((n2.fdiv (256^(m-1-i))).fmod 256)))) (by kernel_rfl)⟩
 have hM:((m:Nat):Int)≤1000:=QAE.mpr (Qd m2 (by decide))
 have e3:QB1 .Mult (.int 3) (.int (L:Nat))=some (.int ((3*L:Nat):Int)):=QFu 3 L rfl (by decide) (by decide) (QAC L) (QAE.mpr (Qd hL (by decide)))
 have e4:QB1 .Mult (.int 4) (.int (m:Nat))=some (.int ((4*m:Nat):Int)):=QFu 4 m rfl (by decide) (by decide) (QAC m) (QAJ hM (by decide))
 have e5:QB1 .Pow (.int 4) (.int (((3*L:Nat):Int)-((4*m:Nat):Int)))=some (.int (4^k)):=by
  rw [←Int.ofNat_sub m3,hk]
  exact QJi 4 _ (by rw [QAD]) (QAC _) (QAE.mpr (Qd m4 (by decide))) (by decide) (by decide)
 have e6:QB1 .FloorDiv (.int n) (.int (4^k))=some (.int n2):=hn2▸QCz n (4^k) p4.2
 have e7:QB1 .FloorDiv (.int ((3*L:Nat):Int)) (.int 4)=some (.int (m:Nat)):=m1▸QCz _ 4 (by decide)
 generalize ((List.range m).map fun i=>(n2.fdiv (256^(m-1-i))).fmod 256)=zs at hb hc⊢
 exact QAo R [.s (N3 xs 0),.o (.next (N3 xs n)),.d (.int L),.d (.int ((3*L:Nat):Int)),.d (.int (m:Nat)),.d (.int L),.d (.int ((3*L:Nat):Int)),.d (.int ((4*m:Nat):Int)),.d (.int (4^k)),.d (.int n2),.s ⟨⟨QAa 36,[(nm "number",.int n2),(nm "many",.int (m:Nat))]⟩,[]⟩,.l (zs.map .int),.d (.bytes (toB zs))]
  (QAZ (ai hl<|ai (okr (N3 xs 0))<|ai hloop<|ai hlen<|ai e3<|ai e7<|ai hlen<|ai e3<|ai e4<|ai e5<|ai e6<|ai (ai (QAJ (by decide:(-1000:Int)≤0) (QAC m)) hM)<|ai (oke ⟨⟨QAa 36,[(nm "number",.int n2),(nm "many",.int (m:Nat))]⟩,[]⟩)<|ai hc<|ai hb (@rfl D (.bytes (toB zs)))) (by kernel_rfl))
end
noncomputable def QAi(choice:Int)(acc:List Int):List Int→List Int
 |[]=>acc
 |f::r=>if f<52 then QAi (choice.fdiv 2) ((f.fmod 26+26*choice.fmod 2)::acc) r else QAi choice (f::acc) r
theorem QJG(a b:List D)(h1:a.length≤1000)(h2:b.length≤1000):QB1 .Add (.list a) (.list b)=some (.list (a++b)):=if_pos ⟨h1,h2⟩
theorem QTH{xs:List D}(h:xs.length≤1000):QDy (.list xs) .none .none (.int (-1))=some (.list xs.reverse):=if_pos ⟨h,rfl⟩
noncomputable def QCD(k:Int):List Int→List (Int×Int)
 |[]=>[]
 |c::r=>(k,c)::QCD (k+1) r
theorem QCp:∀(l:List Int) (k:Int),QCR k (l.map .int)=(QCD k l).map fun p=>D.tup [.int p.1,.int p.2]:=by
 intro l
 induction l with
 |nil=>exact fun _=>rfl
 |cons c r ih=>intro k;exact congrArg (_:: ·) (ih (k+1))
theorem QC5:∀{l:List Int} {k:Int} {p:Int×Int},p∈QCD k l→k≤p.1∧p.1<k+l.length∧p.2∈l:=by
 intro l
 induction l with
 |nil=>exact fun h=>nomatch h
 |cons c r ih=>
  intro k p h
  rw [Qz,show (((r.length+1:Nat)):Int)=(r.length:Int)+1 from rfl]
  cases h with
  |head=>exact ⟨Int.le_refl _,Int.lt_add_of_pos_right _ (Int.lt_add_one_of_le (QAC _)),.head _⟩
  |tail _ h=>
   refine oAA (ih h) fun h1 h2 h3=>?_
   exact ⟨QAJ (Int.le_add_of_nonneg_right (by decide)) h1,by rw [Int.add_comm _ 1,←Int.add_assoc];exact h2,.tail _ h3⟩
noncomputable def QBS(l:List Int):Int:=l.getLastD 0
noncomputable def QHN(one other:List Int)(p:Int×Int):Bool:=decide (p.2∉other∧(other=[]∨QBS other<p.2∨p.2∉one.take p.1.toNat))
noncomputable def QAx(one other:List Int):List Int:=((QCD 0 one).filter (QHN one other)).map (·.2)
theorem QJ1{a:Int}{l:List Int}:l.contains a=decide (a∈l):=by rw [Bool.eq_iff_iff,List.contains_iff_mem,decide_eq_true_iff]
theorem QJH{a:Int}{l:List Int}(h:a∉l):QA8 .NotIn (.int a) (.list (l.map .int))=some true:=by
 show (QB3 (l.map .int)).map (fun l=> !l.contains a)=_
 rw [QDV,Option.map_some,QJ1,decide_eq_false h];rfl
theorem QPR{a:Int}{l:List Int}(h:a∈l):QA8 .NotIn (.int a) (.list (l.map .int))=some false:=by
 show (QB3 (l.map .int)).map (fun l=> !l.contains a)=_
 rw [QDV,Option.map_some,QJ1,decide_eq_true h];rfl
theorem tl1{l:List D}(h:l.length≤1000)(h0:l≠[]):QC2 (.list l)=some true:=by
 cases l with
 |nil=>exact absurd rfl h0
 |cons x r=>exact if_pos (c:=(x::r).length≤1000) h
theorem QLj{l:List Int}{i:Int}(h:l.length≤1000)(h0:0≤i):QDy (.list (l.map .int)) .none (.int i) .none=some (.list ((l.take i.toNat).map .int)):=by
 rw [List.map_take];exact if_pos (c:=(l.map D.int).length≤1000∧0≤i) ⟨QCk h,h0⟩
theorem QQ9{l:List Int}(h:l.length≤1000):QDy (.list (l.map .int)) (.int 1) (.int 17) .none=some (.list (((l.take 17).drop 1).map .int)):=by
 rw [List.map_drop,List.map_take];exact if_pos (c:=(l.map D.int).length≤1000∧0≤(1:Int)∧(1:Int)≤17) ⟨QCk h,by decide,by decide⟩
theorem QMA{l:List D}{i:Int}{k:Nat}{d:D}(h:l.length≤1000)(hp:place l.length i=some k)(hd:l[k]? =some d):QBb (.list l) (.int i)=some d:=by
 refine (if_pos (c:=l.length≤1000) h).trans ?_
 rw [hp];exact hd
theorem QRJ{l:List Int}(h:l.length≤1000)(h0:l≠[]):QBb (.list (l.map .int)) (.int (-1))=some (.int (QBS l)):=by
 have hpos:0<l.length:=List.length_pos_iff.mpr h0
 have e:(-1:Int)+(l.length:Nat)=((l.length-1:Nat):Int):=by rw [Int.ofNat_sub hpos,Int.add_comm];rfl
 refine QMA (k:=l.length-1) (QCk h) ?_ ?_
 ·unfold place
  rw [Qs,if_neg (by decide),e,if_pos (QAC _),QAD]
 ·rw [Q7,←List.getLast?_eq_getElem?,List.getLast?_eq_some_getLast h0,QBS,List.getLastD_eq_getLast?,List.getLast?_eq_some_getLast h0];rfl
theorem gt1(a b:Int)(h:b<a):QA8 .Gt (.int a) (.int b)=some true:=congrArg some (decide_eq_true h)
theorem gt0(a b:Int)(h:a≤b):QA8 .Gt (.int a) (.int b)=some false:=congrArg some (decide_eq_false (QAN.mpr h))
noncomputable def QR3:QBR:=fun ds ks d=>ks=[]∧d= .bool true∧∃(os dr:List Int) (coat:Int),ds=[.list (os.map .int),.int coat,.list (dr.map .int)]∧(1≤os.length∧os.length≤5)∧(∀i∈os,0≤i∧i<256)∧(coat=0∨coat=1)∧dr.length≤16∧dr≠[]
section
variable {prog:QV}{w:QX}{G:Gd prog w}{N:Nat}{te td:Array UInt8}{F:QC9}{C:QCl}
noncomputable def SPo(choice:Int):PS:=⟨⟨QAa 38,[(nm "choice",.int choice)]⟩,[(nm "spelled",[])]⟩
noncomputable def SPd(acc:List D)(choice:Int):PS:=⟨⟨QAa 38,[(nm "choice",.int choice),(nm "spelled",.list acc)]⟩,[]⟩
theorem QT1(f choice:Int):QB1 .Mult (.int 26) (.int (choice.fmod 2))=some (.int (26*choice.fmod 2)):=
 QFu 26 _ rfl (by decide) (by decide) (Int.fmod_nonneg_of_pos _ (by decide)) (QAJ (Int.le_of_lt (Int.fmod_lt_of_pos _ (by decide))) (by decide))
theorem QNI(R:Ev G N F C){σ:PS}{f choice:Int}{acc:List Int}{r:List D}{o:Out}(hl:acc.length≤500)(hs:σ=SPd (acc.map .int) choice∨(acc=[]∧σ=SPo choice))
  (h:FLt G N (lp (fnBody 38) 0).1 (lp (fnBody 38) 0).2 r (if f<52 then SPd (((f.fmod 26+26*choice.fmod 2)::acc).map .int) (choice.fdiv 2) else SPd ((f::acc).map .int) choice) o):FLt G N (lp (fnBody 38) 0).1 (lp (fnBody 38) 0).2 (.int f::r) σ o:=by
 have hm:(acc.map D.int).length≤1000:=QCk (Qd hl (by decide))
 by_cases c:f<52
 ·rw [if_pos c] at h
  have p:=ai (lt1 f 52 c)<|ai (QDR f 26 (by decide))<|ai (QDR choice 2 (by decide))<|ai (QT1 f choice)<|ai (QJG [.int (f.fmod 26+26*choice.fmod 2)] (acc.map .int) (Qh rfl:1≤1000) hm)<|ai (QCz choice 2 (by decide)) (okr (SPd (((f.fmod 26+26*choice.fmod 2)::acc).map .int) (choice.fdiv 2)))
  rcases hs with rfl|⟨rfl,rfl⟩
  ·exact QBv R (bs:=[(nm "figure",.int f)]) [.b true,.d (.int (f.fmod 26)),.d (.int (choice.fmod 2)),.d (.int (26*choice.fmod 2)),.d (.list (.int (f.fmod 26+26*choice.fmod 2)::acc.map .int)),.d (.int (choice.fdiv 2))] rfl (QAZ p (by kernel_rfl)) h
  ·exact QBv R (bs:=[(nm "figure",.int f)]) [.b true,.d (.int (f.fmod 26)),.d (.int (choice.fmod 2)),.d (.int (26*choice.fmod 2)),.d (.list [.int (f.fmod 26+26*choice.fmod 2)]),.d (.int (choice.fdiv 2))] rfl (QAZ p (by kernel_rfl)) h
 ·rw [if_neg c] at h
  have p:=ai (lt0 f 52 (QAN.mp c))<|ai (QJG [.int f] (acc.map .int) (Qh rfl:1≤1000) hm) (okr (SPd ((f::acc).map .int) choice))
  rcases hs with rfl|⟨rfl,rfl⟩
  ·exact QBv R (bs:=[(nm "figure",.int f)]) [.b false,.d (.list (.int f::acc.map .int))] rfl (QAZ p (by kernel_rfl)) h
  ·exact QBv R (bs:=[(nm "figure",.int f)]) [.b false,.d (.list [.int f])] rfl (QAZ p (by kernel_rfl)) h
noncomputable def SPf(acc:List D):PS:=⟨⟨QAa 38,[(nm "spelled",.list acc)]⟩,[]⟩
theorem QN3(R:Ev G N F C):∀(l acc:List Int) (choice:Int),acc.length+l.length≤100→FLt G N (lp (fnBody 38) 0).1 (lp (fnBody 38) 0).2 (l.map .int) (SPd (acc.map .int) choice) (.next (SPf ((QAi choice acc l).map .int))):=by
 intro l
 induction l with
 |nil=>exact fun acc choice _=> .nil (.of (QAZ (okr (SPf (acc.map .int))) (by kernel_rfl)))
 |cons f r ih=>
  intro acc choice hl
  rw [Qz] at hl
  refine QNI R (Qd (Qg _ _) (Qd hl (by decide))) (.inl rfl) ?_
  unfold QAi
  by_cases c:f<52
  ·rw [if_pos c,if_pos c];exact ih _ _ (by rw [Qz,Nat.add_assoc,Nat.add_comm 1];exact hl)
  ·rw [if_neg c,if_neg c];exact ih _ _ (by rw [Qz,Nat.add_assoc,Nat.add_comm 1];exact hl)
theorem QQN(R:Ev G N F C){l:List Int}{choice:Int}(h0:l≠[])(hl:l.length≤100):FLt G N (lp (fnBody 38) 0).1 (lp (fnBody 38) 0).2 (l.map .int) (SPo choice) (.next (SPf ((QAi choice [] l).map .int))):=by
 cases l with
 |nil=>exact absurd rfl h0
 |cons f r=>
  refine QNI R (acc:=[]) (Ql _) (.inr ⟨rfl,rfl⟩) ?_
  unfold QAi
  by_cases c:f<52
  ·rw [if_pos c,if_pos c];exact QN3 R r [f.fmod 26+26*choice.fmod 2] _ (Nat.add_comm _ _▸hl)
  ·rw [if_neg c,if_neg c];exact QN3 R r [f] _ (Nat.add_comm _ _▸hl)
theorem QMg(R:Ev G N (tabOf []) (CT te td))(figs:List Int)(choice:Int)(h0:figs≠[])(hl:figs.length≤20):QAu G N (QAa 38) (fnBody 38) [(nm "figures",.list (figs.map .int)),(nm "choice",.int choice)] (.list ((QAi choice [] figs.reverse).map .int)):=by
 have h1:=QTH (QCk (Qd hl (by decide):figs.length≤1000))
 have hs:figs.reverse.length≤100:=by rw [List.length_reverse];exact Qd hl (by decide)
 rw [←List.map_reverse] at h1
 exact QAo R [.d (.list (figs.reverse.map .int)),.s (SPo choice),.o (.next (SPf ((QAi choice [] figs.reverse).map .int)))]
  (QAZ (ai h1<|ai (QCk (Qd hs (by decide):_≤1000))<|ai (okr (SPo choice))<|ai (QQN R (choice:=choice) (fun e=>h0 (List.reverse_eq_nil_iff.mp e)) hs) (@rfl D (.list ((QAi choice [] figs.reverse).map .int)))) (by kernel_rfl))
theorem QPz(R:Ev G N (tabOf []) (CT te td))(one other:List Int)(h1:one.length≤100)(h2:other.length≤100):
  QAu G N (QAa 40) (fnBody 40) [(nm "one",.list (one.map .int)),(nm "other",.list (other.map .int))] (.list ((QAx one other).map .int)):=by
 have l1:(one.map D.int).length≤1000:=QCk (Qd h1 (by decide))
 have l2:(other.map D.int).length≤1000:=QCk (Qd h2 (by decide))
 have hc:CLt G N (cp (fnBody 40) 0).t (cp (fnBody 40) 0).ifs (cp (fnBody 40) 0).e (cp (fnBody 40) 0).sc ⟨QAa 40,[(nm "one",.list (one.map .int)),(nm "other",.list (other.map .int))]⟩ (QCR 0 (one.map .int)) ((QAx one other).map .int):=by
  rw [QCp,QAx,Q3]
  refine QLL R (bs:=fun p=>[(nm "at",.int p.1),(nm "choice",.int p.2)]) (QCD 0 one) fun p hp=>⟨by kernel_rfl,?_,fun _=>⟨[],QAZ (@rfl D (.int p.2)) (by kernel_rfl)⟩⟩
  obtain ⟨i,c⟩:=p
  refine oAA (QC5 hp) fun h0 _ _=>?_
  unfold QHN
  by_cases c1:c∈other
  ·rw [decide_eq_false fun h=>h.1 c1]
   exact ⟨[.b false],QAZ (ai (QPR c1) (@rfl Bool false)) (by kernel_rfl)⟩
  ·by_cases c2:other=[]
   ·rw [decide_eq_true ⟨c1,.inl c2⟩]
    subst c2
    exact ⟨[.b true,.b false],QAZ (ai (QJH (a:=c) (l:=[]) c1)<|ai (rfl (a:=some false)) (@rfl Bool true)) (by kernel_rfl)⟩
   ·have e2:=tl1 l2 (fun h=>c2 (List.map_eq_nil_iff.mp h))
    have e3:=QRJ (Qd h2 (by decide)) c2
    by_cases c3:QBS other<c
    ·rw [decide_eq_true ⟨c1,.inr (.inl c3)⟩]
     exact ⟨[.b true,.b true,.d (.int (QBS other)),.b true],QAZ (ai (QJH c1)<|ai e2<|ai e3<|ai (gt1 c _ c3) (@rfl Bool true)) (by kernel_rfl)⟩
    ·have e4:=QLj (l:=one) (Qd h1 (by decide)) h0
     by_cases c4:c∈one.take i.toNat
     ·rw [decide_eq_false fun h=>h.2.elim c2 fun h=>h.elim c3 fun h=>h c4]
      exact ⟨[.b true,.b true,.d (.int (QBS other)),.b false,.d (.list ((one.take i.toNat).map .int)),.b false],QAZ (ai (QJH c1)<|ai e2<|ai e3<|ai (gt0 c _ (QAN.mp c3))<|ai e4<|ai (QPR c4) (@rfl Bool false)) (by kernel_rfl)⟩
     ·rw [decide_eq_true ⟨c1,.inr (.inr c4)⟩]
      exact ⟨[.b true,.b true,.d (.int (QBS other)),.b false,.d (.list ((one.take i.toNat).map .int)),.b true],QAZ (ai (QJH c1)<|ai e2<|ai e3<|ai (gt0 c _ (QAN.mp c3))<|ai e4<|ai (QJH c4) (@rfl Bool true)) (by kernel_rfl)⟩
 exact QAo R [.s ⟨⟨QAa 40,[(nm "one",.list (one.map .int)),(nm "other",.list (other.map .int))]⟩,[]⟩,.l ((QAx one other).map .int)]
  (QAZ (ai l1<|ai (oke ⟨⟨QAa 40,[(nm "one",.list (one.map .int)),(nm "other",.list (other.map .int))]⟩,[]⟩)<|ai hc (@rfl D (.list ((QAx one other).map .int)))) (by kernel_rfl))
end
section
variable {prog:QV}{w:QX}{G:Gd prog w}{N:Nat}{te td:Array UInt8}{F:QC9}{C:QCl}
theorem QFW{n k:Nat}(h:k<n):place n (k:Nat)=some k:=by
 unfold place
 rw [if_pos (QAC k),if_pos (QAL.mpr h),QAD]
theorem QGW{l:List D}{i:Int}{d:D}(h:l.length≤1000)(h0:0≤i)(hd:l[i.toNat]? =some d):QBb (.list l) (.int i)=some d:=by
 have e:((i.toNat:Nat):Int)=i:=QAG h0
 have hp:=QFW (List.getElem?_eq_some_iff.mp hd).1
 rw [e] at hp
 exact QMA h hp hd
noncomputable def QLl(h:Int):Nat:=(1+(h.fdiv 2).fmod 5).toNat
noncomputable def QHl(h:Int):List Int:=(List.range (QLl h)).map fun i=>((h.fdiv 10).fdiv (256^i)).fmod 256
theorem QIp(h:Int):((QLl h:Nat):Int)=1+(h.fdiv 2).fmod 5∧1≤QLl h∧QLl h≤5:=by
 have h0:=Int.fmod_nonneg_of_pos (h.fdiv 2) (b:=5) (by decide)
 have h1:=Int.fmod_lt_of_pos (h.fdiv 2) (b:=5) (by decide)
 have e:((QLl h:Nat):Int)=1+(h.fdiv 2).fmod 5:=QAG (Int.add_nonneg (by decide) h0)
 refine ⟨e,QAE.mp (e▸Int.le_add_of_nonneg_right h0),QAE.mp (e▸(Int.add_le_add_left (Int.le_of_lt_add_one h1) 1:_≤(1+4:Int)))⟩
theorem QRZ(R:Ev G N F C)(h:Int):CLt G N (cp (fnBody 44) 0).t (cp (fnBody 44) 0).ifs (cp (fnBody 44) 0).e (cp (fnBody 44) 0).sc ⟨QAa 44,[(nm "head",.int h)]⟩ (QCA 0 (1+(h.fdiv 2).fmod 5).toNat) ((QHl h).map .int):=by
 refine oAA (QIp h) fun _ _ h5=>?_
 rw [QIq,QHl,Q3]
 refine QCV R (bs:=fun i=>[(nm "at",.int (i:Nat))]) (fun i=>[.d (.int (h.fdiv 10)),.d (.int (256^i)),.d (.int ((h.fdiv 10).fdiv (256^i))),.d (.int (((h.fdiv 10).fdiv (256^i)).fmod 256))]) (List.range (QLl h)) fun i hi=>?_
 have hi:i≤5:=Qd (Qo (List.mem_range.mp hi)) h5
 exact ⟨rfl,QAZ (ai (QCz h 10 (by decide))<|ai (QJi 256 (i:Nat) (c:=256^i) (by rw [QAD]) (QAC i) (QAE.mpr (Qd hi (by decide))) (by decide) (by decide))<|ai (QCz (h.fdiv 10) (256^i) (pw 256 i 5 hi (by decide) (by decide)).2)<|ai (QDR ((h.fdiv 10).fdiv (256^i)) 256 (by decide)) (@rfl D (.int (((h.fdiv 10).fdiv (256^i)).fmod 256)))) (by kernel_rfl)⟩
theorem QRT(R:Ev G N F C)(h:Int)(dr:List Int)(h16:dr.length≤16)(h0:dr≠[]):QR3 [.list ((QHl h).map .int),.int (h.fmod 2),.list (dr.map .int)] [] (.bool true):=by
 refine oAA (QIp h) fun _ h1 h5=>?_
 have hl:(QHl h).length=QLl h:=by rw [QHl,Qs,List.length_range]
 have m0:=Int.fmod_nonneg_of_pos h (b:=2) (by decide)
 have m1:=Int.fmod_lt_of_pos h (b:=2) (by decide)
 refine ⟨rfl,rfl,QHl h,dr,h.fmod 2,rfl,hl▸⟨h1,h5⟩,fun i hi=>?_,?_,h16,h0⟩
 ·refine oEA (Qw.mp hi) fun j _ ζ2=>?_
  subst ζ2
  exact ⟨Int.fmod_nonneg_of_pos _ (by decide),Int.fmod_lt_of_pos _ (by decide)⟩
 ·by_cases c:h.fmod 2=0
  ·exact .inl c
  ·exact .inr (QAH (Int.le_of_lt_add_one m1) (Int.lt_iff_le_and_ne.mpr ⟨m0,Ne.symm c⟩))
theorem QN9(R:Ev G N F C)(h:Int):(-1000≤1+(h.fdiv 2).fmod 5)∧1+(h.fdiv 2).fmod 5≤1000:=by
 refine oAA (QIp h) fun e h1 h5=>?_
 rw [←e]
 exact ⟨QAJ (by decide:(-1000:Int)≤0) (QAC _),QAE.mpr (Qd h5 (by decide))⟩
theorem QSd(R:Ev G N (tabOf [("_law_binary",QR3)]) (CT te td))(xs:List Int)(hL:xs.length≤63):QAu G N (QAa 44) (fnBody 44) [(nm "script",.list (xs.map .int))] (.bool true):=by
 have tail:=fun (h:Int) (dr:List Int) (h16:dr.length≤16) (h0:dr≠[])=>ai (QCz h 2 (by decide))<|ai (QDR (h.fdiv 2) 5 (by decide))<|ai (QN9 R h)<|ai (oke ⟨⟨QAa 44,[(nm "head",.int h)]⟩,[]⟩)<|ai (QRZ R h)<|ai (QDR h 2 (by decide))<|ai (QRT R h dr h16 h0) (@rfl D (.bool true))
 have os:=fun (h:Int)=>[Or.d (.int (h.fdiv 2)),.d (.int ((h.fdiv 2).fmod 5)),.s ⟨⟨QAa 44,[(nm "head",.int h)]⟩,[]⟩,.l ((QHl h).map .int),.d (.int (h.fmod 2)),.d (.bool true)]
 have d0:[(0:Int),16,7,11]≠[]:=fun h=>nomatch h
 cases xs with
 |nil=>exact QAo R [.b false,.d (.list []),.b false,.d (.int (Int.fdiv 21243 2)),.d (.int ((Int.fdiv 21243 2).fmod 5)),.s ⟨⟨QAa 44,[(nm "head",.int 21243)]⟩,[]⟩,.l ((QHl 21243).map .int),.d (.int (Int.fmod 21243 2)),.d (.bool true)] (QAZ (ai (rfl (a:=some false))<|ai (QQ9 (l:=[]) (by decide))<|ai (rfl (a:=some false)) (tail 21243 [0,16,7,11] (by decide) d0)) (by kernel_rfl))
 |cons h r=>
  have hl:(h::r).length≤1000:=Qd hL (by decide)
  have e1:=tl1 (l:=(h::r).map .int) (QCk hl) (fun h=>nomatch h)
  have e2:=QMA (l:=(h::r).map .int) (i:=((0:Nat):Int)) (k:=0) (d:= .int h) (QCk hl) (QFW (Nat.succ_pos _)) rfl
  have e3:=QQ9 hl
  have e4:(((h::r).take 17).drop 1)=r.take 16:=rfl
  rw [e4] at e3
  cases r with
  |nil=>exact QAo R [.b true,.d (.int h),.d (.list []),.b false,.d (.int (h.fdiv 2)),.d (.int ((h.fdiv 2).fmod 5)),.s ⟨⟨QAa 44,[(nm "head",.int h)]⟩,[]⟩,.l ((QHl h).map .int),.d (.int (h.fmod 2)),.d (.bool true)] (QAZ (ai e1<|ai e2<|ai e3<|ai (rfl (a:=some false)) (tail h [0,16,7,11] (by decide) d0)) (by kernel_rfl))
  |cons x r=>
   have e5:=tl1 (l:=((x::r).take 16).map .int) (QCk (Qd (List.length_take_le ..) (by decide))) (fun h=>nomatch h)
   exact QAo R [.b true,.d (.int h),.d (.list (((x::r).take 16).map .int)),.b true,.d (.int (h.fdiv 2)),.d (.int ((h.fdiv 2).fmod 5)),.s ⟨⟨QAa 44,[(nm "head",.int h)]⟩,[]⟩,.l ((QHl h).map .int),.d (.int (h.fmod 2)),.d (.bool true)] (QAZ (ai e1<|ai e2<|ai e3<|ai e5 (tail h ((x::r).take 16) (List.length_take_le ..) (fun h=>nomatch h))) (by kernel_rfl))
end
noncomputable def QId(lb lc:Int):List Int:=if lb=2 then [lc%4*16] else if lb=4 then [lc%16*4] else []
noncomputable def QLw(os:List Int):List Int:=(QAk 0 0 os).1++QId (QAk 0 0 os).2.1 (QAk 0 0 os).2.2
theorem fd(a b:Int)(h:0≤b):a.fdiv b=a/b:=Int.fdiv_eq_ediv_of_nonneg a h
theorem fm(a b:Int)(h:0≤b):a.fmod b=a%b:=Int.fmod_eq_emod_of_nonneg a h
noncomputable def dI(b:Int):Nat→Int→List Int
 |0,_=>[]
 |m+1,n=>dI b m (n/b)++[n%b]
theorem QNY{b:Int}(hb:0≤b):∀(m:Nat) (n:Int),((List.range m).map fun i=>(n.fdiv (b^(m-1-i))).fmod b)=dI b m n:=by
 intro m
 induction m with
 |zero=>exact fun _=>rfl
 |succ m ih=>
  intro n
  unfold dI
  rw [←ih,List.range_succ,Qv]
  refine congr (congrArg _ (List.map_congr_left fun i hi=>?_)) ?_
  ·have h:i<m:=List.mem_range.mp hi
   have e:m+1-1-i=(m-1-i)+1:=by rw [Nat.add_sub_cancel,Nat.sub_right_comm,Nat.sub_add_cancel (Nat.sub_pos_of_lt h)]
   rw [e,fd _ _ (Int.pow_nonneg hb),fd _ _ (Int.pow_nonneg hb),Int.pow_succ,Int.mul_comm,Int.ediv_ediv_of_nonneg hb]
  ·show [(n.fdiv (b^(m+1-1-m))).fmod b]=_
   rw [Nat.add_sub_cancel,Nat.sub_self,Int.pow_zero,fd _ _ (by decide),Int.ediv_one,fm _ _ hb]
theorem QDL(os:List Int):QAX os=dI 64 (QAs os.length) (numOf 0 os*4^(3*QAs os.length-4*os.length)):=QNY (by decide) _ _
theorem QCU(fs:List Int):QBI fs=dI 256 (QCF fs.length) (QBJ 0 fs/4^(3*fs.length-4*QCF fs.length)):=by
 rw [←fd _ _ (Int.pow_nonneg (by decide))];exact QNY (by decide) _ _
theorem QB9(l:List Int)(x:Int):∀n,numOf n (l++[x])=numOf n l*256+x:=by
 induction l with
 |nil=>exact fun _=>rfl
 |cons a r ih=>exact fun n=>ih (n*256+a)
theorem QBz(l:List Int)(x:Int):∀n,QBJ n (l++[x])=QBJ n l*64+x:=by
 induction l with
 |nil=>exact fun _=>rfl
 |cons a r ih=>exact fun n=>ih (n*64+a)
theorem QCN(l:List Int)(x:Int):∀lb lc,QAk lb lc (l++[x])=((QAk lb lc l).1++(QAq (QAk lb lc l).2.1 (QAk lb lc l).2.2 x).1,(QAq (QAk lb lc l).2.1 (QAk lb lc l).2.2 x).2):=by
 induction l with
 |nil=>exact fun lb lc=>Prod.ext (List.append_nil _) rfl
 |cons a r ih=>
  intro lb lc
  show ((QAq lb lc a).1++(QAk (QAq lb lc a).2.1 (QAq lb lc a).2.2 (r++[x])).1,(QAk (QAq lb lc a).2.1 (QAq lb lc a).2.2 (r++[x])).2)=_
  rw [ih]
  exact Prod.ext (Q5 ..).symm rfl
theorem snoc_ind{P:List Int→Prop}(h0:P [])(h1:∀l x,P l→P (l++[x]))(l:List Int):P l:=by
 have:∀r:List Int,P r.reverse:=fun r=>by
  induction r with
  |nil=>exact h0
  |cons a r ih=>rw [List.reverse_cons];exact h1 _ _ ih
 have:=this l.reverse
 rwa [List.reverse_reverse] at this
theorem cut{n x b:Int}(k:Int)(hb:0<b)(h0:0≤x)(h1:x<b):(n*b+x)/(b*k)=n/k:=by
 rw [←Int.ediv_ediv_of_nonneg (Int.le_of_lt hb),Int.add_comm,Int.add_mul_ediv_right _ _ (Int.ne_of_gt hb),Int.ediv_eq_zero_of_lt h0 h1,Int.zero_add]
theorem QEt(b:Int)(m:Nat)(n:Int):dI b (m+1) n=dI b m (n/b)++[n%b]:=rfl
theorem QMv{n x:Int}:(n%65536*256+x)%65536=(n*256+x)%65536:=by
 rw [Int.add_emod,Int.mul_emod,Int.emod_emod,←Int.mul_emod,←Int.add_emod]
theorem lo{n:Int}(p j:Int)(hp:p≠0)(e:p*(64*j)=65536):n%65536/p%64=n/p%64:=by
 rw [←e,Int.emod_def n,Int.mul_assoc p (64*j),Int.sub_eq_add_neg,←Int.mul_neg,Int.add_mul_ediv_left _ _ hp,Int.mul_assoc 64,←Int.mul_neg,Int.add_mul_emod_self_left]
theorem QPt(l:List Int)(h:∀x∈l,0≤x∧x<256):(QAk 0 0 l).2.2=numOf 0 l%65536∧∃q:Nat,(l.length=3*q+0∧(QAk 0 0 l).2.1=0∧(QAk 0 0 l).1=dI 64 (4*q) (numOf 0 l))∨
  (l.length=3*q+1∧(QAk 0 0 l).2.1=2∧(QAk 0 0 l).1=dI 64 (4*q+1) (numOf 0 l/4))∨(l.length=3*q+2∧(QAk 0 0 l).2.1=4∧(QAk 0 0 l).1=dI 64 (4*q+2) (numOf 0 l/16)):=by
 revert h
 refine snoc_ind (P:=fun l=>(∀x∈l,0≤x∧x<256)→(QAk 0 0 l).2.2=numOf 0 l%65536∧∃q:Nat,(l.length=3*q+0∧(QAk 0 0 l).2.1=0∧(QAk 0 0 l).1=dI 64 (4*q) (numOf 0 l))∨
  (l.length=3*q+1∧(QAk 0 0 l).2.1=2∧(QAk 0 0 l).1=dI 64 (4*q+1) (numOf 0 l/4))∨(l.length=3*q+2∧(QAk 0 0 l).2.1=4∧(QAk 0 0 l).1=dI 64 (4*q+2) (numOf 0 l/16))) (fun _=>⟨rfl,0,.inl ⟨rfl,rfl,rfl⟩⟩) (fun l x ih h=>?_) l
 refine oA (h x (List.mem_append_right _ (.head _))) fun h0 h1=>?_
 refine oA (ih fun y hy=>h y (List.mem_append_left _ hy)) fun ec=>rE fun q ζ2=>?_
 rcases ζ2 with ⟨e1,e2,e3⟩|⟨e1,e2,e3⟩|⟨e1,e2,e3⟩
 ·refine ⟨by rw [QCN,QB9,e2,e3,ec];exact QMv,q,.inr (.inl ⟨by rw [Qu,e1];rfl,by rw [QCN,e2];rfl,?_⟩)⟩
  rw [QCN,QB9,e2,e3,ec,QEt,Int.ediv_ediv_of_nonneg (by decide),show (4:Int)*64=256*1 from rfl,cut 1 (by decide) h0 h1,Int.ediv_one,←lo 4 256 (by decide) rfl,←QMv];rfl
 ·refine ⟨by rw [QCN,QB9,e2,e3,ec];exact QMv,q,.inr (.inr ⟨by rw [Qu,e1];rfl,by rw [QCN,e2];rfl,?_⟩)⟩
  rw [QCN,QB9,e2,e3,ec,QEt 64 (4*q+1),Int.ediv_ediv_of_nonneg (by decide),show (16:Int)*64=256*4 from rfl,cut 4 (by decide) h0 h1,←lo 16 64 (by decide) rfl,←QMv];rfl
 ·refine ⟨by rw [QCN,QB9,e2,e3,ec];exact QMv,q+1,.inl ⟨by rw [Qu,e1];rfl,by rw [QCN,e2];rfl,?_⟩⟩
  show _=dI 64 (4*q+2+1+1) _
  rw [QCN,QB9,e2,e3,ec,QEt 64 (4*q+2+1),QEt 64 (4*q+2),Int.ediv_ediv_of_nonneg (by decide),show (64:Int)*64=256*16 from rfl,cut 16 (by decide) h0 h1,Q5,←lo 64 16 (by decide) rfl,←Int.emod_emod_of_dvd (numOf 0 l*256+x) (show (64:Int)∣65536 from ⟨1024,rfl⟩),←QMv];rfl
theorem QLI(q r:Nat):QAs (3*q+r)=4*q+QAs r:=by
 unfold QAs
 rw [Nat.mul_add,Nat.add_assoc,Nat.mul_left_comm,Nat.mul_add_div (by decide)]
theorem QNZ(q r m:Nat):3*(4*q+m)-4*(3*q+r)=3*m-4*r:=by rw [Nat.mul_add,Nat.mul_add,Nat.mul_left_comm 4,Nat.add_sub_add_left]
theorem dv{n b s t:Int}(hs:0<s)(e:b=s*t):n*s/b=n/t:=by rw [e,Int.mul_comm n,Int.mul_ediv_mul_of_pos _ _ hs]
theorem md{n b s t:Int}(hs:0<s)(e:b=s*t):n*s%b=n%t*s:=by rw [e,Int.mul_comm n,Int.mul_emod_mul_of_pos _ _ hs,Int.mul_comm]
theorem QNQ{os:List Int}(ho:∀o∈os,0≤o∧o<256):QLw os=QAX os:=by
 refine oA (QPt os ho) fun ec=>rE fun q ζ2=>?_
 rcases ζ2 with ⟨e1,e2,e3⟩|⟨e1,e2,e3⟩|⟨e1,e2,e3⟩
 ·rw [QLw,e2,e3,QDL,e1,QLI,QNZ,show 3*QAs 0-4*0=0 from rfl,Int.pow_zero,Int.mul_one]
  exact List.append_nil _
 ·rw [QLw,e2,e3,ec,QDL,e1,QLI,QNZ,show 3*QAs 1-4*1=2 from rfl,show 4*q+QAs 1=4*q+1+1 from rfl,QEt 64 (4*q+1),show (4:Int)^2=16 from rfl,dv (b:=64) (s:=16) (t:=4) (by decide) rfl,md (b:=64) (s:=16) (t:=4) (by decide) rfl,←Int.emod_emod_of_dvd (numOf 0 os) (show (4:Int)∣65536 from ⟨16384,rfl⟩)]
  rfl
 ·rw [QLw,e2,e3,ec,QDL,e1,QLI,QNZ,show 3*QAs 2-4*2=1 from rfl,show 4*q+QAs 2=4*q+2+1 from rfl,QEt 64 (4*q+2),Int.pow_one,dv (b:=64) (s:=4) (t:=16) (by decide) rfl,md (b:=64) (s:=4) (t:=16) (by decide) rfl,←Int.emod_emod_of_dvd (numOf 0 os) (show (16:Int)∣65536 from ⟨4096,rfl⟩)]
  rfl
theorem QBt(l:List Int)(x:Int):∀qp lc,QAc qp lc (l++[x])=((QAc qp lc l).1++(QBE (QAc qp lc l).2.1 (QAc qp lc l).2.2 x).1,(QBE (QAc qp lc l).2.1 (QAc qp lc l).2.2 x).2):=by
 induction l with
 |nil=>exact fun qp lc=>Prod.ext (List.append_nil _) rfl
 |cons a r ih=>
  intro qp lc
  show ((QBE qp lc a).1++(QAc (QBE qp lc a).2.1 (QBE qp lc a).2.2 (r++[x])).1,(QAc (QBE qp lc a).2.1 (QBE qp lc a).2.2 (r++[x])).2)=_
  rw [ih]
  exact Prod.ext (Q5 ..).symm rfl
theorem cat{n v:Int}(s t u:Int)(hs:0<s)(ht:0<t)(hu:0<u)(h0:0≤v)(h1:v<t*s):(n*(t*s)+v)/s%(u*t)=n%u*t+v/s:=by
 have w0:0≤v/s:=Int.ediv_nonneg h0 (Int.le_of_lt hs)
 have w1:v/s<t:=Int.ediv_lt_of_lt_mul hs h1
 have b:=QDc (n%u) (v/s) (QAM n (Int.ne_of_gt hu)) (QAO n hu) w0 w1
 rw [←Int.mul_assoc,Int.add_comm,Int.add_mul_ediv_right _ _ (Int.ne_of_gt hs),Int.add_comm]
 have e:n*t+v/s=(n%u*t+v/s)+u*t*(n/u):=by
  have:=Int.emod_add_mul_ediv n u
  conv=>lhs;rw [←this]
  rw [Int.add_mul,Int.mul_right_comm];omega
 rw [e,Int.add_mul_emod_self_left,Int.emod_eq_of_lt b.1 b.2]
theorem lov{n v:Int}(s t:Int):(n*(t*s)+v)%s=v%s:=by rw [←Int.mul_assoc,Int.add_comm,Int.add_mul_emod_self_right]
theorem QPy(l:List Int)(h:∀x∈l,0≤x∧x<64):∃q:Nat,(l.length=4*q+0∧(QAc 0 0 l).2.1=0∧(QAc 0 0 l).1=dI 256 (3*q) (QBJ 0 l))∨
  (l.length=4*q+1∧(QAc 0 0 l).2.1=1∧(QAc 0 0 l).2.2=QBJ 0 l%64∧(QAc 0 0 l).1=dI 256 (3*q) (QBJ 0 l/64))∨(l.length=4*q+2∧(QAc 0 0 l).2.1=2∧(QAc 0 0 l).2.2=QBJ 0 l%16∧(QAc 0 0 l).1=dI 256 (3*q+1) (QBJ 0 l/16))∨
  (l.length=4*q+3∧(QAc 0 0 l).2.1=3∧(QAc 0 0 l).2.2=QBJ 0 l%4∧(QAc 0 0 l).1=dI 256 (3*q+2) (QBJ 0 l/4)):=by
 revert h
 refine snoc_ind (P:=fun l=>(∀x∈l,0≤x∧x<64)→∃q:Nat,(l.length=4*q+0∧(QAc 0 0 l).2.1=0∧(QAc 0 0 l).1=dI 256 (3*q) (QBJ 0 l))∨
  (l.length=4*q+1∧(QAc 0 0 l).2.1=1∧(QAc 0 0 l).2.2=QBJ 0 l%64∧(QAc 0 0 l).1=dI 256 (3*q) (QBJ 0 l/64))∨(l.length=4*q+2∧(QAc 0 0 l).2.1=2∧(QAc 0 0 l).2.2=QBJ 0 l%16∧(QAc 0 0 l).1=dI 256 (3*q+1) (QBJ 0 l/16))∨
  (l.length=4*q+3∧(QAc 0 0 l).2.1=3∧(QAc 0 0 l).2.2=QBJ 0 l%4∧(QAc 0 0 l).1=dI 256 (3*q+2) (QBJ 0 l/4))) (fun _=>⟨0,.inl ⟨rfl,rfl,rfl⟩⟩) (fun l x ih h=>?_) l
 refine oA (h x (List.mem_append_right _ (.head _))) fun h0 h1=>?_
 refine oE (ih fun y hy=>h y (List.mem_append_left _ hy)) fun q ζ1=>?_
 rcases ζ1 with ⟨e1,e2,e3⟩|⟨e1,e2,ec,e3⟩|⟨e1,e2,ec,e3⟩|⟨e1,e2,ec,e3⟩
 ·refine ⟨q,.inr (.inl ⟨by rw [Qu,e1];rfl,by rw [QBt,e2];rfl,?_,?_⟩)⟩
  ·rw [QBt,QBz,e2]
   exact (Int.emod_eq_of_lt h0 h1).symm.trans (lov 64 1).symm
  ·have:=cut (n:=QBJ 0 l) 1 (by decide) h0 h1
   rw [Int.ediv_one] at this
   rw [QBt,QBz,e2,e3,show (QBJ 0 l*64+x)/64=QBJ 0 l from this];exact List.append_nil _
 ·refine ⟨q,.inr (.inr (.inl ⟨by rw [Qu,e1];rfl,by rw [QBt,e2];rfl,?_,?_⟩))⟩
  ·rw [QBt,QBz,e2];exact (lov 16 4).symm
  ·rw [QBt,QBz,e2,e3,ec,QEt 256 (3*q),Int.ediv_ediv_of_nonneg (by decide),show (16:Int)*256=64*64 from rfl,cut 64 (by decide) h0 h1,show (QBJ 0 l*64+x)/16%256=_ from cat 16 4 64 (by decide) (by decide) (by decide) h0 h1];rfl
 ·refine ⟨q,.inr (.inr (.inr ⟨by rw [Qu,e1];rfl,by rw [QBt,e2];rfl,?_,?_⟩))⟩
  ·rw [QBt,QBz,e2];exact (lov 4 16).symm
  ·rw [QBt,QBz,e2,e3,ec,QEt 256 (3*q+1),Int.ediv_ediv_of_nonneg (by decide),show (4:Int)*256=64*16 from rfl,cut 16 (by decide) h0 h1,show (QBJ 0 l*64+x)/4%256=_ from cat 4 16 16 (by decide) (by decide) (by decide) h0 h1];rfl
 ·refine ⟨q+1,.inl ⟨by rw [Qu,e1];rfl,by rw [QBt,e2];rfl,?_⟩⟩
  have:=cat (n:=QBJ 0 l) 1 64 4 (by decide) (by decide) (by decide) h0 h1
  rw [Int.ediv_one,Int.ediv_one] at this
  show _=dI 256 (3*q+2+1) _
  rw [QBt,QBz,e2,e3,ec,QEt 256 (3*q+2),show (256:Int)=64*4 from rfl,cut 4 (by decide) h0 h1,show (QBJ 0 l*64+x)%(64*4)=_ from this];rfl
theorem QGI(q r:Nat):QCF (4*q+r)=3*q+QCF r:=by
 unfold QCF
 rw [Nat.mul_add,Nat.mul_left_comm,Nat.mul_add_div (by decide)]
theorem QJJ(q r m:Nat):3*(4*q+r)-4*(3*q+m)=3*r-4*m:=by rw [Nat.mul_add,Nat.mul_add,Nat.mul_left_comm 4,Nat.add_sub_add_left]
theorem QNv{fs:List Int}(h:∀x∈fs,0≤x∧x<64):(QAc 0 0 fs).1=QBI fs∧(QAc 0 0 fs).2.1=((fs.length%4:Nat):Int):=by
 refine oE (QPy fs h) fun q ζ1=>?_
 rcases ζ1 with ⟨e1,e2,e3⟩|⟨e1,e2,_,e3⟩|⟨e1,e2,_,e3⟩|⟨e1,e2,_,e3⟩
 ·rw [e2,e3,QCU,e1,QGI,QJJ,Nat.mul_add_mod];exact ⟨(congrArg (dI 256 (3*q)) (Int.ediv_one _)).symm,rfl⟩
 ·rw [e2,e3,QCU,e1,QGI,QJJ,Nat.mul_add_mod];exact ⟨rfl,rfl⟩
 ·rw [e2,e3,QCU,e1,QGI,QJJ,Nat.mul_add_mod];exact ⟨rfl,rfl⟩
 ·rw [e2,e3,QCU,e1,QGI,QJJ,Nat.mul_add_mod];exact ⟨rfl,rfl⟩
noncomputable def teA:Array UInt8:=(((Array.range 256).map fun i=>UInt8.ofNat i).setIfInBounds 43 45).setIfInBounds 47 95
noncomputable def tdA:Array UInt8:=(((Array.range 256).map fun i=>UInt8.ofNat i).setIfInBounds 45 43).setIfInBounds 95 47
theorem QPe:teA.size=256:=by decide+kernel
theorem QQl:tdA.size=256:=by decide+kernel
noncomputable def sg(coat f:Int):Nat:=(signs coat).cps.getD f.toNat 0
theorem QQm:∀f:Fin 64,QA5 (QAg (f.val:Int))=(f.val:Int)∧QAg (f.val:Int)≠61∧sg 0 (f.val:Int)=(QAg (f.val:Int)).toNat∧sg 1 (f.val:Int)=(teA.getD (QAg (f.val:Int)).toNat 0).toNat∧
  (tdA.getD (sg 1 (f.val:Int)) 0).toNat=(QAg (f.val:Int)).toNat∧sg 0 (f.val:Int)<128∧sg 1 (f.val:Int)<128∧0≤QAg (f.val:Int)∧QAg (f.val:Int)<128∧sg 1 (f.val:Int)≠61:=by decide+kernel
theorem QDC{f:Int}(h0:0≤f)(h1:f<64):QA5 (QAg f)=f∧QAg f≠61∧sg 0 f=(QAg f).toNat∧sg 1 f=(teA.getD (QAg f).toNat 0).toNat∧(tdA.getD (sg 1 f) 0).toNat=(QAg f).toNat∧sg 0 f<128∧sg 1 f<128∧0≤QAg f∧QAg f<128∧sg 1 f≠61:=by
 have:=QQm ⟨f.toNat,(Int.toNat_lt h0).mpr h1⟩
 have e:((f.toNat:Nat):Int)=f:=QAG h0
 simp only [e] at this
 exact this
theorem QSa:(teA.getD 61 0).toNat=61∧(tdA.getD 61 0).toNat=61:=by decide+kernel
noncomputable def codes(figs:List Int)(coat:Int):List Nat:=figs.map (sg coat)++List.replicate ((-(figs.length:Int)).fmod 4).toNat 61
theorem QNC(n:Nat):(eqs n).cps.toList=List.replicate ((-(n:Int)).fmod 4).toNat 61:=by
 unfold eqs
 have h0:0≤(-(n:Int)).fmod 4:=Int.fmod_nonneg_of_pos _ (by decide)
 have h1:(-(n:Int)).fmod 4<4:=Int.fmod_lt_of_pos _ (by decide)
 have e:(Qc "=").cps= #[61]:=by decide+kernel
 rw [e]
 obtain ⟨k,hk⟩:∃k:Nat,((-(n:Int)).fmod 4).toNat=k∧k<4:=⟨_,rfl,by omega⟩
 rw [hk.1]
 match k,hk.2 with
 |0,_=>rfl
 |1,_=>rfl
 |2,_=>rfl
 |3,_=>rfl
theorem QHz(coat:Int):∀figs:List Int,(figs.map (sign coat)).flatMap (fun x=>x.cps.toList)=figs.map (sg coat)
 |[]=>rfl
 |f::r=>by rw [Q0,List.flatMap_cons,QHz coat r];rfl
theorem QBV(figs:List Int)(coat:Int):(QBF figs coat).cps.toList=codes figs coat:=by
 unfold QBF codes
 show ((QCQ (figs.map (sign coat))).cps++(eqs figs.length).cps).toList=_
 rw [Array.toList_append,QNC]
 unfold QCQ
 rw [QHz]
theorem QKN{l:List Int}(h:∀i∈l,0≤i∧i<256):QBK (toB l)=l:=by
 unfold QBK toB
 rw [Q3]
 refine (List.map_congr_left fun i hi=>?_).trans (List.map_id _)
 have:=h i hi
 show (((UInt8.ofNat i.toNat).toNat:Nat):Int)=i
 rw [UInt8.toNat_ofNat']
 omega
theorem QLP(lb lc:Int):QFA lb lc=(QId lb lc).map QAg++List.replicate (if lb=2 then 2 else if lb=4 then 1 else 0) 61:=by
 unfold QFA QId
 split
 ·rfl
 ·split<;>rfl
theorem QBc(os:List Int):(QAX os).length=QAs os.length:=by unfold QAX;simp
theorem QBX{os:List Int}:∀i∈QAX os,0≤i∧i<64:=by
 intro i hi
 refine oEA (Qw.mp hi) fun j _ ζ2=>?_
 subst ζ2
 exact ⟨Int.fmod_nonneg_of_pos _ (by decide),Int.fmod_lt_of_pos _ (by decide)⟩
theorem pads{os:List Int}(h1:1≤os.length)(h2:os.length≤5):
  (if (QAk 0 0 os).2.1=2 then 2 else if (QAk 0 0 os).2.1=4 then 1 else 0)=((-((QAs os.length:Nat):Int)).fmod 4).toNat:=by
 cases os with
 |nil=>exact absurd h1 (by decide)
 |cons a r=>cases r with
  |nil=>kernel_rfl
  |cons b r=>cases r with
   |nil=>kernel_rfl
   |cons c r=>cases r with
    |nil=>kernel_rfl
    |cons d r=>cases r with
     |nil=>kernel_rfl
     |cons e r=>cases r with
      |nil=>kernel_rfl
      |cons f r=>exact absurd (Qd (Nat.le_add_left 6 r.length) h2) (by decide)
theorem QI9{os:List Int}(h1:1≤os.length)(h2:os.length≤5)(ho:∀o∈os,0≤o∧o<256):
  QB8 os=(QAX os).map QAg++List.replicate ((-((QAX os).length:Int)).fmod 4).toNat 61:=by
 unfold QB8
 rw [QLP,pads h1 h2,←Q5,←Qv,QBc]
 exact congrArg (fun l=>l.map QAg++_) (QNQ ho)
theorem QQQ{l:List Int}(h:∀i∈l,0≤i∧i<256):(asc (toB l)).cps.toList=l.map Int.toNat:=by
 unfold asc toB
 simp only [Array.toList_map,List.toList_toArray,List.map_toArray,Q3]
 refine List.map_congr_left fun i hi=>?_
 have:=h i hi
 show (UInt8.ofNat i.toNat).toNat=i.toNat
 rw [UInt8.toNat_ofNat']
 omega
theorem QL3{os:List Int}(h1:1≤os.length)(h2:os.length≤5)(ho:∀o∈os,0≤o∧o<256):∀i∈QB8 os,0≤i∧i<128:=by
 rw [QI9 h1 h2 ho]
 intro i hi
 rcases Q8.mp hi with hi|hi
 ·refine oEA (Qw.mp hi) fun f hf ζ2=>?_
  subst ζ2
  have:=QBX f hf
  have:=QDC this.1 this.2
  exact ⟨this.2.2.2.2.2.2.2.1,this.2.2.2.2.2.2.2.2.1⟩
 ·have:=(List.mem_replicate.mp hi).2
  exact ⟨zi1 [_] 1 (.n 0) (.v 0) 1 (.n 61) (.v 0) rfl (Int.le_of_eq this.symm),zi1 [_] 1 (.a (.v 0) (.n 1)) (.n 128) 1 (.v 0) (.n 61) rfl (Int.le_of_eq this)⟩
theorem QJY{x y:Str}(h:x.cps.toList=y.cps.toList):x=y:=by
 cases x;cases y;simp at h;rw [h]
theorem QKd{te:Array UInt8}{os:List Int}(h1:1≤os.length)(h2:os.length≤5)(ho:∀o∈os,0≤o∧o<256):
  asc (encOf te 0 (toB os))=QBF (QAX os) 0:=by
 apply QJY
 unfold encOf
 rw [if_pos rfl,QKN ho,QQQ (fun i hi=>⟨(QL3 h1 h2 ho i hi).1,by have:=(QL3 h1 h2 ho i hi).2;exact zi1 [_] 1 (.a (.v 0) (.n 1)) (.n 256) 1 (.a (.v 0) (.n 1)) (.n 128) rfl this⟩),QBV,QI9 h1 h2 ho]
 skip
 rw [Qv,Q3,List.map_replicate]
 congr 1
 refine List.map_congr_left fun f hf=>?_
 have:=QBX f hf
 exact (QDC this.1 this.2).2.2.1.symm
theorem QKe{os:List Int}(h1:1≤os.length)(h2:os.length≤5)(ho:∀o∈os,0≤o∧o<256):
  asc (encOf teA 1 (toB os))=QBF (QAX os) 1:=by
 apply QJY
 unfold encOf
 rw [if_neg (by decide),QKN ho,QBV]
 unfold asc trB toB codes
 simp only [Array.toList_map,List.toList_toArray,List.map_toArray,Q3]
 rw [QI9 h1 h2 ho,Qv,Q3,List.map_replicate]
 congr 1
 ·refine List.map_congr_left fun f hf=>?_
  have:=QBX f hf
  have:=QDC this.1 this.2
  show (teA.getD (UInt8.ofNat (QAg f).toNat).toNat 0).toNat=_
  rw [UInt8.toNat_ofNat',Nat.mod_eq_of_lt (by exact zn2 [_,_] 1 (.a (.v 0) (.n 1)) (.n 256) 1 (.v 0) (.v 1) 1 (.a (.v 1) (.n 1)) (.n 128) rfl (Qe this.2.2.1.symm) this.2.2.2.2.2.1)]
  exact this.2.2.2.1.symm
 ·exact congrArg _ QSa.1
theorem QJI{figs:List Int}{coat:Int}(hc:coat=0∨coat=1)(hf:∀f∈figs,0≤f∧f<64):∀k∈codes figs coat,k<128:=by
 intro k hk
 rcases Q8.mp hk with hk|hk
 ·refine oEA (Qw.mp hk) fun f hf' ζ2=>?_
  subst ζ2
  have:=hf f hf'
  have:=QDC this.1 this.2
  rcases hc with rfl|rfl
  ·exact this.2.2.2.2.2.1
  ·exact this.2.2.2.2.2.2.1
 ·have:=(List.mem_replicate.mp hk).2
  exact zn1 [_] 1 (.a (.v 0) (.n 1)) (.n 128) 1 (.v 0) (.n 61) rfl (Qe this)
noncomputable def coded(figs:List Int):List Int:=figs.map QAg++List.replicate ((-(figs.length:Int)).fmod 4).toNat 61
theorem QRU{figs:List Int}(hf:∀f∈figs,0≤f∧f<64):(figs.map QAg).map QA5=figs:=by
 rw [Q3]
 refine (List.map_congr_left fun f hf'=>?_).trans (List.map_id _)
 have:=hf f hf'
 exact (QDC this.1 this.2).1
noncomputable def LOk(m:Nat):Prop:=m=2∨m=3∨m=4∨m=6∨m=7
theorem QL9{figs:List Int}(hf:∀f∈figs,0≤f∧f<64)(hL:LOk figs.length):(QAc 0 0 figs).1=QBI figs∧
  ((QAc 0 0 figs).2.1=0∧((-(figs.length:Int)).fmod 4).toNat=0∨(QAc 0 0 figs).2.1=2∧((-(figs.length:Int)).fmod 4).toNat=2∨(QAc 0 0 figs).2.1=3∧((-(figs.length:Int)).fmod 4).toNat=1):=by
 refine oA (QNv hf) fun e1 e2=>?_
 rw [e2]
 refine ⟨e1,?_⟩
 rcases hL with h|h|h|h|h<;>rw [h]<;>decide
theorem QHv{figs:List Int}(hf:∀f∈figs,0≤f∧f<64)(hL:LOk figs.length):QF0 (coded figs) figs:=by
 refine ⟨figs.map QAg,_,rfl,fun c hc=>?_,QRU hf,(QL9 hf hL).2⟩
 refine oEA (Qw.mp hc) fun f hf' ζ2=>?_
 subst ζ2
 have h:=hf f hf'
 have e:=QDC h.1 h.2
 exact ⟨e.2.1,by rw [e.1];exact h.1,by rw [e.1];exact h.2⟩
theorem QLZ{figs:List Int}(hf:∀f∈figs,0≤f∧f<64):QBK (QEn (QBF figs 0))=coded figs:=by
 unfold QBK QEn
 rw [Array.toList_map,QBV,Q3]
 unfold codes coded
 rw [Qv,Q3,List.map_replicate]
 congr 1
 refine List.map_congr_left fun f hf'=>?_
 have:=hf f hf'
 have:=QDC this.1 this.2
 show (((UInt8.ofNat (sg 0 f)).toNat:Nat):Int)=QAg f
 rw [UInt8.toNat_ofNat',Nat.mod_eq_of_lt (by exact zn1 [_] 1 (.a (.v 0) (.n 1)) (.n 256) 1 (.a (.v 0) (.n 1)) (.n 128) rfl this.2.2.2.2.2.1),this.2.2.1]
 omega
theorem QLk{figs:List Int}(hf:∀f∈figs,0≤f∧f<64):QBK (trB tdA (QEn (QBF figs 1)))=coded figs:=by
 unfold QBK trB QEn
 rw [Array.toList_map,Array.toList_map,QBV,Q3,Q3]
 unfold codes coded
 rw [Qv,Q3,List.map_replicate]
 congr 1
 ·refine List.map_congr_left fun f hf'=>?_
  have:=hf f hf'
  have:=QDC this.1 this.2
  show (((tdA.getD (UInt8.ofNat (sg 1 f)).toNat 0).toNat:Nat):Int)=QAg f
  rw [UInt8.toNat_ofNat',Nat.mod_eq_of_lt (by exact zn1 [_] 1 (.a (.v 0) (.n 1)) (.n 256) 1 (.a (.v 0) (.n 1)) (.n 128) rfl this.2.2.2.2.2.2.1),this.2.2.2.2.1]
  omega
 ·refine congrArg _ ?_
  show (((tdA.getD (UInt8.ofNat 61).toNat 0).toNat:Nat):Int)=61
  have h:(UInt8.ofNat 61).toNat=61:=rfl
  rw [h,QSa.2]
  rfl
theorem QIV(figs:List Int)(coat:Int):(QBF figs coat).cps.size≤figs.length+3:=by
 have:=congrArg List.length (QBV figs coat)
 rw [Array.length_toList] at this
 rw [this]
 unfold codes
 rw [Qu,Qs,List.length_replicate]
 have h1:(-(figs.length:Int)).fmod 4<4:=Int.fmod_lt_of_pos _ (by decide)
 omega
theorem QIk(b:Int):∀(m:Nat) (n:Int),(dI b m n).length=m:=by
 intro m
 induction m with
 |zero=>exact fun _=>rfl
 |succ m ih=>intro n;rw [QEt,Qu,ih];rfl
theorem QRi:∀(m:Nat) (n:Int),numOf 0 (dI 256 m n)=n%256^m:=by
 intro m
 induction m with
 |zero=>exact fun n=>(Int.emod_one n).symm
 |succ m ih=>
  intro n
  rw [QEt,QB9,ih]
  have p:(0:Int)<256^m:=Int.pow_pos (by decide)
  have b:=QDc (n/256%256^m) (n%256) (QAM _ (Int.ne_of_gt p)) (QAO _ p) (QAM n (by decide)) (QAO n (by decide))
  have e:n=(n/256%256^m*256+n%256)+256^(m+1)*(n/256/256^m):=by
   have h1:=Int.emod_add_mul_ediv n 256
   have h2:=Int.emod_add_mul_ediv (n/256) (256^m)
   rw [Int.pow_succ]
   generalize n/256/256^m=k at h2⊢
   generalize (256:Int)^m=P at h2⊢
   have h3:P*256*k=P*k*256:=Int.mul_right_comm ..
   omega
  conv=>rhs;rw [e]
  rw [Int.add_mul_emod_self_left,Int.emod_eq_of_lt b.1 (Int.pow_succ .. ▸b.2)]
theorem QGM(l:List Int)(h:∀x∈l,0≤x∧x<64):0≤QBJ 0 l∧QBJ 0 l<64^l.length∧dI 64 l.length (QBJ 0 l)=l:=by
 revert h
 refine snoc_ind (P:=fun l=>(∀x∈l,0≤x∧x<64)→0≤QBJ 0 l∧QBJ 0 l<64^l.length∧dI 64 l.length (QBJ 0 l)=l) (fun _=>⟨Int.le_refl _,by decide,rfl⟩) (fun l x ih h=>?_) l
 refine oA (h x (List.mem_append_right _ (.head _))) fun h0 h1=>?_
 refine oAA (ih fun y hy=>h y (List.mem_append_left _ hy)) fun b0 b1 e=>?_
 rw [QBz,Qu]
 have b:=QDc (QBJ 0 l) x b0 b1 h0 h1
 have c:=cut (n:=QBJ 0 l) 1 (by decide) h0 h1
 rw [Int.ediv_one] at c
 refine ⟨b.1,Int.pow_succ .. ▸b.2,?_⟩
 show dI 64 (l.length+1) _=_
 rw [QEt,show (QBJ 0 l*64+x)/64=QBJ 0 l from c,e]
 exact congrArg (fun z=>l++[z]) ((Int.add_comm _ _▸Int.add_mul_emod_self_right ..).trans (Int.emod_eq_of_lt h0 h1))
noncomputable def QA9(m:Nat):Int:=if m=2∨m=6 then 16 else if m=3∨m=7 then 4 else 1
theorem QJs{m:Nat}(h:LOk m):∃t:Int,0<QA9 m∧0<t∧t*QA9 m=64∧(4:Int)^(3*m-4*QCF m)=QA9 m∧QAs (QCF m)=m∧(64:Int)^m=QA9 m*256^QCF m:=by
 rcases h with rfl|rfl|rfl|rfl|rfl
 ·exact ⟨4,by decide⟩
 ·exact ⟨16,by decide⟩
 ·exact ⟨64,by decide⟩
 ·exact ⟨4,by decide⟩
 ·exact ⟨16,by decide⟩
theorem QHH{fs:List Int}:(QBI fs).length=QCF fs.length:=by rw [QCU,QIk]
theorem QNo{x y:UInt8}:∀{l r:List UInt8},l.length=r.length→bLt l r=true→bLt (l++[x]) (r++[y])=true:=by
 intro l
 induction l with
 |nil=>intro r e h;cases r with
  |nil=>exact absurd h QAS
  |cons=>exact absurd e (fun e=>nomatch e)
 |cons a l ih=>intro r e h;cases r with
  |nil=>exact absurd e (fun e=>nomatch e)
  |cons b r=>
   unfold bLt at h
   show (if a<b then true else if b<a then false else bLt (l++[x]) (r++[y]))=true
   by_cases h1:a<b
   ·exact if_pos h1
   ·rw [if_neg h1] at h⊢
    by_cases h2:b<a
    ·rw [if_pos h2] at h;exact absurd h QAS
    ·rw [if_neg h2] at h⊢;exact ih (Nat.succ.inj e) h
theorem QNn{x y:UInt8}(h:x<y):∀l:List UInt8,bLt (l++[x]) (l++[y])=true:=by
 intro l
 induction l with
 |nil=>exact if_pos h
 |cons a l ih=>
  have n:¬a<a:=UInt8.lt_irrefl a
  exact (if_neg n).trans ((if_neg n).trans ih)
noncomputable def u8(i:Int):UInt8:=UInt8.ofNat i.toNat
theorem QTA:∀(m:Nat) (a b:Int),0≤a→a<b→b<256^m→bLt ((dI 256 m a).map u8) ((dI 256 m b).map u8)=true:=by
 intro m
 induction m with
 |zero=>exact fun a b h0 h1 h2=>absurd (Int.lt_of_le_of_lt h0 (QAK h1 (Int.le_of_lt_add_one h2))) (Int.lt_irrefl 0)
 |succ m ih=>
  intro a b h0 h1 h2
  rw [QEt,QEt,Qv,Qv]
  by_cases e:a/256=b/256
  ·rw [e]
   refine QNn ?_ _
   have ha:=Int.emod_add_mul_ediv a 256
   have hb:=Int.emod_add_mul_ediv b 256
   rw [←ha,←hb,e] at h1
   have lt:a%256<b%256:=Int.lt_of_add_lt_add_right h1
   have a0:=QAM a (b:=256) (by decide)
   have b1:=QAO b (b:=256) (by decide)
   refine UInt8.lt_iff_toNat_lt.mpr ?_
   unfold u8
   have hn:(a%256).toNat<(b%256).toNat:=(Int.toNat_lt_toNat (Int.lt_of_le_of_lt a0 lt)).mpr lt
   have hk:(b%256).toNat<256:=(Int.toNat_lt (QAJ a0 (Int.le_of_lt lt))).mpr b1
   rw [UInt8.toNat_ofNat',UInt8.toNat_ofNat',Nat.mod_eq_of_lt (Nat.lt_trans hn hk),Nat.mod_eq_of_lt hk]
   exact hn
  ·refine QNo (by rw [Qs,Qs,QIk,QIk]) (ih _ _ (Int.ediv_nonneg h0 (by decide)) (Int.lt_iff_le_and_ne.mpr ⟨Int.ediv_le_ediv (by decide) (Int.le_of_lt h1),e⟩) (Int.ediv_lt_of_lt_mul (by decide) (by rw [←Int.pow_succ];exact h2)))
noncomputable def spV(c:Int):List Int→Int
 |[]=>0
 |f::r=>if f<52 then f.fmod 26+26*c.fmod 2+64*spV (c.fdiv 2) r else f+64*spV c r
noncomputable def QCe:List Int→Nat
 |[]=>0
 |f::r=>(if f<52 then 1 else 0)+QCe r
theorem QAy:∀{rev:List Int} {c:Int} {acc:List Int},QAi c acc rev=QAi c [] rev++acc
 |[],c,acc=>rfl
 |f::r,c,acc=>by
  unfold QAi
  split
  ·rw [QAy,QAy (acc:=[_]),Q5];rfl
  ·rw [QAy,QAy (acc:=[_]),Q5];rfl
theorem QGO:∀{l:List Int} {n x:Int},QBJ n (l++[x])=QBJ n l*64+x
 |[],n,x=>rfl
 |y::r,n,x=>by rw [List.cons_append,QBJ,QBJ];exact QGO
theorem QET:∀{rev:List Int} {c:Int},QBJ 0 (QAi c [] rev)=spV c rev
 |[],c=>rfl
 |f::r,c=>by
  unfold QAi spV
  split
  ·rw [QAy,QGO,QET];exact QAH (zi0 [_,_,_] 1 (.a (.w (.v 0) 64) (.a (.v 1) (.m 26 (.v 2)))) (.a (.a (.v 1) (.m 26 (.v 2))) (.m 64 (.v 0))) rfl) (zi0 [_,_,_] 1 (.a (.a (.v 0) (.m 26 (.v 1))) (.m 64 (.v 2))) (.a (.w (.v 2) 64) (.a (.v 0) (.m 26 (.v 1)))) rfl)
  ·rw [QAy,QGO,QET];exact QAH (zi0 [_,_] 1 (.a (.w (.v 0) 64) (.v 1)) (.a (.v 1) (.m 64 (.v 0))) rfl) (zi0 [_,_] 1 (.a (.v 0) (.m 64 (.v 1))) (.a (.w (.v 1) 64) (.v 0)) rfl)
theorem QK6:∀{rev:List Int} {c d:Int},0≤c→c<d→d<2^QCe rev→spV c rev+25≤spV d rev
 |[],c,d,h0,h1,h2=>by simp [QCe] at h2;exact QJz (zi3 [_,_] 1 (.n 1) (.n 0) 1 (.n 0) (.v 0) 1 (.a (.v 0) (.n 1)) (.v 1) 1 (.a (.v 1) (.n 1)) (.n 1) rfl h0 h1 h2)
 |f::r,c,d,h0,h1,h2=>by
  unfold QCe at h2
  unfold spV
  by_cases hf:f<52
  ·rw [if_pos hf] at h2⊢
   rw [if_pos hf]
   rw [Nat.add_comm,Int.pow_succ] at h2
   simp only [fd _ 2 (by decide),fm _ 2 (by decide)]
   by_cases he:c/2=d/2
   ·rw [he];omega
   ·have:=QK6 (rev:=r) (c:=c/2) (d:=d/2) (by omega) (by omega) (by omega)
    omega
  ·rw [if_neg hf] at h2⊢
   rw [if_neg hf]
   rw [Qm] at h2
   have:=QK6 (rev:=r) h0 h1 h2
   exact zi1 [_,_,_] 1 (.a (.a (.v 0) (.m 64 (.v 1))) (.n 25)) (.a (.v 0) (.m 64 (.v 2))) 64 (.a (.v 1) (.n 25)) (.v 2) rfl this
theorem QD1:∀{rev:List Int} {c:Int},(∀f∈rev,0≤f∧f<64)→∀f∈QAi c [] rev,0≤f∧f<64
 |[],c,_,f,hf=>absurd hf (by simp [QAi])
 |g::r,c,h,f,hf=>by
  have hg:=h g (by exact .head _)
  unfold QAi at hf
  split at hf
  ·rw [QAy] at hf
   rcases Q8.mp hf with hf|hf
   ·exact QD1 (fun x hx=>h x (by simp [hx])) f hf
   ·rw [Qy] at hf
    subst hf
    rw [fm _ 26 (by decide),fm _ 2 (by decide)]
    omega
  ·rw [QAy] at hf
   rcases Q8.mp hf with hf|hf
   ·exact QD1 (fun x hx=>h x (by simp [hx])) f hf
   ·rw [Qy] at hf
    subst hf
    exact hg
theorem QDQ:∀{rev:List Int} {c:Int},(QAi c [] rev).length=rev.length
 |[],c=>rfl
 |g::r,c=>by
  unfold QAi
  split
  ·rw [QAy,Qu,QDQ];rfl
  ·rw [QAy,Qu,QDQ];rfl
noncomputable def QOW(fs:List Int):Array UInt8:=toB (QBI fs)
theorem QSI{rev:List Int}{c d:Int}(hL:LOk rev.length)(hr:∀f∈rev,0≤f∧f<64)(h0:0≤c)(h1:c<d)(h2:d<2^QCe rev):
  bLt (QOW (QAi c [] rev)).toList (QOW (QAi d [] rev)).toList=true:=by
 have hc:=QGM (QAi c [] rev) (QD1 hr)
 have hd:=QGM (QAi d [] rev) (QD1 hr)
 rw [QDQ] at hc hd
 have hlt:=QK6 (rev:=rev) h0 h1 h2
 rw [←QET,←QET] at hlt
 refine QEf (QJs hL) fun t s0 _ _=>rAA fun e4 _ e64=>?_
 have s25:QA9 rev.length≤25:=by unfold QA9;split;decide;split<;>decide
 have e:∀c,(QOW (QAi c [] rev)).toList=(dI 256 (QCF rev.length) (QBJ 0 (QAi c [] rev)/QA9 rev.length)).map u8:=fun c=>by
  unfold QOW toB
  rw [QCU,QDQ,e4];rfl
 rw [e,e]
 refine QTA _ _ _ (Int.ediv_nonneg hc.1 (Int.le_of_lt s0)) ?_ (Int.ediv_lt_of_lt_mul s0 (by rw [Int.mul_comm,←e64];exact hd.2.1))
 have:=Int.ediv_le_ediv s0 (QAJ (Int.add_le_add_left s25 _) hlt)
 rw [show QBJ 0 (QAi c [] rev)+QA9 rev.length=QBJ 0 (QAi c [] rev)+1*QA9 rev.length by rw [Int.one_mul],Int.add_mul_ediv_right _ _ (Int.ne_of_gt s0)] at this
 exact Int.lt_of_add_one_le this
noncomputable def QJ6:QBR:=fun ds ks d=>∃o:List Int,ds=[.list (o.map .int)]∧ks=[]∧(1≤o.length∧o.length≤5)∧(∀i∈o,0≤i∧i<256)∧d= .list ((QAX o).map .int)
noncomputable def QHr(te:Array UInt8):QBR:=fun ds ks d=>∃b coat,ds=[.bytes b,.int coat]∧ks=[]∧b.size≤100∧0<(encOf te coat b).size∧((encOf te coat b).toList.all fun k=>decide (k<128))=true∧d= .str (asc (encOf te coat b))
noncomputable def QMC:QBR:=fun ds ks d=>∃(f:List Int) (coat:Int),ds=[.list (f.map .int),.int coat]∧ks=[]∧f.length≤100∧(∀i∈f,0≤i∧i<64)∧d= .str (QBF f coat)
noncomputable def QK7:QBR:=fun ds ks d=>∃(f:List Int) (c:Int),ds=[.list (f.map .int),.int c]∧ks=[]∧f≠[]∧f.length≤20∧d= .list ((QAi c [] f.reverse).map .int)
noncomputable def QN2:QBR:=fun ds ks d=>∃f:List Int,ds=[.list (f.map .int)]∧ks=[]∧f.length≤7∧(∀i∈f,0≤i∧i<64)∧d= .bytes (toB (QBI f))
noncomputable def QSE:QBR:=fun ds ks d=>∃x y,ds=[.bytes x,.bytes y]∧ks=[]∧d= .int (b2i (bLt y.toList x.toList)-b2i (bLt x.toList y.toList))
theorem QS9:∀L:Fin 6,1≤L.val→(QAs L.val=2∨QAs L.val=3∨QAs L.val=4∨QAs L.val=6∨QAs L.val=7):=by decide+kernel
theorem QCy{n:Nat}(h1:1≤n)(h2:n≤5):LOk (QAs n):=QS9 ⟨n,Nat.lt_succ_of_le h2⟩ h1
theorem QDv{n:Nat}(h:LOk n):n≤7∧2≤n:=by rcases h with rfl|rfl|rfl|rfl|rfl<;>exact ⟨by decide,by decide⟩
noncomputable def lettersOf(figs:List Int):Nat:=(figs.filter fun f=>decide (f<52)).length
noncomputable def QA0(figs:List Int)(n:Int):Int:=(n.fdiv 3).fmod (2^lettersOf figs)
noncomputable def QA2(figs:List Int)(c:Int):List Int:=QAi c [] figs.reverse
noncomputable def QA4(figs:List Int)(coat c:Int):Str:=QBF (QA2 figs c) coat
noncomputable def QAz(figs:List Int)(c:Int):Array UInt8:=QOW (QA2 figs c)
theorem QKp(l:List Int):QCe l=(l.filter fun f=>decide (f<52)).length:=by
 induction l with
 |nil=>rfl
 |cons f r ih=>
  unfold QCe
  rw [ih,List.filter_cons]
  by_cases h:f<52
  ·rw [if_pos h,if_pos (decide_eq_true h),Qz,Nat.add_comm]
  ·rw [if_neg h,if_neg (fun e=>h (of_decide_eq_true e)),Qm]
theorem QKg(l:List Int):QCe l.reverse=lettersOf l:=by
 rw [QKp,List.filter_reverse,List.length_reverse];rfl
theorem QH4{figs:List Int}{n:Int}:0≤QA0 figs n∧QA0 figs n<2^lettersOf figs:=by
 have:(0:Int)<2^lettersOf figs:=Int.pow_pos (by decide)
 exact ⟨Int.fmod_nonneg_of_pos _ this,Int.fmod_lt_of_pos _ this⟩
theorem QBA{figs:List Int}{c:Int}(h:∀f∈figs,0≤f∧f<64):∀f∈QA2 figs c,0≤f∧f<64:=QD1 fun f hf=>h f (List.mem_reverse.mp hf)
theorem QBN{figs:List Int}{c:Int}:(QA2 figs c).length=figs.length:=by unfold QA2;rw [QDQ,List.length_reverse]
theorem QEQ{figs:List Int}{c d:Int}(hL:LOk figs.length)(hr:∀f∈figs,0≤f∧f<64)(h0:0≤c)(h1:c<d)(h2:d<2^lettersOf figs):
  bLt (QAz figs c).toList (QAz figs d).toList=true:=
 QSI (by rw [List.length_reverse];exact hL) (fun f hf=>hr f (List.mem_reverse.mp hf)) h0 h1 (by rw [QKg];exact h2)
theorem QDh(l:List UInt8):bLt l l=false:=by
 induction l with
 |nil=>rfl
 |cons x r ih=>unfold bLt;rw [if_neg (UInt8.lt_irrefl x),if_neg (UInt8.lt_irrefl x)];exact ih
theorem QFc{l:List UInt8}:∀{r:List UInt8},bLt l r=true→bLt r l=false:=by
 induction l with
 |nil=>intro r h;cases r with
  |nil=>rfl
  |cons=>rfl
 |cons x l ih=>intro r h;cases r with
  |nil=>exact Bool.noConfusion h
  |cons y r=>
   unfold bLt at h⊢
   by_cases h1:x<y
   ·rw [if_neg (UInt8.lt_asymm h1),if_pos h1]
   ·by_cases h2:y<x
    ·rw [if_neg h1,if_pos h2] at h;exact Bool.noConfusion h
    ·rw [if_neg h1,if_neg h2] at h
     rw [if_neg h2,if_neg h1]
     exact ih h
theorem QPI{figs:List Int}{c d:Int}(hL:LOk figs.length)(hr:∀f∈figs,0≤f∧f<64)(hc:0≤c∧c<2^lettersOf figs)(hd:0≤d∧d<2^lettersOf figs):
  b2i (bLt (QAz figs d).toList (QAz figs c).toList)-b2i (bLt (QAz figs c).toList (QAz figs d).toList)=if c=d then 0 else if d<c then 1 else-1:=by
 by_cases h:c=d
 ·subst h
  rw [QDh,if_pos rfl];rfl
 ·rw [if_neg h]
  by_cases h':d<c
  ·have:=QEQ hL hr hd.1 h' hc.2
   rw [this,QFc this,if_pos h'];rfl
  ·have:=QEQ hL hr hc.1 (Int.lt_iff_le_and_ne.mpr ⟨QAN.mp h',h⟩) hd.2
   rw [this,QFc this,if_neg h'];rfl
theorem QHs{figs:List Int}{coat c:Int}(hc:coat=0∨coat=1)(hl:figs.length≤7)(hf:∀f∈figs,0≤f∧f<64):QPP (QA4 figs coat c):=by
 refine ⟨Qd (QIV _ _) (by rw [QBN];exact Qd (Nat.add_le_add_right hl 3) (by decide)),List.all_eq_true.mpr fun k hk=>decide_eq_true ?_⟩
 rw [QA4,QBV] at hk
 exact QJI hc (QBA hf) k hk
theorem QJR{figs:List Int}{c:Int}(hL:LOk figs.length):LOk (QA2 figs c).length:=by rw [QBN];exact hL
theorem QLt{figs:List Int}{c:Int}(hL:LOk figs.length)(hf:∀f∈figs,0≤f∧f<64):toB (QAc 0 0 (QA2 figs c)).1=QAz figs c:=by
 rw [(QL9 (QBA hf) (QJR hL)).1];rfl
theorem QM5{figs:List Int}{c:Int}(hL:LOk figs.length)(hf:∀f∈figs,0≤f∧f<64):sDec [.str (QA4 figs 0 c)] [] (.bytes (QAz figs c)):=
 ⟨rfl,QA2 figs c,by rw [QLt hL hf],.inl ⟨_,rfl,QHs (.inl rfl) (QDv hL).1 hf,by rw [QA4,QLZ (QBA hf)];exact QHv (QBA hf) (QJR hL)⟩⟩
theorem QLN{figs:List Int}{c:Int}(hL:LOk figs.length)(hf:∀f∈figs,0≤f∧f<64):QO8 tdA [.str (QA4 figs 1 c)] [] (.bytes (QAz figs c)):=
 ⟨rfl,_,QA2 figs c,rfl,QHs (.inr rfl) (QDv hL).1 hf,by rw [QA4,QLk (QBA hf)];exact QHv (QBA hf) (QJR hL),by rw [QLt hL hf]⟩
theorem QCn{f:D→D→Option Bool}{l:List D}(h:∀x∈l,f x x=some true):all2 f l l=some true:=by
 induction l with
 |nil=>rfl
 |cons x r ih=>unfold all2;rw [h x (.head _),ih fun y hy=>h y (.tail _ hy)];rfl
theorem QNS{figs cs:List Int}:QA8 .NotEq (.list (cs.map fun c=>D.bytes (QAz figs c))) (.list (cs.map fun c=>D.bytes (QAz figs c)))=some false:=by
 show (if _=_ then all2 (dEq 7) (cs.map fun c=>D.bytes (QAz figs c)) (cs.map fun c=>D.bytes (QAz figs c)) else some false).map (!·)=_
 rw [if_pos rfl,QCn]
 ·rfl
 ·intro x hx
  refine oEA (Qw.mp hx) fun c _ ζ2=>?_
  subst ζ2
  exact congrArg some (QE3 rfl)
theorem QTs(x:Str):QA8 .NotEq (.str x) (.str x)=some false:=congrArg (fun r=>some (!r)) (QE3 rfl)
theorem QPq{te:Array UInt8}{os figs:List Int}{coat:Int}(hw:asc (encOf te coat (toB os))=QBF figs coat)(hc:coat=0∨coat=1)(hL:LOk figs.length)(hf:∀f∈figs,0≤f∧f<64)(h2:os.length≤5):QHr te [.bytes (toB os),.int coat] [] (.str (QBF figs coat)):=by
 have hl:(encOf te coat (toB os)).toList.map (fun x=>x.toNat)=codes figs coat:=by
  have:=congrArg (fun x:Str=>x.cps.toList) hw
  rw [QBV] at this
  rw [←this];exact Array.toList_map.symm
 refine ⟨toB os,coat,rfl,rfl,by rw [QJ9];exact Qd h2 (by decide),?_,List.all_eq_true.mpr fun k hk=>decide_eq_true ?_,by rw [hw]⟩
 ·have:=congrArg List.length hl
  rw [Qs,codes,Qu,Qs] at this
  rw [←Array.length_toList,this]
  exact Qp (Qp (by decide) (QDv hL).2) (Qg _ _)
 ·exact UInt8.lt_iff_toNat_lt.mpr (QJI hc hf k.toNat (hl▸List.mem_map_of_mem hk))
noncomputable def QBu(figs:List Int)(w:Int)(dr:List Int):List Int:=(dr.filter fun k=>decide (k.fmod 3≠w)).map (QA0 figs)
theorem QKV{α:Type}{f g:α→D}(l:List α):QF5 (l.map f) (l.map g)=l.map fun x=> .tup [f x,g x]:=by
 induction l with
 |nil=>rfl
 |cons x r ih=>exact congrArg (_:: ·) ih
theorem QJy{l:List Int}(h:l.length<64):dCall (nm "sorted") [.list (l.map .int)]=some (.list ((sortI l).map .int)):=by
 show ((QB3 (l.map .int)).bind fun is=>if is.length<64 then some (D.list ((sortI is).map .int)) else none)=_
 rw [QDV];exact if_pos h
theorem QLQ{f:Int→D}(l:List Int):QBg (l.map .int) (l.map f)=some (l.map fun c=>(c,f c)):=by
 induction l with
 |nil=>rfl
 |cons c r ih=>show ((QBg (r.map .int) (r.map f)).map ((c,f c):: ·))=_;rw [ih];rfl
theorem QIO:∀{l:List Int} {k:Int} {p:Int×Int},p∈QCD k l→∃i:Nat,p.1=k+(i:Nat)∧l[i]? =some p.2:=by
 intro l
 induction l with
 |nil=>exact fun h=>nomatch h
 |cons c r ih=>
  intro k p h
  cases h with
  |head=>exact ⟨0,(Int.add_zero k).symm,rfl⟩
  |tail _ h=>
   refine oEA (ih h) fun i e h=>?_
   exact ⟨i+1,by rw [e,Int.add_assoc,Int.add_comm 1];rfl,h⟩
noncomputable def BT(te td:Array UInt8)(sL sH:QBR):QC9:=tabOf [("_law_figures",QJ6),("_law_written",QHr te),("_law_text",QMC),("_law_spelled",QK7),("urlsafe_b64decode",QO8 td),("b64decode",sDec),("_law_octets",QN2),("three_way_cmp",QSE),("_law_lists",sL),("_law_headers",sH)]
section
variable {prog:QV}{w:QX}{G:Gd prog w}{N:Nat}{te td:Array UInt8}{F:QC9}{C:QCl}
theorem QNl(R:Ev G N F C){α:Type}{t:Expr}{b:List Stmt}{sh:PS}{x:α→D}(l:List α)(h:∀a∈l,∃bs os,QAe t (x a)=some bs∧q G N F C 100 (.sts b (sh.puts bs) os (okN sh))):FLt G N t b (l.map x) sh (.next sh):=by
 induction l with
 |nil=>exact QI1
 |cons a l ih=>
  refine QB0 (h a (.head _)) fun bs os h1 h2=>?_
  exact QBv R os h1 h2 (ih fun b m=>h b (.tail _ m))
noncomputable def B8(os dr:List Int)(coat:Int)(cs:List Int)(figs:List Int):PS:=⟨⟨QAa 43,[(nm "octets",.list (os.map .int)),(nm "coat",.int coat),(nm "drawn",.list (dr.map .int)),(nm "choices",.list (cs.map .int)),(nm "names",.list (cs.map fun c=> .str (QA4 figs coat c))),(nm "got",.list (cs.map fun c=> .bytes (QAz figs c)))]⟩,[]⟩
noncomputable def B9(os dr:List Int)(coat:Int)(cs:List Int)(figs:List Int)(i c:Int):PS:=⟨⟨QAa 43,(nm "at",.int i)::(nm "choice",.int c)::(B8 os dr coat cs figs).ρ.vs⟩,[]⟩
variable {sL sH:QBR}{os dr cs figs:List Int}{coat:Int}
theorem QO0(R:Ev G N (BT te td sL sH) (CT te td))(hL:LOk figs.length)(hf:∀f∈figs,0≤f∧f<64)(hcs:∀c∈cs,0≤c∧c<2^lettersOf figs)(hcl:cs.length≤16){i:Nat}{c:Int}(hi:cs[i]? =some c):
  FLt G N (lp (lp (fnBody 43) 0).2 0).1 (lp (lp (fnBody 43) 0).2 0).2 (QCR 0 (cs.map .int)) (B9 os dr coat cs figs (i:Nat) c) (.next (B9 os dr coat cs figs (i:Nat) c)):=by
 have hm:(cs.map fun c=>D.bytes (QAz figs c)).length=cs.length:=Qs ..
 have row:∀{k:Nat} {e:Int},cs[k]? =some e→QBb (.list (cs.map fun c=>D.bytes (QAz figs c))) (.int (k:Nat))=some (.bytes (QAz figs e)):=fun {k e} h=>
  QMA (by rw [hm];exact Qd hcl (by decide)) (QFW (by rw [hm];exact (List.getElem?_eq_some_iff.mp h).1)) (by rw [Q7,h];rfl)
 rw [QCp]
 refine QNl R _ fun p hp=>?_
 obtain ⟨j,d⟩:=p
 refine oEA (QIO hp) fun j' e hj=>?_
 rw [show j=(j':Nat) from e.trans (Int.zero_add _)]
 have told:=QPI hL hf (hcs c (List.mem_of_getElem? hi)) (hcs d (List.mem_of_getElem? hj))
 have s:∀{t:Int},(if c=d then 0 else if d<c then 1 else-1)=t→QSE [.bytes (QAz figs c),.bytes (QAz figs d)] [] (.int t):=fun h=>⟨_,_,rfl,rfl,congrArg D.int (h.symm.trans told.symm)⟩
 have e1:=row hi
 have e2:=row hj
 by_cases h:c=d
 ·exact ⟨[(nm "there",.int j'),(nm "other",.int d)],[.d (.bytes (QAz figs c)),.d (.bytes (QAz figs d)),.d (.int 0),.b true,.b false],by kernel_rfl,QAZ (ai e1<|ai e2<|ai (s (if_pos h))<|ai (eq1 c d h)<|ai (ne0 0 0 rfl) (okr (B9 os dr coat cs figs i c))) (by kernel_rfl)⟩
 ·by_cases g:d<c
  ·exact ⟨[(nm "there",.int j'),(nm "other",.int d)],[.d (.bytes (QAz figs c)),.d (.bytes (QAz figs d)),.d (.int 1),.b false,.b true,.b false],by kernel_rfl,QAZ (ai e1<|ai e2<|ai (s ((if_neg h).trans (if_pos g)))<|ai (eq0 c d h)<|ai (gt1 c d g)<|ai (ne0 1 1 rfl) (okr (B9 os dr coat cs figs i c))) (by kernel_rfl)⟩
  ·exact ⟨[(nm "there",.int j'),(nm "other",.int d)],[.d (.bytes (QAz figs c)),.d (.bytes (QAz figs d)),.d (.int (-1)),.b false,.b false,.b false],by kernel_rfl,QAZ (ai e1<|ai e2<|ai (s ((if_neg h).trans (if_neg g)))<|ai (eq0 c d h)<|ai (gt0 c d (QAN.mp g))<|ai (ne0 (-1) (-1) rfl) (okr (B9 os dr coat cs figs i c))) (by kernel_rfl)⟩
theorem QNb(R:Ev G N (BT te td sL sH) (CT te td))(hL:LOk figs.length)(hf:∀f∈figs,0≤f∧f<64)(hcs:∀c∈cs,0≤c∧c<2^lettersOf figs)(hcl:cs.length≤16):
  FLt G N (lp (fnBody 43) 0).1 (lp (fnBody 43) 0).2 (QCR 0 (cs.map .int)) (B8 os dr coat cs figs) (.next (B8 os dr coat cs figs)):=by
 have hl:(cs.map D.int).length≤1000:=QCk (Qd hcl (by decide))
 rw [QCp]
 refine QNl R _ fun p hp=>?_
 obtain ⟨j,c⟩:=p
 refine oEA (QIO hp) fun i e hi=>?_
 rw [show j=(i:Nat) from e.trans (Int.zero_add _)]
 exact ⟨[(nm "at",.int i),(nm "choice",.int c)],[.s (B9 os dr coat cs figs i c),.o (.next (B9 os dr coat cs figs i c))],by kernel_rfl,QAZ (ai hl<|ai (okr (B9 os dr coat cs figs i c))<|ai (QO0 R (os:=os) (dr:=dr) (coat:=coat) (c:=c) hL hf hcs hcl hi) (okr (B8 os dr coat cs figs))) (by kernel_rfl)⟩
theorem ned(a b:Int):QA8 .NotEq (.int a) (.int b)=some (decide (a≠b)):=by
 by_cases h:a=b
 ·rw [ne0 a b h,decide_eq_false fun n=>n h]
 ·rw [ne1 a b h,decide_eq_true h]
noncomputable def E1(l:List (Str×D)):PS:=⟨⟨QAa 43,l⟩,[]⟩
theorem QTJ(R:Ev G N F C)(figs:List Int):CLt G N (cp (fnBody 43) 0).t (cp (fnBody 43) 0).ifs (cp (fnBody 43) 0).e (cp (fnBody 43) 0).sc (E1 []).ρ (figs.map .int) ((figs.filter fun f=>decide (f<52)).map .int):=
 QHP R (c:=fst (cp (fnBody 43) 0).ifs) rfl (bs:=fun f=>[(nm "figure",.int f)]) (fun f=>[.b (decide (f<52))]) (fun _=>[]) figs fun f _=>⟨rfl,QAZ (ai (rfl (a:=some (decide (f<52)))) (@rfl Bool (decide (f<52)))) (by kernel_rfl),QAZ (@rfl D (.int f)) (by kernel_rfl)⟩
theorem QHF{figs:List Int}:lettersOf figs≤figs.length:=List.length_filter_le _ _
theorem QTE(R:Ev G N F C)(figs dr:List Int)(hl:figs.length≤20):CLt G N (cp (fnBody 43) 1).t (cp (fnBody 43) 1).ifs (cp (fnBody 43) 1).e (cp (fnBody 43) 1).sc (E1 [(nm "letters",.int (lettersOf figs))]).ρ (dr.map .int) ((dr.map (QA0 figs)).map .int):=by
 rw [Q3]
 refine QCV R (bs:=fun k=>[(nm "number",.int k)]) (fun k=>[.d (.int (k.fdiv 3)),.d (.int (2^lettersOf figs)),.d (.int ((k.fdiv 3).fmod (2^lettersOf figs)))]) dr fun k _=>⟨rfl,QAZ (ai (QCz k 3 (by decide))<|
  ai (QJi 2 (lettersOf figs) (by rw [QAD]) (QAC _) (QAE.mpr (Qd QHF (Qd hl (by decide)))) (by decide) (by decide))<|ai (QDR (k.fdiv 3) (2^lettersOf figs) (Int.ne_of_gt (Int.pow_pos (by decide)))) (@rfl D (.int ((k.fdiv 3).fmod (2^lettersOf figs))))) (by kernel_rfl)⟩
noncomputable abbrev spD(figs:List Int)(c:Int):D:= .list ((QA2 figs c).map .int)
theorem QS7(R:Ev G N (BT te td sL sH) C)(h0:figs≠[])(hl:figs.length≤20):CLt G N (cp (fnBody 43) 2).t (cp (fnBody 43) 2).ifs (cp (fnBody 43) 2).e (cp (fnBody 43) 2).sc (E1 [(nm "figures",.list (figs.map .int))]).ρ (cs.map .int) (cs.map (spD figs)):=
 QCV R (bs:=fun c=>[(nm "choice",.int c)]) (fun c=>[.d (spD figs c)]) cs fun c _=>⟨rfl,QAZ (ai (⟨figs,c,rfl,rfl,h0,hl,rfl⟩:QK7 [.list (figs.map .int),.int c] [] (spD figs c)) (@rfl D (spD figs c))) (by kernel_rfl)⟩
theorem QSz(R:Ev G N (BT te td sL sH) C)(hf:∀f∈figs,0≤f∧f<64)(hl:figs.length≤20):CLt G N (cp (fnBody 43) 3).t (cp (fnBody 43) 3).ifs (cp (fnBody 43) 3).e (cp (fnBody 43) 3).sc (E1 [(nm "coat",.int coat)]).ρ (cs.map (spD figs)) (cs.map fun c=> .str (QA4 figs coat c)):=
 QCV R (bs:=fun c=>[(nm "places",spD figs c)]) (fun c=>[.d (.str (QA4 figs coat c))]) cs fun c _=>⟨rfl,QAZ (ai (⟨QA2 figs c,coat,rfl,rfl,by rw [QBN];exact Qd hl (by decide),QBA hf,rfl⟩:QMC [spD figs c,.int coat] [] (.str (QA4 figs coat c))) (@rfl D (.str (QA4 figs coat c)))) (by kernel_rfl)⟩
theorem QSo(R:Ev G N (BT te tdA sL sH) C)(hf:∀f∈figs,0≤f∧f<64)(hL:LOk figs.length)(hc:coat=0∨coat=1):CLt G N (cp (fnBody 43) 4).t (cp (fnBody 43) 4).ifs (cp (fnBody 43) 4).e (cp (fnBody 43) 4).sc (E1 [(nm "coat",.int coat)]).ρ (cs.map fun c=> .str (QA4 figs coat c)) (cs.map fun c=> .bytes (QAz figs c)):=by
 rcases hc with rfl|rfl
 ·exact QCV R (bs:=fun c=>[(nm "name",.str (QA4 figs 0 c))]) (fun c=>[.b false,.d (.bytes (QAz figs c))]) cs fun c _=>⟨rfl,QAZ (ai (tr0 0 rfl)<|ai (QM5 (c:=c) hL hf) (@rfl D (.bytes (QAz figs c)))) (by kernel_rfl)⟩
 ·exact QCV R (bs:=fun c=>[(nm "name",.str (QA4 figs 1 c))]) (fun c=>[.b true,.d (.bytes (QAz figs c))]) cs fun c _=>⟨rfl,QAZ (ai (tr1 1 (by decide))<|ai (QLN (c:=c) hL hf) (@rfl D (.bytes (QAz figs c)))) (by kernel_rfl)⟩
theorem QSm(R:Ev G N (BT te td sL sH) C)(hf:∀f∈figs,0≤f∧f<64)(hL:LOk figs.length):CLt G N (cp (fnBody 43) 5).t (cp (fnBody 43) 5).ifs (cp (fnBody 43) 5).e (cp (fnBody 43) 5).sc (E1 []).ρ (cs.map (spD figs)) (cs.map fun c=> .bytes (QAz figs c)):=
 QCV R (bs:=fun c=>[(nm "places",spD figs c)]) (fun c=>[.d (.bytes (QAz figs c))]) cs fun c _=>⟨rfl,QAZ (ai (⟨QA2 figs c,rfl,rfl,(QDv (QJR hL)).1,QBA hf,rfl⟩:QN2 [spD figs c] [] (.bytes (QAz figs c))) (@rfl D (.bytes (QAz figs c)))) (by kernel_rfl)⟩
theorem QTK(R:Ev G N (BT te td sL sH) (CT te td)):CLt G N (cp (fnBody 43) 6).t (cp (fnBody 43) 6).ifs (cp (fnBody 43) 6).e (cp (fnBody 43) 6).sc (E1 []).ρ (cs.map fun c=> .bytes (QAz figs c)) []:=by
 have h:=QLL R (x:=fun c=>D.bytes (QAz figs c)) (g:=fun c=>D.bytes (QAz figs c)) (p:=fun _=>false) (bs:=fun c=>[(nm "row",.bytes (QAz figs c))]) (t:=(cp (fnBody 43) 6).t) (ifs:=(cp (fnBody 43) 6).ifs) (e:=(cp (fnBody 43) 6).e) (sc:=(cp (fnBody 43) 6).sc) (ρ:=(E1 []).ρ) cs
  fun c _=>⟨rfl,⟨[],QAZ (@rfl Bool false) (by kernel_rfl)⟩,fun h=>Bool.noConfusion h⟩
 rwa [List.filter_eq_nil_iff.mpr fun _ _ h=>Bool.noConfusion h] at h
theorem QTd(R:Ev G N F C):CLt G N (cp (fnBody 43) 7).t (cp (fnBody 43) 7).ifs (cp (fnBody 43) 7).e (cp (fnBody 43) 7).sc (E1 []).ρ (QF5 (dr.map .int) ((dr.map (QA0 figs)).map .int)) ((QBu figs 1 dr).map .int):=by
 rw [QBu,Q3,Q3,QKV]
 exact QHP R (c:=fst (cp (fnBody 43) 7).ifs) rfl (bs:=fun k=>[(nm "number",.int k),(nm "choice",.int (QA0 figs k))]) (fun k=>[.d (.int (k.fmod 3)),.b (decide (k.fmod 3≠1))]) (fun _=>[]) dr fun k _=>⟨by kernel_rfl,QAZ (ai (QDR k 3 (by decide))<|ai (ned (k.fmod 3) 1) (@rfl Bool (decide (k.fmod 3≠1)))) (by kernel_rfl),QAZ (@rfl D (.int (QA0 figs k))) (by kernel_rfl)⟩
theorem QSi(R:Ev G N F C):CLt G N (cp (fnBody 43) 8).t (cp (fnBody 43) 8).ifs (cp (fnBody 43) 8).e (cp (fnBody 43) 8).sc (E1 []).ρ (QF5 (dr.map .int) ((dr.map (QA0 figs)).map .int)) ((QBu figs 0 dr).map .int):=by
 rw [QBu,Q3,Q3,QKV]
 exact QHP R (c:=fst (cp (fnBody 43) 8).ifs) rfl (bs:=fun k=>[(nm "number",.int k),(nm "choice",.int (QA0 figs k))]) (fun k=>[.d (.int (k.fmod 3)),.b (decide (k.fmod 3≠0))]) (fun _=>[]) dr fun k _=>⟨by kernel_rfl,QAZ (ai (QDR k 3 (by decide))<|ai (ned (k.fmod 3) 0) (@rfl Bool (decide (k.fmod 3≠0)))) (by kernel_rfl),QAZ (@rfl D (.int (QA0 figs k))) (by kernel_rfl)⟩
end
section
variable {prog:QV}{w:QX}{G:Gd prog w}{N:Nat}
theorem QTD{sL sH:QBR}(R:Ev G N (BT teA tdA sL sH) (CT teA tdA)){os dr:List Int}{coat:Int}(h1:1≤os.length)(h2:os.length≤5)(h3:∀i∈os,0≤i∧i<256)(hcc:coat=0∨coat=1)(hdl:dr.length≤16)
  (hL:sL [.list ((sortI (QBu (QAX os) 1 dr)).map .int),.list ((sortI (QBu (QAX os) 0 dr)).map .int),.dict (dictFrom ((dr.map (QA0 (QAX os))).map fun c=>(c,.bytes (QAz (QAX os) c))))] [] (.bool true))
  (hH:sH [.list (os.map .int),.int coat,.list ((dr.map (QA0 (QAX os))).map .int),.list ((dr.map (QA0 (QAX os))).map fun c=> .str (QA4 (QAX os) coat c)),.list ((dr.map (QA0 (QAX os))).map fun c=> .bytes (QAz (QAX os) c))] [] (.bool true)):
  QAu G N (QAa 43) (fnBody 43) [(nm "octets",.list (os.map .int)),(nm "coat",.int coat),(nm "drawn",.list (dr.map .int))] (.bool true):=by
 have hLk:LOk (QAX os).length:=by rw [QBc];exact QCy h1 h2
 have hw:asc (encOf teA coat (toB os))=QBF (QAX os) coat:=by
  rcases hcc with rfl|rfl
  ·exact QKd h1 h2 h3
  ·exact QKe h1 h2 h3
 have hfo:∀f∈QAX os,0≤f∧f<64:=QBX
 have hW:=QPq hw hcc hLk hfo h2
 have e0:QJ6 [.list (os.map .int)] [] (.list ((QAX os).map .int)):=⟨os,rfl,rfl,⟨h1,h2⟩,h3,rfl⟩
 have e1:=QGC os h3 (Qd h2 (by decide))
 revert hL hH hLk hfo hW e0
 generalize QAX os=figs
 intro hL hH hLk hfo hW e0
 refine oA (QDv hLk) fun l7 l2=>?_
 have hF0:figs≠[]:=fun h=>by rw [h] at l2;exact absurd l2 (by decide)
 have l20:=Qd l7 (by decide:7≤20)
 have e2:QMC [.list (figs.map .int),.int coat] [] (.str (QBF figs coat)):=⟨figs,coat,rfl,rfl,Qd l7 (by decide),hfo,rfl⟩
 have hcs:∀c∈dr.map (QA0 figs),0≤c∧c<2^lettersOf figs:=fun c hc=>by (refine oEA (Qw.mp hc) fun k _ ζ2=>?_;subst ζ2);exact QH4
 have hcl:(dr.map (QA0 figs)).length≤16:=by rw [Qs];exact hdl
 have hs:∀w,(QBu figs w dr).length<64:=fun w=>by rw [QBu,Qs];exact Qj (List.length_filter_le _ _) (Qj hdl (by decide))
 have lF:(figs.map D.int).length≤1000:=QCk (Qd l7 (by decide))
 have lD:(dr.map D.int).length≤1000:=QCk (Qd hdl (by decide))
 have eq:(dr.map D.int).length=((dr.map (QA0 figs)).map D.int).length:=by rw [Qs,Qs,Qs]
 have e6:=QTd R (dr:=dr) (figs:=figs)
 have e7:=QSi R (dr:=dr) (figs:=figs)
 have e8:=QTE R figs dr l20
 revert hL hH hcs hcl e6 e7 e8 eq
 generalize dr.map (QA0 figs)=cs
 intro hL hH hcs hcl eq e6 e7 e8
 have ll:∀(g:Int→D),(cs.map g).length≤1000:=fun g=>by rw [Qs];exact Qd hcl (by decide)
 have e9:=QMQ (Qs (f:=D.int) (as:=figs.filter fun f=>decide (f<52))) (Qd (Qd QHF l7) (by decide))
 have dz:=congrArg (Option.map fun l=>D.dict (dictFrom l)) (QLQ (f:=fun c=> .bytes (QAz figs c)) cs)
 exact QAo R [.d (.list (figs.map .int)),.d (.bytes (toB os)),.d (.str (QBF figs coat)),.d (.str (QBF figs coat)),.b false,.s (E1 []),.l ((figs.filter fun f=>decide (f<52)).map .int),.d (.int (lettersOf figs)),.s (E1 [(nm "letters",.int (lettersOf figs))]),.l (cs.map .int),
   .s (E1 [(nm "figures",.list (figs.map .int))]),.l (cs.map (spD figs)),.s (E1 [(nm "coat",.int coat)]),.l (cs.map fun c=> .str (QA4 figs coat c)),.s (E1 [(nm "coat",.int coat)]),.l (cs.map fun c=> .bytes (QAz figs c)),
   .s (E1 []),.l (cs.map fun c=> .bytes (QAz figs c)),.b false,.s (E1 []),.l [],.b false,.s (B8 os dr coat cs figs),.o (.next (B8 os dr coat cs figs)),.s (E1 []),.l ((QBu figs 1 dr).map .int),.d (.list ((sortI (QBu figs 1 dr)).map .int)),
   .s (E1 []),.l ((QBu figs 0 dr).map .int),.d (.list ((sortI (QBu figs 0 dr)).map .int)),.d (.dict (dictFrom (cs.map fun c=>(c,.bytes (QAz figs c))))),.d (.bool true),.d (.bool true)]
  (QAZ (ai e0<|ai e1<|ai hW<|ai e2<|ai (QTs (QBF figs coat))<|ai lF<|ai (oke (E1 []))<|ai (QTJ R figs)<|ai e9<|ai lD<|ai (oke (E1 [(nm "letters",.int (lettersOf figs))]))<|ai e8<|
   ai (ll (.int))<|ai (oke (E1 [(nm "figures",.list (figs.map .int))]))<|ai (QS7 R (cs:=cs) hF0 l20)<|ai (ll (spD figs))<|ai (oke (E1 [(nm "coat",.int coat)]))<|ai (QSz R (cs:=cs) (coat:=coat) hfo l20)<|
   ai (ll (fun c=> .str (QA4 figs coat c)))<|ai (oke (E1 [(nm "coat",.int coat)]))<|ai (QSo R (cs:=cs) hfo hLk hcc)<|ai (ll (spD figs))<|ai (oke (E1 []))<|ai (QSm R (cs:=cs) hfo hLk)<|ai (QNS (figs:=figs) (cs:=cs))<|
   ai (ll (fun c=> .bytes (QAz figs c)))<|ai (oke (E1 []))<|ai (QTK R (cs:=cs) (figs:=figs))<|ai (rfl (a:=some false))<|ai (ll (.int))<|ai (okr (B8 os dr coat cs figs))<|ai (QNb R (os:=os) (dr:=dr) (coat:=coat) hLk hfo hcs hcl)<|
   ai (ai lD eq)<|ai (oke (E1 []))<|ai e6<|ai (QJy (hs 1))<|ai (ai lD eq)<|ai (oke (E1 []))<|ai e7<|ai (QJy (hs 0))<|ai (ai (ll (.int)) dz)<|ai hL<|ai hH (@rfl D (.bool true))) (by kernel_rfl))
end
noncomputable def QBy(pre other:List Int):List Int→List Int
 |[]=>[]
 |c::r=>if c∉other∧(other=[]∨QBS other<c∨c∉pre) then c::QBy (pre++[c]) other r else QBy (pre++[c]) other r
theorem QJv(other:List Int):∀(r pre:List Int) (one:List Int),one=pre++r→((QCD (pre.length:Nat) r).filter (QHN one other)).map (·.2)=QBy pre other r
 |[],pre,one,h=>rfl
 |c::r,pre,one,h=>by
  have e:((pre.length:Nat):Int)+1=((pre++[c]).length:Nat):=by simp
  have ht:one.take pre.length=pre:=by rw [h,List.take_left]
  unfold QCD QBy
  rw [List.filter_cons,e]
  have ih:=QJv other r (pre++[c]) one (by rw [h,Q5];rfl)
  have hp:QHN one other (((pre.length:Nat):Int),c)=decide (c∉other∧(other=[]∨QBS other<c∨c∉pre)):=by
   unfold QHN;rw [show (((pre.length:Nat):Int)).toNat=pre.length from QAD _,ht]
  rw [hp]
  by_cases q:c∉other∧(other=[]∨QBS other<c∨c∉pre)
  ·rw [if_pos (decide_eq_true q),if_pos q,Q0,ih]
  ·rw [if_neg (by simpa using q),if_neg q,ih]
theorem QKj(one other:List Int):QAx one other=QBy [] other one:=QJv other one [] one rfl
theorem QGd{o:List Int}:∀{r pre pre':List Int},(∀c∈r,c∈pre↔c∈pre')→QBy pre o r=QBy pre' o r
 |[],_,_,_=>rfl
 |c::r,pre,pre',h=>by
  unfold QBy
  have hc:=h c (by simp)
  have ih:=QGd (o:=o) (r:=r) (pre:=pre++[c]) (pre':=pre'++[c]) (fun d hd=>by simp [h d (by simp [hd])])
  rw [ih]
  by_cases q:c∉o∧(o=[]∨QBS o<c∨c∉pre)
  ·rw [if_pos q,if_pos (by rw [←hc];exact q)]
  ·rw [if_neg q,if_neg (by rw [←hc];exact q)]
theorem QHT{o o':List Int}:∀{r pre:List Int},(∀c∈r,(c∈o↔c∈o')∧(c∉o→((o=[]∨QBS o<c)↔(o'=[]∨QBS o'<c))))→QBy pre o r=QBy pre o' r
 |[],_,_=>rfl
 |c::r,pre,h=>by
  unfold QBy
  refine oA (h c (by simp)) fun h1 h2=>?_
  have ih:=QHT (o:=o) (o':=o') (r:=r) (pre:=pre++[c]) fun d hd=>h d (by simp [hd])
  rw [ih]
  have:(c∉o∧(o=[]∨QBS o<c∨c∉pre))↔(c∉o'∧(o'=[]∨QBS o'<c∨c∉pre)):=by
   constructor
   ·refine rA fun a b=>?_
    refine ⟨fun q=>a (h1.mpr q),?_⟩
    have:=h2 a
    rcases b with b|b|b
    ·rcases this.mp (.inl b) with q|q<;>simp [q]
    ·rcases this.mp (.inr b) with q|q<;>simp [q]
    ·exact .inr (.inr b)
   ·refine rA fun a b=>?_
    have a':c∉o:=fun q=>a (h1.mp q)
    refine ⟨a',?_⟩
    have:=h2 a'
    rcases b with b|b|b
    ·rcases this.mpr (.inl b) with q|q<;>simp [q]
    ·rcases this.mpr (.inr b) with q|q<;>simp [q]
    ·exact .inr (.inr b)
  by_cases q:c∉o∧(o=[]∨QBS o<c∨c∉pre)
  ·rw [if_pos q,if_pos (this.mp q)]
  ·rw [if_neg q,if_neg (fun x=>q (this.mpr x))]
noncomputable def skip(x:Int):List Int→List Int
 |[]=>[]
 |y::r=>if y=x then skip x r else y::r
noncomputable def Srt(l:List Int):Prop:=l.Pairwise (· ≤ ·)
theorem QB2{x c:Int}:∀{l:List Int},Srt (x::l)→(c∈skip x l↔c∈l∧x<c)
 |[],_=>by simp [skip]
 |y::r,h=>by
  have hxy:x≤y:=(Q4.mp h).1 y (by simp)
  have hr:Srt (y::r):=(Q4.mp h).2
  unfold skip
  by_cases q:y=x
  ·rw [if_pos q]
   subst q
   rw [QB2 hr]
   constructor
   ·refine rA fun a b=>?_;exact ⟨by simp [a],b⟩
   ·refine rA fun a b=>?_
    rcases Qx.mp a with e|a
    ·omega
    ·exact ⟨a,b⟩
  ·rw [if_neg q]
   constructor
   ·intro a
    refine ⟨a,?_⟩
    rcases Qx.mp a with e|a
    ·omega
    ·have:=(Q4.mp hr).1 c a;omega
   ·exact fun a=>a.1
theorem QDO{x:Int}:∀{l:List Int},Srt l→Srt (skip x l)
 |[],h=>h
 |y::r,h=>by
  unfold skip
  by_cases q:y=x
  ·rw [if_pos q];exact QDO (Q4.mp h).2
  ·rw [if_neg q];exact h
theorem QEF{x:Int}:∀{l:List Int},(skip x l).length≤l.length
 |[]=>Qf _
 |y::r=>by
  unfold skip
  by_cases q:y=x
  ·rw [if_pos q,Qz];have:=QEF (x:=x) (l:=r);exact zn1 [_,_] 1 (.v 0) (.a (.v 1) (.n 1)) 1 (.v 0) (.v 1) rfl this
  ·rw [if_neg q];exact Qf _
theorem QEy{l:List Int}(h:l≠[]):QBS l∈l:=by
 unfold QBS;rw [List.getLastD_eq_getLast?,List.getLast?_eq_some_getLast h];exact List.getLast_mem h
theorem QD2{l:List Int}(h:Srt l){c:Int}(hc:c∈l):c≤QBS l:=by
 have h0:l≠[]:=fun e=>by rw [e] at hc;cases hc
 obtain ⟨i,hi,e⟩:=List.getElem_of_mem hc
 unfold QBS
 rw [List.getLastD_eq_getLast?,List.getLast?_eq_getElem?]
 have hl:l.length-1<l.length:=by omega
 rw [List.getElem?_eq_getElem hl]
 show c≤l[l.length-1]
 rw [←e]
 by_cases q:i=l.length-1
 ·subst q;exact Int.le_refl _
 ·exact List.pairwise_iff_getElem.mp h i (l.length-1) hi hl (by omega)
theorem QIU{x:Int}{l:List Int}(hs:Srt (x::l))(h:skip x l≠[]):QBS (skip x l)=QBS (x::l):=by
 have h1:=(QB2 hs).mp (QEy h)
 have h2:=QD2 hs (c:=QBS (skip x l)) (by simp [h1.1])
 have h3:=QEy (l:=x::l) (by simp)
 have h4:QBS (x::l)∈skip x l:=by
  refine (QB2 hs).mpr ⟨?_,by exact zi2 [_,_,_] 1 (.a (.v 0) (.n 1)) (.v 1) 1 (.a (.v 0) (.n 1)) (.v 2) 1 (.v 2) (.v 1) rfl h1.2 h2⟩
  rcases Qx.mp h3 with e|e
  ·omega
  ·exact e
 have h5:=QD2 (QDO (x:=x) (Q4.mp hs).2) h4
 exact QAH (zi1 [_,_] 1 (.v 0) (.v 1) 1 (.v 0) (.v 1) rfl h2) (zi1 [_,_] 1 (.v 0) (.v 1) 1 (.v 0) (.v 1) rfl h5)
theorem QLv{o:List Int}{x:Int}(hb:o≠[]∧x≤QBS o):∀{l pre:List Int},Srt (x::l)→x∈pre→QBy pre o l=QBy pre o (skip x l)
 |[],_,_,_=>rfl
 |y::r,pre,hs,hp=>by
  unfold skip
  by_cases q:y=x
  ·subst q
   rw [if_pos rfl]
   have hr:Srt (y::r):=(Q4.mp hs).2
   conv=>lhs;unfold QBy
   rw [if_neg,QGd (pre':=pre),QLv hb hr hp]
   ·intro c hc;simp only [Q8,Qy]
    constructor
    ·rintro (h|h)
     ·exact h
     ·rw [h];exact hp
    ·exact .inl
   ·rintro ⟨a,b|b|b⟩
    ·exact hb.1 b
    ·exact QJz (zi2 [_,_] 1 (.n 1) (.n 0) 1 (.v 0) (.v 1) 1 (.a (.v 1) (.n 1)) (.v 0) rfl hb.2 b)
    ·exact b hp
  ·rw [if_neg q]
theorem QHp{o:List Int}{x:Int}(hb:x∈o):∀{l pre:List Int},Srt (x::l)→x∈pre→QBy pre o l=QBy pre o (skip x l)
 |[],_,_,_=>rfl
 |y::r,pre,hs,hp=>by
  unfold skip
  by_cases q:y=x
  ·subst q
   rw [if_pos rfl]
   have hr:Srt (y::r):=(Q4.mp hs).2
   conv=>lhs;unfold QBy
   rw [if_neg,QGd (pre':=pre),QHp hb hr hp]
   ·intro c hc;simp only [Q8,Qy]
    constructor
    ·rintro (h|h)
     ·exact h
     ·rw [h];exact hp
    ·exact .inl
   ·exact fun a=>a.1 hb
  ·rw [if_neg q]
theorem QLo:∀{r pre:List Int},QBy pre [] r=r
 |[],_=>rfl
 |c::r,pre=>by unfold QBy;rw [if_pos ⟨by simp,.inl rfl⟩,QLo]
theorem QQr{x y:Int}{xs ys:List Int}(hx:Srt (x::xs))(hy:Srt (y::ys))(h:x<y):QBy [] (y::ys) (x::xs)=x::QBy [] (y::ys) (skip x xs):=by
 have hyl:=QD2 hy (c:=y) (by simp)
 have hn:x∉y::ys:=fun hm=>by
  rcases Qx.mp hm with e|e
  ·exact QJz (zi2 [_,_] 1 (.n 1) (.n 0) 1 (.a (.v 0) (.n 1)) (.v 1) 1 (.v 1) (.v 0) rfl h (Int.le_of_eq e.symm))
  ·have:=(Q4.mp hy).1 x e;exact QJz (zi2 [_,_] 1 (.n 1) (.n 0) 1 (.a (.v 0) (.n 1)) (.v 1) 1 (.v 1) (.v 0) rfl h this)
 conv=>lhs;unfold QBy
 rw [if_pos ⟨hn,.inr (.inr (by simp))⟩,List.nil_append,QLv ⟨by simp,by exact zi2 [_,_,_] 1 (.v 0) (.v 1) 1 (.a (.v 0) (.n 1)) (.v 2) 1 (.v 2) (.v 1) rfl h hyl⟩ hx (by simp)]
 congr 1
 refine QGd fun c hc=>?_
 have:=((QB2 hx).mp hc).2
 simp;exact Int.ne_of_gt (zi1 [_,_] 1 (.a (.v 0) (.n 1)) (.v 1) 1 (.a (.v 0) (.n 1)) (.v 1) rfl this)
theorem QQz{x y:Int}{xs ys:List Int}(hx:Srt (x::xs))(hy:Srt (y::ys))(h:x<y):QBy [] (x::xs) (y::ys)=QBy [] (skip x xs) (y::ys):=by
 refine QHT fun c hc=>?_
 have hxc:x<c:=by
  rcases Qx.mp hc with e|e
  ·exact zi2 [_,_,_] 1 (.a (.v 0) (.n 1)) (.v 1) 1 (.a (.v 0) (.n 1)) (.v 2) 1 (.v 2) (.v 1) rfl h (Int.le_of_eq e.symm)
  ·have:=(Q4.mp hy).1 c e;exact zi2 [_,_,_] 1 (.a (.v 0) (.n 1)) (.v 1) 1 (.a (.v 0) (.n 1)) (.v 2) 1 (.v 2) (.v 1) rfl h this
 refine ⟨?_,fun _=>?_⟩
 ·rw [QB2 hx];constructor
  ·intro hm
   rcases Qx.mp hm with e|e
   ·omega
   ·exact ⟨e,hxc⟩
  ·exact fun hm=>by simp [hm.1]
 ·by_cases q:skip x xs=[]
  ·have:QBS (x::xs)=x:=by
    have h1:=QEy (l:=x::xs) (by simp)
    have h2:=QD2 hx (c:=x) (by simp)
    rcases Qx.mp h1 with e|e
    ·exact e
    ·by_cases q2:x<QBS (x::xs)
     ·have:=(QB2 hx).mpr ⟨e,q2⟩;rw [q] at this;cases this
     ·exact QAH (zi1 [_,_] 1 (.v 0) (.v 1) 1 (.v 0) (.v 1) rfl (QAN.mp q2)) (zi1 [_,_] 1 (.v 0) (.v 1) 1 (.v 0) (.v 1) rfl h2)
   simp [q,this,hxc]
  ·rw [QIU hx q];simp [q]
theorem QRC{x:Int}{xs ys:List Int}(hx:Srt (x::xs))(hy:Srt (x::ys)):QBy [] (x::ys) (x::xs)=QBy [] (skip x ys) (skip x xs):=by
 conv=>lhs;unfold QBy
 rw [if_neg (by simp),List.nil_append,QHp (by simp) hx (by simp)]
 rw [QGd (pre':=[]) (fun c hc=>by have:=((QB2 hx).mp hc).2;simp;exact Int.ne_of_gt (zi1 [_,_] 1 (.a (.v 0) (.n 1)) (.v 1) 1 (.a (.v 0) (.n 1)) (.v 1) rfl this))]
 refine QHT fun c hc=>?_
 refine oA ((QB2 hx).mp hc) fun hc1 hxc=>?_
 refine ⟨?_,fun _=>?_⟩
 ·rw [QB2 hy];constructor
  ·intro hm
   rcases Qx.mp hm with e|e
   ·omega
   ·exact ⟨e,hxc⟩
  ·exact fun hm=>by simp [hm.1]
 ·by_cases q:skip x ys=[]
  ·have:QBS (x::ys)=x:=by
    have h1:=QEy (l:=x::ys) (by simp)
    have h2:=QD2 hy (c:=x) (by simp)
    rcases Qx.mp h1 with e|e
    ·exact e
    ·by_cases q2:x<QBS (x::ys)
     ·have:=(QB2 hy).mpr ⟨e,q2⟩;rw [q] at this;cases this
     ·exact QAH (zi1 [_,_] 1 (.v 0) (.v 1) 1 (.v 0) (.v 1) rfl (QAN.mp q2)) (zi1 [_,_] 1 (.v 0) (.v 1) 1 (.v 0) (.v 1) rfl h2)
   simp [q,this,hxc]
  ·rw [QIU hy q];simp [q]
noncomputable def QAd(figs:List Int)(c:Int):D:= .bytes (QAz figs c)
theorem QCs{k i:Int}{d:D}{r:List (Int×D)}:((k,d)::r).find? (fun p=>decide (p.1=i))=if k=i then some (k,d) else r.find? (fun p=>decide (p.1=i)):=by
 rw [List.find?_cons]
 by_cases h:k=i
 ·rw [if_pos h,show decide ((k,d).1=i)=true from decide_eq_true h]
 ·rw [if_neg h,show decide ((k,d).1=i)=false from decide_eq_false h]
theorem QOR(k:Int)(d:D)(i:Int)(m:List (Int×D)):(dictPut k d m).find? (fun p=>decide (p.1=i))=if k=i then some (k,d) else m.find? (fun p=>decide (p.1=i)):=by
 induction m with
 |nil=>exact QCs
 |cons p r ih=>
  obtain ⟨k',d'⟩:=p
  unfold dictPut
  by_cases h:k'=k
  ·subst h
   rw [if_pos rfl,QCs,QCs]
   by_cases q:k'=i
   ·rw [if_pos q,if_pos q]
   ·rw [if_neg q,if_neg q,if_neg q]
  ·rw [if_neg h,QCs,QCs,ih]
   by_cases q:k'=i
   ·rw [if_pos q,if_pos q,if_neg fun e=>h (q.trans e.symm)]
   ·rw [if_neg q,if_neg q]
theorem QMh(f:Int→D)(i:Int)(l:List Int):∀m:List (Int×D),((l.map fun c=>(c,f c)).foldl (fun m p=>dictPut p.1 p.2 m) m).find? (fun p=>decide (p.1=i))=if i∈l then some (i,f i) else m.find? (fun p=>decide (p.1=i)):=by
 induction l with
 |nil=>exact fun m=>(if_neg fun h=>nomatch h).symm
 |cons c r ih=>
  intro m
  rw [Q0,List.foldl_cons,ih,QOR]
  by_cases h:i∈r
  ·rw [if_pos h,if_pos (.tail _ h)]
  ·rw [if_neg h]
   by_cases q:c=i
   ·subst q;rw [if_pos rfl,if_pos (.head _)]
   ·rw [if_neg q,if_neg fun e=>(Qx.mp e).elim (fun e=>q e.symm) h]
theorem QJa(f:Int→D){l:List Int}{i:Int}(h:i∈l):QBb (.dict (dictFrom (l.map fun c=>(c,f c)))) (.int i)=some (f i):=by
 show ((dictFrom (l.map fun c=>(c,f c))).find? fun p=>decide (p.1=i)).map (·.2)=_
 unfold dictFrom
 rw [QMh,if_pos h];rfl
noncomputable def QCt(one:List Int):List Int:=((QCD 0 one).filter fun p=>decide (p.2∉one.take p.1.toNat)).map (·.2)
noncomputable def secondsOf(one two:List Int):List Int:=((QCD 0 two).filter fun p=>decide (p.2∉one∧p.2∉two.take p.1.toNat)).map (·.2)
noncomputable def QDB(figs:List Int)(e:Int×Int×Int):D:= .tup [.int e.1,.int e.2.1,QAd figs e.2.2]
noncomputable def QNz(one two:List Int)(c:Int):Int×Int×Int:=(((one.count c:Nat):Int),((two.count c:Nat):Int),c)
noncomputable def QLd(two:List Int)(c:Int):Int×Int×Int:=(0,((two.count c:Nat):Int),c)
noncomputable def QFr(one two:List Int):List (Int×Int×Int):=(QCt one).map (QNz one two)++(secondsOf one two).map (QLd two)
noncomputable def QE6(one two:List Int):List (Int×Int×Int):=(QFr one two).filter fun e=>decide (e.1≠e.2.1)
noncomputable abbrev QDW(figs:List Int)(e:Int×Int×Int):D:= .inst 166 [.int e.1,.int e.2.1,QAd figs e.2.2]
noncomputable abbrev QIQ(figs one two:List Int):D:= .tup [.list ((QAx one two).map (QAd figs)),.list ((QAx two one).map (QAd figs))]
noncomputable def QRV(figs one two:List Int):QBR:=fun ds ks d=>ds=[.list (one.map (QAd figs)),.list (two.map (QAd figs))]∧ks=[]∧d=QIQ figs one two
noncomputable def sCd(figs one two:List Int):QBR:=fun ds ks d=>ds=[.list (one.map (QAd figs)),.list (two.map (QAd figs))]∧ks=[]∧d= .list ((QE6 one two).map (QDW figs))
noncomputable def QKq:QBR:=fun ds ks d=>∃x y:List Int,ds=[.list (x.map .int),.list (y.map .int)]∧ks=[]∧x.length≤100∧y.length≤100∧d= .list ((QAx x y).map .int)
noncomputable def LT(figs one two:List Int):QC9:=tabOf [("_law_lacks",QKq),("sorted_list_difference",QRV figs one two),("_count_diff_all_purpose",sCd figs one two)]
theorem QDP(l:List Int):∀k:Int,(QCD k l).length=l.length:=by
 induction l with
 |nil=>exact fun _=>rfl
 |cons _ r ih=>exact fun k=>congrArg (· +1) (ih (k+1))
theorem QST{p:Int×Int→Bool}{l:List Int}{c:Int}(h:c∈((QCD 0 l).filter p).map (·.2)):c∈l:=by
 refine oEA (Qw.mp h) fun p hp ζ2=>?_
 subst ζ2
 exact (QC5 (List.mem_filter.mp hp).1).2.2
theorem QEw{p:Int×Int→Bool}{l:List Int}:(((QCD 0 l).filter p).map (·.2)).length≤l.length:=by
 rw [Qs]
 exact Qd (List.length_filter_le ..) (Qe (QDP l 0))
theorem QJu{one other:List Int}{c:Int}(h:c∈QAx one other):c∈one:=QST h
theorem QMc{one other:List Int}:(QAx one other).length≤one.length:=QEw
theorem QH1{one two:List Int}:(QFr one two).length≤one.length+two.length:=by
 unfold QFr
 rw [Qu,Qs,Qs]
 exact Nat.add_le_add QEw QEw
theorem QPW{one two:List Int}:(QE6 one two).length≤one.length+two.length:=Qd (List.length_filter_le ..) QH1
theorem QKX(n:Nat)(figs:List Int)(c:Int):dEq (n+1) (QAd figs c) (QAd figs c)=some true:=congrArg some (QE3 rfl)
theorem QHw{figs:List Int}{k:Nat}{l:List Int}:dEq (k+2) (.list (l.map (QAd figs))) (.list (l.map (QAd figs)))=some true:=
 (if_pos rfl).trans (QCn fun x hx=>by (refine oEA (Qw.mp hx) fun c _ ζ2=>?_;subst ζ2);exact QKX k figs c)
theorem QGX{n:Nat}{ds:List D}(h:∀x∈ds,dEq n x x=some true):dEq (n+1) (.tup ds) (.tup ds)=some true:=(if_pos rfl).trans (QCn h)
theorem QLF{figs a b:List Int}:QA8 .NotEq (.tup [.list (a.map (QAd figs)),.list (b.map (QAd figs))]) (.tup [.list (a.map (QAd figs)),.list (b.map (QAd figs))])=some false:=
 congrArg (Option.map fun r=> !r) (QGX (n:=7) fun x hx=>by
  cases hx with
  |head=>exact QHw
  |tail _ hx=>rw [Qy.mp hx];exact QHw)
theorem QJd(n:Nat)(i:Int):dEq (n+1) (.int i) (.int i)=some true:=congrArg some (QE3 rfl)
theorem QQd{figs:List Int}{l:List (Int×Int×Int)}:QA8 .Eq (.list (l.map (QDB figs))) (.list (l.map (QDB figs)))=some true:=
 (if_pos rfl).trans (QCn fun x hx=>by
  refine oEA (Qw.mp hx) fun e _ ζ2=>?_
  subst ζ2
  exact QGX (n:=6) fun x hx=>by
   cases hx with
   |head=>exact QJd 5 _
   |tail _ hx=>cases hx with
    |head=>exact QJd 5 _
    |tail _ hx=>rw [Qy.mp hx];exact QKX 5 _ _)
theorem QJS(l:List Int)(i:Int):QDG (nm "count") (.list (l.map .int)) [.int i]=some (.int ((l.count i:Nat):Int)):=by
 unfold QDG
 rw [if_neg (by decide),if_neg (by decide),if_neg (by decide),if_neg (by decide),if_pos (by decide)]
 show (QB3 (l.map .int)).map (fun l=>D.int (l.count i:Nat))=_
 rw [QDV];rfl
theorem QRL{figs:List Int}(l:List (Int×Int×Int)):QDF 3 (l.map (QDW figs))=true:=by
 induction l with
 |nil=>rfl
 |cons e r ih=>exact ih
theorem QTm(a:Int)(l:List Int):QA8 .NotIn (.int a) (.list (l.map .int))=some (decide (a∉l)):=by
 by_cases h:a∈l
 ·rw [QPR h,decide_eq_false fun n=>n h]
 ·rw [QJH h,decide_eq_true h]
section
variable {prog:QV}{w:QX}{G:Gd prog w}{N:Nat}{te td:Array UInt8}{F:QC9}{C:QCl}{figs one two cs:List Int}
noncomputable abbrev rwD(figs cs:List Int):D:= .dict (dictFrom (cs.map fun c=>(c,QAd figs c)))
noncomputable def L1(l:List (Str×D)):PS:=⟨⟨QAa 41,l⟩,[]⟩
theorem QGD(R:Ev G N F C)(k:Nat){l:List Int}(h:∀c∈l,c∈cs)(hb:∀c:Int,QAe (cp (fnBody 41) k).t (.int c)=some [(nm "choice",.int c)])(hi:(cp (fnBody 41) k).ifs=[])
  (he:∀c:Int,q G N F C 100 (.ev (cp (fnBody 41) k).e (QBL (L1 [(nm "rows",rwD figs cs)]).ρ (cp (fnBody 41) k).sc [(nm "choice",.int c)]) [.d (QAd figs c)] fun d _=>d=QAd figs c)=(QBb (rwD figs cs) (.int c)=some (QAd figs c)∧QAd figs c=QAd figs c)):
  CLt G N (cp (fnBody 41) k).t (cp (fnBody 41) k).ifs (cp (fnBody 41) k).e (cp (fnBody 41) k).sc (L1 [(nm "rows",rwD figs cs)]).ρ (l.map .int) (l.map (QAd figs)):=by
 rw [hi]
 exact QCV R (bs:=fun c=>[(nm "choice",.int c)]) (fun c=>[.d (QAd figs c)]) l fun c hc=>⟨hb c,QAZ ⟨QJa (QAd figs) (h c hc),rfl⟩ (he c)⟩
noncomputable abbrev L3(figs cs one two:List Int):PS:=L1 [(nm "one",.list (one.map .int)),(nm "other",.list (two.map .int)),(nm "rows",rwD figs cs)]
theorem QSk(R:Ev G N F C)(h1:one.length≤16)(i1:∀c∈one,c∈cs):CLt G N (cp (fnBody 41) 4).t (cp (fnBody 41) 4).ifs (cp (fnBody 41) 4).e (cp (fnBody 41) 4).sc (L3 figs cs one two).ρ (QCR 0 (one.map .int)) (((QCt one).map (QNz one two)).map (QDB figs)):=by
 rw [QCp,QCt,Q3,Q3]
 exact QHP R (c:=fst (cp (fnBody 41) 4).ifs) rfl (bs:=fun p=>[(nm "at",.int p.1),(nm "choice",.int p.2)]) (fun p=>[.d (.list ((one.take p.1.toNat).map .int)),.b (decide (p.2∉one.take p.1.toNat))]) (fun p=>[.d (.int (one.count p.2:Nat)),.d (.int (two.count p.2:Nat)),.d (QAd figs p.2)]) (QCD 0 one) fun p hp=>
  ⟨by kernel_rfl,QAZ (ai (QLj (l:=one) (Qd h1 (by decide)) (QC5 hp).1)<|ai (QTm p.2 (one.take p.1.toNat)) (@rfl Bool (decide (p.2∉one.take p.1.toNat)))) (by kernel_rfl),
   QAZ (ai (QJS one p.2)<|ai (QJS two p.2)<|ai (QJa (QAd figs) (i1 _ (QC5 hp).2.2)) (@rfl D (QDB figs (QNz one two p.2)))) (by kernel_rfl)⟩
theorem QSb(R:Ev G N F C)(h2:two.length≤16)(i2:∀c∈two,c∈cs):CLt G N (cp (fnBody 41) 5).t (cp (fnBody 41) 5).ifs (cp (fnBody 41) 5).e (cp (fnBody 41) 5).sc (L3 figs cs one two).ρ (QCR 0 (two.map .int)) (((secondsOf one two).map (QLd two)).map (QDB figs)):=by
 rw [QCp,secondsOf,Q3,Q3]
 refine QLL R (bs:=fun p=>[(nm "at",.int p.1),(nm "choice",.int p.2)]) (QCD 0 two) fun p hp=>⟨by kernel_rfl,?_,fun _=>⟨[.d (.int (two.count p.2:Nat)),.d (QAd figs p.2)],QAZ (ai (QJS two p.2)<|ai (QJa (QAd figs) (i2 _ (QC5 hp).2.2)) (@rfl D (QDB figs (QLd two p.2)))) (by kernel_rfl)⟩⟩
 obtain ⟨i,c⟩:=p
 by_cases c1:c∈one
 ·rw [decide_eq_false fun h=>h.1 c1];exact ⟨[.b false],QAZ (ai (QPR c1) (@rfl Bool false)) (by kernel_rfl)⟩
 ·have e:=QLj (l:=two) (Qd h2 (by decide)) (QC5 hp).1
  by_cases c2:c∈two.take i.toNat
  ·rw [decide_eq_false fun h=>h.2 c2];exact ⟨[.b true,.d (.list ((two.take i.toNat).map .int)),.b false],QAZ (ai (QJH c1)<|ai e<|ai (QPR c2) (@rfl Bool false)) (by kernel_rfl)⟩
  ·rw [decide_eq_true ⟨c1,c2⟩];exact ⟨[.b true,.d (.list ((two.take i.toNat).map .int)),.b true],QAZ (ai (QJH c1)<|ai e<|ai (QJH c2) (@rfl Bool true)) (by kernel_rfl)⟩
theorem QS6(R:Ev G N F C)(l:List (Int×Int×Int)):CLt G N (cp (fnBody 41) 6).t (cp (fnBody 41) 6).ifs (cp (fnBody 41) 6).e (cp (fnBody 41) 6).sc (L1 []).ρ (l.map (QDW figs)) (l.map (QDB figs)):=
 QCV R (bs:=fun e=>[(nm "here",.int e.1),(nm "there",.int e.2.1),(nm "row",QAd figs e.2.2)]) (fun _=>[]) l fun e _=>⟨by kernel_rfl,QAZ (@rfl D (QDB figs e)) (by kernel_rfl)⟩
theorem QTQ(R:Ev G N F C):CLt G N (cp (fnBody 41) 7).t (cp (fnBody 41) 7).ifs (cp (fnBody 41) 7).e (cp (fnBody 41) 7).sc (L1 []).ρ ((QFr one two).map (QDB figs)) ((QE6 one two).map (QDB figs)):=
 QHP R (c:=fst (cp (fnBody 41) 7).ifs) rfl (bs:=fun e=>[(nm "entry",QDB figs e)]) (fun e=>[.d (.int e.1),.d (.int e.2.1),.b (decide (e.1≠e.2.1))]) (fun _=>[]) (QFr one two) fun e _=>
  ⟨rfl,QAZ (ai (show QBb (QDB figs e) (.int 0)=some (.int e.1) from rfl)<|ai (show QBb (QDB figs e) (.int 1)=some (.int e.2.1) from rfl)<|ai (ned e.1 e.2.1) (@rfl Bool (decide (e.1≠e.2.1)))) (by kernel_rfl),QAZ (@rfl D (QDB figs e)) (by kernel_rfl)⟩
theorem QQJ(R:Ev G N (LT figs one two) (CT te td))(h1:one.length≤16)(h2:two.length≤16)(i1:∀c∈one,c∈cs)(i2:∀c∈two,c∈cs):
  QAu G N (QAa 41) (fnBody 41) [(nm "one",.list (one.map .int)),(nm "other",.list (two.map .int)),(nm "rows",rwD figs cs)] (.bool true):=by
 have l1:(one.map D.int).length≤1000:=QCk (Qd h1 (by decide))
 have l2:(two.map D.int).length≤1000:=QCk (Qd h2 (by decide))
 have la:∀{x y:List Int},x.length≤16→((QAx x y).map D.int).length≤1000:=fun h=>QCk (Qd QMc (Qd h (by decide)))
 have s:∀{x y:List Int},x.length≤16→y.length≤16→QKq [.list (x.map .int),.list (y.map .int)] [] (.list ((QAx x y).map .int)):=fun h h'=>⟨_,_,rfl,rfl,Qd h (by decide),Qd h' (by decide),rfl⟩
 have e0:=QGD R 0 (figs:=figs) i1 (fun _=>rfl) rfl fun c=>by kernel_rfl
 have e1:=QGD R 1 (figs:=figs) i2 (fun _=>rfl) rfl fun c=>by kernel_rfl
 have e2:=QGD R 2 (figs:=figs) (l:=QAx one two) (fun c h=>i1 c (QJu h)) (fun _=>rfl) rfl fun c=>by kernel_rfl
 have e3:=QGD R 3 (figs:=figs) (l:=QAx two one) (fun c h=>i2 c (QJu h)) (fun _=>rfl) rfl fun c=>by kernel_rfl
 have hc:=Qd (QH1 (one:=one) (two:=two)) (Qd (Nat.add_le_add h1 h2) (by decide:16+16≤1000))
 have ha:(((QCt one).map (QNz one two)).map (QDB figs)).length≤1000:=by rw [Qs,Qs];exact Qd QEw (Qd h1 (by decide))
 have hb:(((secondsOf one two).map (QLd two)).map (QDB figs)).length≤1000:=by rw [Qs,Qs];exact Qd QEw (Qd h2 (by decide))
 have e8:=QJG _ _ ha hb
 rw [←Qv] at e8
 have hm:((QE6 one two).map (QDW figs)).length≤1000:=by rw [Qs];exact Qd QPW (Qd (Nat.add_le_add h1 h2) (by decide))
 have hA:((QFr one two).map (QDB figs)).length≤1000:=by rw [Qs];exact hc
 exact QAo R [.s (L1 [(nm "rows",rwD figs cs)]),.l (one.map (QAd figs)),.s (L1 [(nm "rows",rwD figs cs)]),.l (two.map (QAd figs)),.d (.list ((QAx one two).map .int)),.s (L1 [(nm "rows",rwD figs cs)]),.l ((QAx one two).map (QAd figs)),.d (.list ((QAx two one).map .int)),.s (L1 [(nm "rows",rwD figs cs)]),.l ((QAx two one).map (QAd figs)),
   .d (QIQ figs one two),.b false,.s (L3 figs cs one two),.l (((QCt one).map (QNz one two)).map (QDB figs)),.s (L3 figs cs one two),.l (((secondsOf one two).map (QLd two)).map (QDB figs)),.d (.list ((QFr one two).map (QDB figs))),
   .d (.list ((QE6 one two).map (QDW figs))),.s (L1 []),.l ((QE6 one two).map (QDB figs)),.s (L1 []),.l ((QE6 one two).map (QDB figs)),.b true]
  (QAZ (ai l1<|ai (oke (L1 [(nm "rows",rwD figs cs)]))<|ai e0<|ai l2<|ai (oke (L1 [(nm "rows",rwD figs cs)]))<|ai e1<|ai (s h1 h2)<|ai (la (y:=two) h1)<|ai (oke (L1 [(nm "rows",rwD figs cs)]))<|ai e2<|ai (s h2 h1)<|ai (la (y:=one) h2)<|ai (oke (L1 [(nm "rows",rwD figs cs)]))<|ai e3<|
   ai (⟨rfl,rfl,rfl⟩:QRV figs one two [.list (one.map (QAd figs)),.list (two.map (QAd figs))] [] (QIQ figs one two))<|ai (QLF (figs:=figs) (a:=QAx one two) (b:=QAx two one))<|ai l1<|ai (oke (L3 figs cs one two))<|ai (QSk R (figs:=figs) (two:=two) h1 i1)<|
   ai l2<|ai (oke (L3 figs cs one two))<|ai (QSb R (figs:=figs) (one:=one) h2 i2)<|ai e8<|ai (⟨rfl,rfl,rfl⟩:sCd figs one two [.list (one.map (QAd figs)),.list (two.map (QAd figs))] [] (.list ((QE6 one two).map (QDW figs))))<|ai (ai hm (QRL (figs:=figs) (QE6 one two)))<|ai (oke (L1 []))<|ai (QS6 R (figs:=figs) (QE6 one two))<|
   ai hA<|ai (oke (L1 []))<|ai (QTQ R (figs:=figs) (one:=one) (two:=two))<|ai (QQd (figs:=figs) (l:=QE6 one two)) (@rfl D (.bool true))) (by kernel_rfl))
end
section
variable {prog:QV}{w:QX}{G:Gd prog w}{A:QT}{g₀:Fz}{s₀:QR}{env:Env}{σ:PS}{oa:Str→QW}{g:Fz}{s:QR}{E:QS→QR→Prop}
theorem Sv.mark(S:Sv G A g₀ s₀ env σ oa g s)(h:Option QS):Sv G (A.mark h) g₀ s₀ env σ oa g s:=
 ⟨S.ext,⟨S.vw.kind,S.vw.sc,S.vw.glo,S.vw.bui,S.vw.vars,S.vw.cel,S.vw.inn,S.vw.base,by
  refine oEA S.vw.fr fun fr h1 h2=>?_
  refine ⟨fr,?_,h2⟩
  cases A;cases h<;>exact h1⟩,S.locg,S.loc0,S.ns,S.cell,S.apart,S.own,S.ownA⟩
theorem Sv.unmark{h:Option QS}(S:Sv G (A.mark h) g₀ s₀ env σ oa g s):Sv G A g₀ s₀ env σ oa g s:=
 ⟨S.ext,⟨S.vw.kind,S.vw.sc,S.vw.glo,S.vw.bui,S.vw.vars,S.vw.cel,S.vw.inn,S.vw.base,by
  refine oEA S.vw.fr fun fr h1 h2=>?_
  refine ⟨fr,?_,h2⟩
  cases A;cases h<;>exact h1⟩,S.locg,S.loc0,S.ns,S.cell,S.apart,S.own,S.ownA⟩
theorem Rm.mark{N:Nat}(R:Rm A N)(h:N≤9)(m:Option QS):Rm (A.mark m) N:=
 ⟨fun k=>by omega,by have:=R.dep;cases A;cases m<;>exact this,by have:=R.uni;cases A;cases m<;>exact this⟩
theorem Sv.liveLoose(S:Sv G A g₀ s₀ env σ oa g s){b:QW}(h:Loose env σ oa b):∃o,s.heap.get? b=some o:=by
 rcases h with rfl|⟨x,hx⟩|⟨x,ds,hx,rfl⟩
 ·refine QFz S.ns fun m o _ _=>rA fun ho _=>?_;exact ⟨o,ho⟩
 ·refine QEV (S.cell x b hx) fun _ _ v=>rEA fun o ho _=>?_;exact ⟨o,ho⟩
 ·refine QBC (S.own x ds hx) fun _ _ _ _ vs ζ5 _=>?_;obtain ⟨n,ho⟩:=ζ5;exact ⟨_,ho⟩
structure Off (env:Env)(σ:PS)(oa:Str→QW)(g:Fz)(s₀:QR)(b:QW):Prop where
 lo:¬Loose env σ oa b
 fz:g b=none
 old:s₀.heap.get? b=none
theorem Off.move{σ':PS}{oa':Str→QW}{g':Fz}{s':QR}{b:QW}{o:Obj}(x:Off env σ oa g s₀ b)(ho:s.heap.get? b=some o)(M:Mv env σ oa σ' oa' g s g' s'):Off env σ' oa' g' s₀ b:=by
 have nOwn:¬Own σ oa b:=fun q=>x.lo (.inr (.inr q))
 refine ⟨?_,?_,x.old⟩
 ·rintro (q|q|q)
  ·exact x.lo (.inl q)
  ·exact x.lo (.inr (.inl q))
  ·rcases M.own b q with e|e
   ·rw [ho] at e;cases e
   ·exact nOwn e
 ·cases q:g' b with
  |none=>rfl
  |some o'=>
   rcases M.new _ _ q with e|e|e
   ·rw [x.fz] at e;cases e
   ·rw [ho] at e;cases e
   ·exact absurd e nOwn
theorem Off.keep{σ':PS}{oa':Str→QW}{g':Fz}{s':QR}{b:QW}{o:Obj}(x:Off env σ oa g s₀ b)(ho:s.heap.get? b=some o)(M:Mv env σ oa σ' oa' g s g' s')(hd:∀es ep,o.data≠ .dict es ep):s'.heap.get? b=some o:=by
 refine oEA (M.keep b o ho x.lo) fun o' e' sm=>?_
 rw [sm.exact hd] at e';exact e'
theorem Sv.offNew(S:Sv G A g₀ s₀ env σ oa g s){b:QW}(h:s.heap.get? b=none):Off env σ oa g s₀ b where
 lo:=fun q=>by refine oE (S.liveLoose q) fun o e=>?_;rw [h] at e;cases e
 fz:=S.vw.inn.none h
 old:=S.ext.heap.none h
theorem Sv.poke0(S:Sv G A g₀ s₀ env σ oa g s){c:QW}{oc:Obj}{h':Heap}(X:Off env σ oa g s₀ c)(hc:s.heap.get? c=some oc)(nd:∀es ep,oc.data≠ .dict es ep)(keep:∀b o,b≠c→s.heap.get? b=some o→h'.get? b=some o):
  Sv G A g₀ s₀ env σ oa g {s with heap:=h'}:=by
 have nL:c≠env.locals:=fun q=>X.lo (.inl q)
 have nC:∀x d,env.cells.lookup x=some d→d≠c:=fun x d h q=>X.lo (.inr (.inl ⟨x,by rw [h,q]⟩))
 have nO:∀x ds,σ.os.lookup x=some ds→oa x≠c:=fun x ds h q=>X.lo (.inr (.inr ⟨x,ds,h,q.symm⟩))
 have kNs:∀m,s.heap.Ns env.locals m→h'.Ns env.locals m:=fun m h=>h.at' fun o e=>keep _ o (Ne.symm nL) e
 have kCell:∀x d,env.cells.lookup x=some d→∀v,s.heap.IsCell d v→h'.IsCell d v:=fun x d h v ⟨o,ho,hd⟩=>⟨o,keep _ _ (nC x d h) ho,hd⟩
 have kG:∀b o o',g b=some o→s.heap.get? b=some o'→h'.get? b=some o':=fun b o o' e e'=>keep b o' (fun q=>by rw [q,X.fz] at e;cases e) e'
 refine {ext:=?_,vw:=?_,locg:=S.locg,loc0:=S.loc0,ns:=(let ⟨m,h⟩:=S.ns;⟨m,kNs m h⟩),cell:=?_,apart:=S.apart,own:=?_,ownA:=S.ownA}
 ·refine oEE S.ext.same fun h1 t1 e1=>?_
  exact ⟨S.ext.heap.to fun b o o' e e'=>keep b o' (fun q=>by rw [q,X.old] at e;cases e) e',S.ext.le,S.ext.inn.to kG,S.ext.new,⟨h',s.toks,by rw [e1]⟩⟩
 ·refine {kind:=S.vw.kind,sc:=S.vw.sc,glo:=S.vw.glo,bui:=S.vw.bui,vars:=?_,cel:=S.vw.cel,inn:=S.vw.inn.to kG,base:=S.vw.base,fr:=?_}
  ·intro y dy hy
   refine oEA (S.vw.vars y dy hy) fun u hu hcc=>?_
   refine ⟨u,hu,?_⟩
   refine Or.elim hcc (QCx fun h1 m h2 h3=>?_) (QCx fun h1 d h2 h3=>?_)
   ·exact .inl ⟨h1,m,kNs m h2,h3⟩
   ·exact .inr ⟨h1,d,h2,kCell y d h2 _ h3⟩
  ·exact S.vw.fr.keepOff keep hc nd
 ·intro y d hd
  refine QEV (S.cell y d hd) fun h1 h2 v h3=>?_
  exact ⟨h1,h2,v,kCell y d hd v h3⟩
 ·intro y ds hy
  refine QBC (S.own y ds hy) fun h1 h2 h3 ζ3 vs ζ5 h7=>?_
  obtain ⟨m,h4,h5⟩:=ζ3
  obtain ⟨n,ho⟩:=ζ5
  exact ⟨h1,h2,h3,⟨m,kNs m h4,h5⟩,vs,⟨n,keep _ _ (nO y ds hy) ho⟩,h7⟩
theorem Sv.poke(S:Sv G A g₀ s₀ env σ oa g s){c:QW}{oc:Obj}{h':Heap}(X:Off env σ oa g s₀ c)(hc:s.heap.get? c=some oc)(nd:∀es ep,oc.data≠ .dict es ep)(keep:∀b o,b≠c→s.heap.get? b=some o→h'.get? b=some o)(hl:∃o,h'.get? c=some o):
  Sv G A g₀ s₀ env σ oa g {s with heap:=h'}∧∀(σ₁:PS) (oa₁:Str→QW) (g₁:Fz) (s₁:QR),Mv env σ₁ oa₁ σ oa g₁ s₁ g s→s₁.heap.get? c=none→Mv env σ₁ oa₁ σ oa g₁ s₁ g {s with heap:=h'}:=by
 have nL:c≠env.locals:=fun q=>X.lo (.inl q)
 refine ⟨S.poke0 X hc nd keep,fun σ₁ oa₁ g₁ s₁ M hc1=>⟨fun b o e hlo=>?_,M.le,M.new,M.own,fun b o e=>?_⟩⟩
 ·refine oEA (M.keep b o e hlo) fun o' e' sm=>?_
  exact ⟨o',keep b o' (fun q=>by rw [q,hc1] at e;cases e) e',sm⟩
 ·refine oE (M.live b o e) fun o' e'=>?_
  by_cases q:b=c
  ·subst q;exact hl
  ·exact ⟨o',keep b o' q e'⟩
structure Ab (env:Env)(σ:PS)(oa:Str→QW)(g:Fz)(s₀ s₁ s:QR)(e:QW)(c:Bool)(fl:QS):Prop where
 ex:∃ob vs tb otb tvs,s.heap.get? e=some ob∧ob.cls= .type "IndexError"∧ob.data= .fields vs∧vs[1]? =some (.ref tb)∧(c=true→vs[2]? =some .none)∧s.heap.get? tb=some otb∧otb.data= .fields tvs∧tvs[3]? =some fl∧tb≠e∧Off env σ oa g s₀ tb∧s₁.heap.get? tb=none
 offE:Off env σ oa g s₀ e
 newE:s₁.heap.get? e=none
theorem Ab.move{σ':PS}{oa':Str→QW}{g':Fz}{s₁ s':QR}{e:QW}{c:Bool}{fl:QS}(x:Ab env σ oa g s₀ s₁ s e c fl)(M:Mv env σ oa σ' oa' g s g' s'):Ab env σ' oa' g' s₀ s₁ s' e c fl where
 ex:=by
  refine QBh x.ex fun ob vs tb otb tvs=>QEb fun h1 h2 h3 h4=>rAA fun hc h5 ζ11=>?_
  obtain ⟨h6,h7,h8,h9,h10⟩:=ζ11
  exact ⟨ob,vs,tb,otb,tvs,x.offE.keep h1 M (fun _ _ q=>by rw [h3] at q;cases q),h2,h3,h4,hc,h9.keep h5 M (fun _ _ q=>by rw [h6] at q;cases q),h6,h7,h8,h9.move h5 M,h10⟩
 offE:=by refine QBh x.ex fun ob vs tb otb tvs=>rA fun h1 _=>?_;exact x.offE.move h1 M
 newE:=x.newE
theorem Mv.fresh{σ₁:PS}{oa₁:Str→QW}{g₁:Fz}{s₁:QR}(M:Mv env σ₁ oa₁ σ oa g₁ s₁ g s){b:QW}(h:s.heap.get? b=none):s₁.heap.get? b=none:=by
 cases q:s₁.heap.get? b with
 |none=>rfl
 |some o=>refine oE (M.live b o q) fun o' e=>?_;rw [h] at e;cases e
theorem Sv.noted(S:Sv G A g₀ s₀ env σ oa g s)(hf:env.frame=some env.locals)(hfr:∃fr,A.frames=some (env::fr)){σ₁:PS}{oa₁:Str→QW}{g₁:Fz}{s₁ s':QR}(M:Mv env σ₁ oa₁ σ oa g₁ s₁ g s){e:QW}{c:Bool}{Q:Unit→QR→Prop}
  (hx:Heap.NewExcOf s.heap s'.heap e "IndexError") (hsame:∃h tk,s'={s with heap:=h,toks:=tk}) (hcc:c=true→∀ob vs,s'.heap.get? e=some ob→ob.data= .fields vs→vs[2]? =some .none)
  (k:∀s'',Sv G A g₀ s₀ env σ oa g s''→Mv env σ₁ oa₁ σ oa g₁ s₁ g s''→Ab env σ oa g s₀ s₁ s'' e c (rawInt env.locals)→Q () s''):Qa (model prog w) A (noteFrame (.ref e) env) Q E s':=by
 revert hfr
 refine rE fun fr hA=>?_
 refine QMX (s₀:=s) (s:=s') (X:="IndexError") hA S.vw.fr hf hx hsame (c:=c) hcc fun s'' x=>?_
 have xx:Ext g s g s'':=⟨x.le,.refl _,S.vw.inn.up x.le,fun _ _ e=> .inl e,x.same⟩
 have S'':=S.up xx
 refine QBh x.ex fun ob vs tb otb tvs=>QEb fun h1 h2 h3 h4=>rAA fun hc h5 ζ11=>?_
 obtain ⟨h6,h7,h8,h9⟩:=ζ11
 have M1:Mv env σ oa σ oa g s g s'':= .ofExt xx
 have off:∀b,s.heap.get? b=none→Off env σ oa g s₀ b:=fun b hb=>S.offNew hb
 refine k s'' S'' (M.trans M1) ⟨⟨ob,vs,tb,otb,tvs,h1,h2,h3,h4,hc,h5,h6,h7,h8,off _ h9,M.fresh h9⟩,off _ x.e0,M.fresh x.e0⟩
theorem Ab.again{s₁:QR}{e:QW}{c:Bool}{Q:Unit→QR→Prop}(x:Ab env σ oa g s₀ s₁ s e c (rawInt env.locals))(hf:env.frame=some env.locals)(k:Q () s):Qa (model prog w) A (noteFrame (.ref e) env) Q E s:=by
 refine QBh x.ex fun ob vs tb otb tvs=>QEb fun h1 h2 h3 h4=>rAA fun hc h5 ζ11=>?_
 obtain ⟨h6,h7,_⟩:=ζ11
 exact wpAny_noteFrame_inFlight hf h1 h3 h4 h5 h6 h7 k
theorem Ab.flight(S:Sv G A g₀ s₀ env σ oa g s){σ₁:PS}{oa₁:Str→QW}{g₁:Fz}{s₁:QR}(M:Mv env σ₁ oa₁ σ oa g₁ s₁ g s){e:QW}{c:Bool}{fl:QS}{wh:Option QW}{Q:Unit→QR→Prop}(x:Ab env σ oa g s₀ s₁ s e c fl)
  (k:∀s',Sv G A g₀ s₀ env σ oa g s'→Mv env σ₁ oa₁ σ oa g₁ s₁ g s'→Ab env σ oa g s₀ s₁ s' e c (wh.elim Value.none fun f=>rawInt f)→Q () s') {B:QT}:Qa (model prog w) B (setFlight (.ref e) wh) Q E s:=by
 refine QBh x.ex fun ob vs tb otb tvs=>QEb fun h1 h2 h3 h4=>rAA fun hc h5 ζ11=>?_
 obtain ⟨h6,h7,h8,h9,h10⟩:=ζ11
 have hsz:3<tvs.size:=(Array.getElem?_eq_some_iff.mp h7).1
 skip
 refine QB (wpAny_field h1 h3 h4 ?_)
 rw [if_pos (show (Value.ref tb !=Value.none)=true from by simp)]
 refine wpAny_setField h5 h6 hsz ?_
 have hself:=Heap.get?_update_self (Obj.mapFields (·.setIfInBounds 3 (wh.elim Value.none fun f=>rawInt f))) h5 (Obj.isFreed_of_fields (Obj.data_mapFields h6 _))
 refine oA (S.poke (h':=s.heap.update tb (Obj.mapFields (·.setIfInBounds 3 (wh.elim Value.none fun f=>rawInt f)))) h9 h5 (fun _ _ q=>by rw [h6] at q;cases q) (fun b o q e=>(Heap.get?_update_ne _ _ _ _ q).trans e) ⟨_,hself⟩) fun S' M'=>?_
 exact k _ S' (M' _ _ _ _ M h10) ⟨⟨ob,vs,tb,_,_,(Heap.get?_update_ne _ _ _ _ h8.symm).trans h1,h2,h3,h4,hc,hself,Obj.data_mapFields h6 _,by simp [hsz],h8,h9,h10⟩,x.offE,x.newE⟩
theorem Ab.back(S:Sv G A g₀ s₀ env σ oa g s){σ₁:PS}{oa₁:Str→QW}{g₁:Fz}{s₁:QR}(M:Mv env σ₁ oa₁ σ oa g₁ s₁ g s){e:QW}{c:Bool}{fl:QS}(hf:env.frame=some env.locals)(x:Ab env σ oa g s₀ s₁ s e c fl)
  (k:∀s',Sv G A g₀ s₀ env σ oa g s'→Mv env σ₁ oa₁ σ oa g₁ s₁ g s'→Ab env σ oa g s₀ s₁ s' e c (rawInt env.locals)→E (.ref e) s') {B:QT}:cameBackBy (model prog w) B env E (.ref e) s:=by
 skip
 refine QBh x.ex fun ob vs tb otb tvs=>QEb fun h1 h2 h3 h4 _=>?_
 refine QB (wpAny_field h1 h3 h4 ?_)
 rw [if_neg (by simp),hf]
 exact Ab.flight S M (wh:=some env.locals) x fun s' S' M' x'=>k s' S' M' x'
theorem Ab.pass{α:Type}{what:String}(S:Sv G A g₀ s₀ env σ oa g s){σ₁:PS}{oa₁:Str→QW}{g₁:Fz}{s₁:QR}(M:Mv env σ₁ oa₁ σ oa g₁ s₁ g s){e:QW}{c:Bool}{fl:QS}(hf:env.frame=some env.locals)(x:Ab env σ oa g s₀ s₁ s e c fl){Q:α→QR→Prop}
  (k:∀s',Sv G A g₀ s₀ env σ oa g s'→Mv env σ₁ oa₁ σ oa g₁ s₁ g s'→Ab env σ oa g s₀ s₁ s' e c (rawInt env.locals)→E (.ref e) s') {B:QT}:Qa (model prog w) B (PySem.passOn what (.ref e) env:Sem α) Q E s:=by
 skip
 refine QBh x.ex fun ob vs tb otb tvs=>QEb fun h1 h2 h3 h4 _=>?_
 refine QB (wpAny_field h1 h3 h4 ?_)
 rw [if_neg (by simp),hf]
 exact QB (Ab.flight S M (wh:=some env.locals) x fun s' S' M' x'=>wpAny_throw (k s' S' M' x'))
end
structure RnF where
 env:Env
 g₀:Fz
 s₀:QR
 σ₁:PS
 oa₁:Str→QW
 g₁:Fz
 s₁:QR
inductive XO where
 |nx (σ:PS)
 |ex (b:Bool) (σ:PS)
section
variable {prog:QV}{w:QX}(G:Gd prog w)
structure Cx (A:QT)(K:RnF)(c:Bool)(σ:PS)(oa:Str→QW)(g:Fz)(s:QR):Prop where
 hf:K.env.frame=some K.env.locals
 hfr:∃fr,A.frames=some (K.env::fr)
 R:Rm A 9
 S:Sv G A K.g₀ K.s₀ K.env σ oa g s
 M:Mv K.env K.σ₁ K.oa₁ σ oa K.g₁ K.s₁ g s
 hd:match c with
  |true=>A.handled=none
  |false=>∃h fl,A.handled=some (.ref h)∧Ab K.env σ oa g K.s₀ K.s₁ s h true fl
structure Xx (A:QT)(K:RnF)(c:Bool)(σ:PS)(oa:Str→QW)(g:Fz)(s:QR)(e:QW):Prop where
 S:Sv G A K.g₀ K.s₀ K.env σ oa g s
 M:Mv K.env K.σ₁ K.oa₁ σ oa K.g₁ K.s₁ g s
 x:Ab K.env σ oa g K.s₀ K.s₁ s e c (rawInt K.env.locals)
noncomputable def Xp(A:QT)(K:RnF)(c:Bool)(Q:QR→Prop)(P:QS→QR→Prop)(o:XO):Prop:=match o with
 | .nx τ=>∀oa g s,Cx G A K c τ oa g s→Q s
 | .ex b τ=>∀oa g s e,Xx G A K b τ oa g s e→P (.ref e) s
noncomputable def nt(A:QT)(K:RnF)(P E:QS→QR→Prop)(v:QS)(s:QR):Prop:=Qa (model prog w) A (noteFrame v K.env) (fun _ s=>P v s) E s
noncomputable def Xs(c:Bool)(b:List Stmt)(σ:PS)(o:XO):Prop:=∀(A:QT) (K:RnF) (oa:Str→QW) (g:Fz) (s:QR) (Q:Flow→QR→Prop) (P E:QS→QR→Prop),Cx G A K c σ oa g s→Xp G A K c (Q .next) P o→Qa (model prog w) A (execs b K.env) Q (nt (prog:=prog) (w:=w) A K P E) s
noncomputable def Xt(c:Bool)(b:Stmt)(σ:PS)(o:XO):Prop:=∀(A:QT) (K:RnF) (oa:Str→QW) (g:Fz) (s:QR) (Q:Flow→QR→Prop) (P E:QS→QR→Prop),Cx G A K c σ oa g s→Xp G A K c (Q .next) P o→Qa (model prog w) A (exec b K.env) Q (nt (prog:=prog) (w:=w) A K P E) s
noncomputable def Xw(c:Bool)(t:Expr)(b:List Stmt)(σ:PS)(o:XO):Prop:=∀(A:QT) (K:RnF) (oa:Str→QW) (g:Fz) (s:QR) (R:Result→QR→Prop),Cx G A K c σ oa g s→Xp G A K c (R (.ok .next)) (fun e s=>R (.error e) s) o→codeAny (model prog w) A (.whileLoop t b [] K.env) R s
variable {G}{A:QT}{K:RnF}{c:Bool}{σ τ:PS}{oa:Str→QW}{g:Fz}{s:QR}{o:XO}
theorem Cx.go{oa':Str→QW}{g':Fz}{s':QR}(X:Cx G A K c σ oa g s)(S:Sv G A K.g₀ K.s₀ K.env τ oa' g' s')(M:Mv K.env σ oa τ oa' g s g' s'):Cx G A K c τ oa' g' s':=
 ⟨X.hf,X.hfr,X.R,S,X.M.trans M,by
  cases c with
  |true=>exact X.hd
  |false=>refine QB0 X.hd fun h fl e x=>?_;exact ⟨h,fl,e,x.move M⟩⟩
theorem Off.weak{env:Env}{s₀:QR}{b:QW}(L:SLe τ σ)(x:Off env σ oa g s₀ b):Off env τ oa g s₀ b:=⟨fun h=>x.lo (h.imp_right fun h=>h.imp_right fun h=>h.weak L),x.fz,x.old⟩
theorem Ab.weak{env:Env}{s₀ s₁:QR}{e:QW}{fl:QS}(L:SLe τ σ)(x:Ab env σ oa g s₀ s₁ s e c fl):Ab env τ oa g s₀ s₁ s e c fl:=by
 obtain ⟨⟨ob,vs,tb,otb,tvs,h1,h2,h3,h4,h5,h6,h7,h8,h9,h10,h11⟩,o,n⟩:=x
 exact ⟨⟨ob,vs,tb,otb,tvs,h1,h2,h3,h4,h5,h6,h7,h8,h9,h10.weak L,h11⟩,o.weak L,n⟩
theorem Cx.weak(L:SLe τ σ)(X:Cx G A K c σ oa g s):Cx G A K c τ oa g s:=⟨X.hf,X.hfr,X.R,X.S.weak L,X.M.out L,by
  cases c with
  |true=>exact X.hd
  |false=>refine QB0 X.hd fun h fl e x=>?_;exact ⟨h,fl,e,x.weak L⟩⟩
theorem Xx.weak{e:QW}(L:SLe τ σ)(X:Xx G A K c σ oa g s e):Xx G A K c τ oa g s e:=⟨X.S.weak L,X.M.out L,X.x.weak L⟩
theorem Xs.nx{b:List Stmt}(L:SLe τ σ){ρ:PS}(h:Xs G c b ρ (.nx σ)):Xs G c b ρ (.nx τ):=fun A K oa g s Q P E X k=>h A K oa g s Q P E X fun _ _ _ X=>k _ _ _ (X.weak L)
theorem Xs.ex{b:List Stmt}{d:Bool}(L:SLe τ σ){ρ:PS}(h:Xs G c b ρ (.ex d σ)):Xs G c b ρ (.ex d τ):=fun A K oa g s Q P E X k=>h A K oa g s Q P E X fun _ _ _ _ X=>k _ _ _ _ (X.weak L)
theorem Xs.inn{b:List Stmt}(L:SLe τ σ)(h:Xs G c b τ o):Xs G c b σ o:=fun A K oa g s Q P E X k=>h A K oa g s Q P E (X.weak L) k
theorem Xw.inn{t:Expr}{b:List Stmt}(L:SLe τ σ)(h:Xw G c t b τ o):Xw G c t b σ o:=fun A K oa g s R X k=>h A K oa g s R (X.weak L) k
theorem QTW:Xs G c [] σ (.nx σ):=fun _ _ _ _ _ _ _ _ X k=>QG (k _ _ _ X)
theorem QPa{st:Stmt}{r:List Stmt}(h:Xt G c st σ (.nx τ))(h2:Xs G c r τ o):Xs G c (st::r) σ o:=fun A K oa g s Q P E X k=>
 QD (h A K oa g s _ P E X fun _ _ _ X=>h2 A K _ _ _ Q P E X k)
theorem QOH{st:Stmt}{r:List Stmt}{d:Bool}(h:Xt G c st σ (.ex d τ)):Xs G c (st::r) σ (.ex d τ):=fun A K oa g s Q P E X k=>QD (h A K oa g s _ P E X k)
theorem QCd{st:Stmt}(h:Xt G c st σ o):Xs G c [st] σ o:=by
 cases o with
 |nx τ=>exact QPa h QTW
 |ex d τ=>exact QOH h
theorem QSh{st:Stmt}(h:QC7 G 9 st σ (.next τ)):Xt G c st σ (.nx τ):=fun A K oa g s Q P E X k=>
 h A K.env K.g₀ K.s₀ oa g s Q _ X.R X.S fun _ _ _ S' M'=>k _ _ _ (X.go S' M')
theorem QNX{st:Stmt}{r:List Stmt}(h:QC7 G 9 st σ (.next τ))(h2:Xs G c r τ o):Xs G c (st::r) σ o:=QPa (QSh h) h2
theorem Cx.ext(X:Cx G A K c σ oa g s){g':Fz}{s':QR}(x:Ext g s g' s'):Cx G A K c σ oa g' s':=X.go (X.S.up x) (.ofExt x)
theorem QTG{t:Expr}{B C:List Stmt}{p:Pos}{b:Bool}(ht:QAl G 9 t σ.ρ b)(h:Xs G c (if b=true then B else C) σ o):Xt G c (.If t B C p) σ o:=fun A K oa g s Q P E X k=>
 wpAny_If (ht A K.env g s _ _ X.R X.S.vw fun g1 s1 x1=>by cases b<;>exact h A K oa g1 s1 Q P E (X.ext x1) k)
theorem QMS{t:Expr}{b:List Stmt}(ht:QAl G 9 t σ.ρ true)(hb:QCG G 9 b σ (.next τ))(h:Xw G c t b τ o):Xw G c t b σ o:=fun A K oa g s R X k=>by
 refine QDK (ht A K.env g s _ _ X.R X.S.vw fun g1 s1 x1=>?_)
 rw [if_pos rfl]
 exact hb A K.env K.g₀ K.s₀ oa g1 s1 _ _ X.R (X.S.up x1) fun g2 s2 oa2 S2 M2=>h A K oa2 g2 s2 R ((X.ext x1).go S2 M2) k
theorem QP2{t:Expr}{b:List Stmt}(ht:QAl G 9 t σ.ρ false):Xw G c t b σ (.nx σ):=fun A K oa g s R X k=>by
 refine QDK (ht A K.env g s _ _ X.R X.S.vw fun g1 s1 x1=>?_)
 rw [if_neg QAS]
 exact QG (k _ _ _ (X.ext x1))
theorem Xx.again{e:QW}{P E:QS→QR→Prop}(x:Xx G A K c σ oa g s e)(hf:K.env.frame=some K.env.locals)(k:P (.ref e) s):nt (prog:=prog) (w:=w) A K P E (.ref e) s:=x.x.again hf k
theorem QBd{t:Expr}{b:List Stmt}{p:Pos}(h:Xw G c t b σ o):Xt G c (.While t b [] p) σ o:=fun A K oa g s Q P E X k=>by
 refine wpAny_While (h A K oa g s _ X ?_)
 cases o with
 |nx τ=>exact k
 |ex d τ=>exact fun oa g s e x=>Ab.back x.S x.M X.hf x.x fun s' S' M' x'=>(Xx.mk S' M' x').again X.hf (k _ _ _ _ ⟨S',M',x'⟩)
theorem Cx.noted(X:Cx G A K c σ oa g s){P E:QS→QR→Prop}{h':Heap}{tk:Nat}{e:QW}(hx:Heap.NewExcOf s.heap h' e "IndexError")(hcc:c=true→∀ob vs,h'.get? e=some ob→ob.data= .fields vs→vs[2]? =some .none)
  (k:∀s',Xx G A K c σ oa g s' e→P (.ref e) s'):nt (prog:=prog) (w:=w) A K P E (.ref e) {s with heap:=h',toks:=tk}:=
 X.S.noted X.hf X.hfr X.M (s':={s with heap:=h',toks:=tk}) hx ⟨_,_,rfl⟩ hcc fun s'' S'' M'' x''=>k s'' ⟨S'',M'',x''⟩
theorem QTB{a:QW}{ds:List D}{k:Nat}{t:Tok}{Q E:QS→QR→Prop}(X:Cx G A K c σ oa g s)(dl:Den g (.ref a) (.list ds))(hk:ds.length≤k)(hk2:k<2000)
  (hE:∀h' tk e,Heap.NewExcOf s.heap h' e "IndexError"→(c=true→∀ob vs,h'.get? e=some ob→ob.data= .fields vs→vs[2]? =some .none)→E (.ref e) {s with heap:=h',toks:=tk}):
  Qa (model prog w) A (getItem (.ref a) (.int (k:Nat) t)) Q E s:=by
 refine QKu dl.lst fun b vs e _ hsz hL=>?_
 cases e
 have hL:=hL s.heap X.S.vw.inn
 have h1:(vs.size:Int)≤(k:Nat):=QAE.mpr (hsz▸hk)
 have h2:((k:Nat):Int)<2^63:=Int.lt_trans (QAL.mpr hk2) (by decide)
 cases c with
 |true=>
  exact wpAny_getItem_list_out X.hd hL (.inr h1) (QAJ (by decide) (QAC k)) h2 fun h' tk e x=>hE h' tk e x.of fun _ ob vs' h1 h2=>by
   refine QBO x.there fun ob' t' h3 _ h4=>?_
   rw [h1] at h3;cases h3
   rw [h2] at h4;cases h4
   rfl
 |false=>
  refine QB0 X.hd fun h fl hh y=>?_
  refine QBh y.ex fun ob vh tb otb tvs=>QEb fun q1 q2 q3 q4=>rA fun q5 _=>?_
  exact QG3 hh q1 q3 (q5 rfl) hL h1 h2 fun h' tk e x=>hE h' tk e x fun q=>nomatch q
theorem QL7{arr idx:Str}{p1 p2 p3:Pos}{ds:List D}{k:Nat}{Q P E:QS→QR→Prop}(X:Cx G A K c σ oa g s)(pa:plainName arr=true)(pi:plainName idx=true)(ga:σ.ρ.get arr=some (.list ds))(gi:σ.ρ.get idx=some (.int (k:Nat)))(hk:ds.length≤k)(hk2:k<2000)
  (hE:∀s' e,Xx G A K c σ oa g s' e→P (.ref e) s'):Qa (model prog w) A (eval (.Subscript (.Name arr p1) (.Name idx p2) p3) K.env) Q (nt (prog:=prog) (w:=w) A K P E) s:=by
 have pa:=QBD pa
 have pi:=QBD pi
 refine Subscript_ (QM (QBP X.S.vw ga pa.2 fun v dv=>QM (QBP X.S.vw gi pi.2 fun u du=>?_) pi.1) pa.1)
 refine oE du.out fun t ζ1=>?_
 subst ζ1
 refine QA7 dv.out fun a o vs n ζ4 ho hc hd _=>?_
 subst ζ4
 exact QDH ⟨_,X.S.vw.inn.sq ho hd,hc.1⟩ slot_list_getitem.lookup (QTB X dv hk hk2 fun h' tk e hx hcc=>X.noted hx hcc fun s' x=>hE s' e x)
theorem QRq{x arr idx:Str}{xp p p1 p2 p3:Pos}{ds:List D}{k:Nat}(pa:plainName arr=true)(pi:plainName idx=true)(ga:σ.ρ.get arr=some (.list ds))(gi:σ.ρ.get idx=some (.int (k:Nat)))(hk:ds.length≤k)(hk2:k<2000):
  Xt G c (.Assign [.Name x xp] (.Subscript (.Name arr p1) (.Name idx p2) p3) p) σ (.ex c σ):=fun A K oa g s Q P E X kk=>
 wpAny_Assign_Name (QL7 X pa pi ga gi hk hk2 fun s' e x=>kk _ _ _ _ x) (QA6 rfl rfl _ _ _)
theorem QR6{arr idx:Str}{r:Expr}{b:List Stmt}{op:CmpOp}{p p1 p2 p3:Pos}{ds:List D}{k:Nat}(pa:plainName arr=true)(pi:plainName idx=true)(hr:behindInMarks op r=false)(ga:σ.ρ.get arr=some (.list ds))(gi:σ.ρ.get idx=some (.int (k:Nat)))(hk:ds.length≤k)(hk2:k<2000):
  Xw G c (.Compare (.Subscript (.Name arr p1) (.Name idx p2) p3) [op] [r] p) b σ (.ex c σ):=fun A K oa g s R X kk=>
 QDK (wpAny_isTrue_Compare1 (QL7 (P:=fun e s=>R (.error e) s) X pa pi ga gi hk hk2 fun s' e x=>kk _ _ _ _ x) hr)
theorem QNM{B F:List Stmt}{f:Stmt}{p:Pos}(hB:Xs G true B σ (.nx τ))(hF:Xs G true (f::F) τ o):Xt G true (.Try B [] [] (f::F) p) σ o:=fun A K oa g s Q P E X k=>by
 refine wpAny_Try_finally (hB A K oa g s _ _ _ X fun oa g s X=>QG (hF A K oa g s _ _ _ X ?_))
 cases o with
 |nx τ=>exact k
 |ex d τ=>exact fun oa g s e x=>Ab.back x.S x.M X.hf x.x fun s' S' M' x'=>(Xx.mk S' M' x').again X.hf (k _ _ _ _ ⟨S',M',x'⟩)
noncomputable def XO.exn:XO→XO
 | .nx σ=> .ex true σ
 |o=>o
theorem QOY{B F:List Stmt}{f:Stmt}{p:Pos}(hB:Xs G true B σ (.ex true τ))(hF:Xs G false (f::F) τ o):Xt G true (.Try B [] [] (f::F) p) σ o.exn:=fun A K oa g s Q P E X k=>by
 refine wpAny_Try_finally (hB A K oa g s _ _ _ X fun oa g s e x=>⟨ref_ne_byPass _,x.x.again X.hf (Ab.flight x.S x.M (wh:=none) x.x fun s3 S3 M3 x3=>?_)⟩)
 refine hF (A.mark (some (.ref e))) K oa g s3 _ _ _ ⟨X.hf,X.hfr,X.R.mark (Qf _) _,S3.mark _,M3,e,_,rfl,x3⟩ ?_
 cases o with
 |nx τ=>
  intro oa g s Y
  refine QB0 Y.hd fun h fl hh y=>?_
  cases hh
  exact Ab.pass Y.S.unmark Y.M X.hf y fun s3 S3 M3 x3=>x3.again X.hf (k _ _ _ _ ⟨S3,M3,x3⟩)
 |ex d τ=>exact fun oa g s e x=>Ab.back x.S x.M X.hf x.x fun s' S' M' x'=>x'.again X.hf (k _ _ _ _ ⟨S'.unmark,M',x'⟩)
end
noncomputable def QTt:List Stmt→List Stmt×List ExceptHandler
 | .Try b h _ _ _::_=>(b,h)
 |_=>([],[])
noncomputable def QRz:List Stmt×List ExceptHandler:=QTt (lp (fnBody 4) 0).2
noncomputable def s4(X Y:List D)(I J:Nat)(m u:List D)(l:List (Str×D)):PS:=
 ⟨⟨QAa 4,(nm "i",.int (I:Nat))::(nm "j",.int (J:Nat))::(nm "expected",.list X)::(nm "actual",.list Y)::l⟩,[(nm "unexpected",u),(nm "missing",m)]⟩
inductive QF8:List Int→List Int→List Int→List Int→List Int→List Int→List Int→List Int→Prop
 |lt {x y xs ys m u}:x<y→QF8 (x::xs) (y::ys) m u (skip x xs) (y::ys) (m++[x]) u
 |gt {x y xs ys m u}:y<x→QF8 (x::xs) (y::ys) m u (x::xs) (skip y ys) m (u++[y])
 |eq {x xs ys m u}:QF8 (x::xs) (x::ys) m u (skip x xs) (skip x ys) m u
theorem QEA{l:List Int}{k:Nat}(h:l.length≤k):l.drop k=[]:=List.drop_of_length_le h
theorem QFm{l:List Int}{k:Nat}(h:k<l.length):l.drop k=l[k]::l.drop (k+1):=List.drop_eq_getElem_cons h
theorem swp{a b:Str}{x y:List D}(h:a≠b)(z:Str):List.lookup z [(a,x),(b,y)]=List.lookup z [(b,y),(a,x)]:=by
 rw [Qt,Qt,Qt,Qt]
 cases p:z==a with
 |false=>cases q:z==b<;>rfl
 |true=>cases q:z==b with
  |false=>rfl
  |true=>exact absurd ((eq_of_beq p).symm.trans (eq_of_beq q)) h
section
variable {prog:QV}{w:QX}{G:Gd prog w}{N:Nat}{c:Bool}
theorem QBH{x:Str}{pos:Pos}{ρ:PE}{d:D}(hp:plainName x=true)(hk:ρ.kind x=some .local)(h:ρ.get x=some d):QAW G N (.Name x pos) ρ d:=
 QG5 (C:=fun _=>none) (fun _ _ h=>nomatch h) hp (by rw [hk];exact h)
theorem at9{arr idx:Str}{p1 p2 p3:Pos}{σ:PS}{f:Int→D}{L:List Int}{k:Nat}(pa:plainName arr=true)(pi:plainName idx=true)(ka:σ.ρ.kind arr=some .local)(ki:σ.ρ.kind idx=some .local)(ga:σ.ρ.get arr=some (.list (L.map f)))(gi:σ.ρ.get idx=some (.int (k:Nat)))(hk:k<L.length)(hl:L.length≤1000):
  QAW G N (.Subscript (.Name arr p1) (.Name idx p2) p3) σ.ρ (f L[k]):=
 QMH (QBH pa ka ga) (QBH pi ki gi) (QGW (by rw [Qs];exact hl) (QAC _) (by rw [QAD,Q7,List.getElem?_eq_getElem hk];rfl))
theorem skp{arr idx key:Str}{p1 p2 p3 p4 p5 p6 p7 p8:Pos}{kk:Nat}{f:Int→D}{l:List Int}{x:Int}{τ:Nat→PS}(pa:plainName arr=true)(pi:plainName idx=true)(pk:plainName key=true)
  (ka:∀k,(τ k).ρ.kind arr=some .local) (ki:∀k,(τ k).ρ.kind idx=some .local) (kk':∀k,(τ k).ρ.kind key=some .local) (ga:∀k,(τ k).ρ.get arr=some (.list (l.map f))) (gi:∀k,(τ k).ρ.get idx=some (.int (k:Nat))) (gk:∀k,(τ k).ρ.get key=some (f x))
  (nx:∀k,SLe (τ (k+1)) ((τ k).put idx (.int ((k:Nat)+1)))) (hl:l.length≤1000) (inj:∀a∈l,QA8 .Eq (f a) (f x)=some (decide (a=x))):∀n k:Nat,l.length-k=n→k≤l.length→
  (∃k',k'<l.length∧l.drop k'=skip x (l.drop k)∧Xw G c (.Compare (.Subscript (.Name arr p1) (.Name idx p2) p3) [.Eq] [.Name key p4] p5) [.AugAssign (.Name idx p6) .Add (.Constant (.int 1) kk p7) p8] (τ k) (.nx (τ k')))∨
  (skip x (l.drop k)=[]∧Xw G c (.Compare (.Subscript (.Name arr p1) (.Name idx p2) p3) [.Eq] [.Name key p4] p5) [.AugAssign (.Name idx p6) .Add (.Constant (.int 1) kk p7) p8] (τ k) (.ex c (τ l.length))):=by
 intro n
 induction n with
 |zero=>
  intro k hn hk
  cases Qk hk (Nat.sub_eq_zero_iff_le.mp hn)
  exact .inr ⟨by rw [QEA (Qf _)];rfl,QR6 pa pi rfl (ga _) (gi _) (by rw [Qs];exact Qf _) (Qj hl (by decide))⟩
 |succ n ih=>
  intro k hn hk
  have h:k<l.length:=Nat.lt_of_sub_pos (hn▸Nat.succ_pos n)
  have t:QAl G 9 (.Compare (.Subscript (.Name arr p1) (.Name idx p2) p3) [.Eq] [.Name key p4] p5) (τ k).ρ (decide (l[k]=x)):=QF9 rfl (at9 pa pi (ka k) (ki k) (ga k) (gi k) h hl) (QGH (by decide) (QBH pk (kk' k) (gk k)) (inj _ (List.getElem_mem h)))
  have e:=QFm h
  by_cases q:l[k]=x
  ·rw [decide_eq_true q] at t
   have st:QCG G 9 [.AugAssign (.Name idx p6) .Add (.Constant (.int 1) kk p7) p8] (τ k) (.next ((τ k).put idx (.int ((k:Nat)+1)))):=QBZ (QEG (by unfold storable;rw [ki];rfl) pi (gi k) (constOk rfl)) QEu
   have e2:skip x (l.drop k)=skip x (l.drop (k+1)):=by rw [e];exact if_pos q
   rw [e2]
   refine Or.elim (ih (k+1) (by rw [Nat.sub_succ,hn];rfl) h) (QCm fun k' h1 h2 h3=>?_) (rA fun h2 h3=>?_)
   ·exact .inl ⟨k',h1,h2,QMS t st (h3.inn (nx k))⟩
   ·exact .inr ⟨h2,QMS t st (h3.inn (nx k))⟩
  ·rw [decide_eq_false q] at t
   exact .inl ⟨k,h,by rw [e];exact (if_neg q).symm,QP2 t⟩
end
noncomputable def Tn(f:Int→D)(X Y:List Int)(I J:Nat)(m u:List Int)(o:XO):Prop:=∃I' J' m' u',I'≤X.length∧J'≤Y.length∧match o with
 | .nx τ=>τ=s4 (X.map f) (Y.map f) I' J' (m'.map f) (u'.map f) []∧QF8 (X.drop I) (Y.drop J) m u (X.drop I') (Y.drop J') m' u'
 | .ex _ τ=>τ=s4 (X.map f) (Y.map f) I' J' (m'.map f) (u'.map f) []∧((I'=I∧J'=J∧m'=m∧u'=u)∨QF8 (X.drop I) (Y.drop J) m u (X.drop I') (Y.drop J') m' u')∧(X.drop I'=[]∨Y.drop J'=[])
section
variable {prog:QV}{w:QX}{G:Gd prog w}{N:Nat}{c:Bool}
theorem QJp(hN:1≤N){x y:Str}{op:CmpOp}{p1 p2 p3:Pos}{ρ:PE}{a b:D}{v:Bool}(hm:lastMarks [op] [.Name y p2]=false)(px:plainName x=true)(py:plainName y=true)(kx:ρ.kind x=some .local)(ky:ρ.kind y=some .local)(gx:ρ.get x=some a)(gy:ρ.get y=some b)(h:QA8 op a b=some v):
  QAl G N (.Compare (.Name x p1) [op] [.Name y p2] p3) ρ v:=QF9 hm (QBH px kx gx) (QGH hN (QBH py ky gy) h)
theorem QQe{x y:Str}{xp ap cp p yp:Pos}{σ:PS}{ds:List D}{d:D}(px:plainName x=true)(py:plainName y=true)(hline:(ap.endLine==cp.line)=true)(ky:σ.ρ.kind y=some .local)(gy:σ.ρ.get y=some d)(ho:σ.os.lookup x=some ds)(hl:ds.length≤1000):
  StK G N (.Expr (.Call (.Attribute (.Name x xp) (nm "append") ap) [.Name y yp] [] cp) p) σ (σ.setOwn x (ds++[d])):=
 QQs px rfl hline ho (QBH py ky gy) _ _ PySem.F.slot_list_append PySem.F.type_list_append fun _ _ _ _ _ _ _ _ _ _ S dv kk=>S.appendOwn ho hl dv kk
theorem QTR{x y:Str}{xp ap cp p yp:Pos}{σ:PS}{ds:List D}{d:D}(px:plainName x=true)(py:plainName y=true)(hline:(ap.endLine==cp.line)=true)(ky:σ.ρ.kind y=some .local)(gy:σ.ρ.get y=some d)(ho:σ.os.lookup x=some ds)(hl:ds.length≤1000):
  QC7 G N (.Expr (.Call (.Attribute (.Name x xp) (nm "append") ap) [.Name y yp] [] cp) p) σ (.next (σ.setOwn x (ds++[d]))):=(QQe px py hline ky gy ho hl).to
theorem grown(f:Int→D)(m:List Int)(x:Int):m.map f++[f x]=(m++[x]).map f:=(Qv (l₂:=[x])).symm
noncomputable def Xe(G:Gd prog w)(T:XO→Prop)(b:List Stmt)(σ:PS):Prop:=∃o,Xs G true b σ o∧T o
theorem SLe.by_{sh τ:PS}(h:okS sh τ=((sh.ρ.sc=sh.ρ.sc∧sh.gs=sh.gs)∧sh.os=sh.os)):SLe sh τ:= .of (QAZ (okr sh) h)
theorem QGe{T:XO→Prop}{st:Stmt}{r:List Stmt}{σ τ:PS}(sh:PS)(h:QC7 G 9 st σ (.next τ))(L:SLe sh τ):Xe G T r sh→Xe G T (st::r) σ:=fun ⟨o,h2,t⟩=>⟨o,QNX h (h2.inn L),t⟩
theorem QRB{T:XO→Prop}{t:Expr}{B C:List Stmt}{p:Pos}{b:Bool}{σ:PS}(h:QAl G 9 t σ.ρ b):Xe G T (if b=true then B else C) σ→Xe G T [.If t B C p] σ:=fun ⟨o,h2,q⟩=>⟨o,QCd (QTG h h2),q⟩
theorem QNp{T:XO→Prop}{r:List Stmt}{x arr idx:Str}{xp p p1 p2 p3:Pos}{σ:PS}{f:Int→D}{l:List Int}{k:Nat}(sh:PS)(L:okS sh σ=((sh.ρ.sc=sh.ρ.sc∧sh.gs=sh.gs)∧sh.os=sh.os))(pa:plainName arr=true)(pi:plainName idx=true)(ga:σ.ρ.get arr=some (.list (l.map f)))(gi:σ.ρ.get idx=some (.int (k:Nat)))(hk:l.length≤k)(hk2:k≤1000)(h:T (.ex true sh)):
  Xe G T (.Assign [.Name x xp] (.Subscript (.Name arr p1) (.Name idx p2) p3) p::r) σ:=⟨_,(QOH (QRq pa pi ga gi (by rw [Qs];exact hk) (Qj hk2 (by decide)))).ex (.by_ L),h⟩
noncomputable abbrev sE(f:Int→D)(X Y:List Int)(I J:Nat)(m u:List Int)(l:List (Str×D)):PS:=s4 (X.map f) (Y.map f) I J (m.map f) (u.map f) l
theorem PLe.by_{sh:PS}{ρ:PE}(h:okE sh ρ=(sh.ρ.sc=sh.ρ.sc∧sh.gs=sh.gs)):PLe sh.ρ ρ:= .of (QAZ (oke sh) h)
theorem QSj{X Y m u m' ds:List D}{I J:Nat}{d e:D}(h:ds=m'):SLe (s4 X Y I J m' u [(nm "e",d),(nm "a",e)]) ((s4 X Y I J m u [(nm "e",d),(nm "a",e)]).setOwn (nm "missing") ds):=by subst h;exact ⟨.by_ (by kernel_rfl),fun z=>swp (by decide) z⟩
theorem QTb{X Y m u u' ds:List D}{I J:Nat}{d e:D}(h:ds=u'):SLe (s4 X Y I J m u' [(nm "e",d),(nm "a",e)]) ((s4 X Y I J m u [(nm "e",d),(nm "a",e)]).setOwn (nm "unexpected") ds):=by subst h;exact .by_ (by kernel_rfl)
section
variable {f:Int→D}{X Y m u m' u':List Int}{I J I' J':Nat}{σ:PS}{b:List Stmt}
theorem QOj(I' J':Nat)(m' u':List Int){τ:PS}(h:Xs G true b σ (.nx τ))(L:SLe (sE f X Y I' J' m' u' []) τ)(h1:I'≤X.length)(h2:J'≤Y.length)(h3:QF8 (X.drop I) (Y.drop J) m u (X.drop I') (Y.drop J') m' u'):Xe G (Tn f X Y I J m u) b σ:=⟨_,h.nx L,I',J',m',u',h1,h2,rfl,h3⟩
theorem QKP(I' J':Nat)(m' u':List Int){τ:PS}{d:Bool}(h:Xs G true b σ (.ex d τ))(L:SLe (sE f X Y I' J' m' u' []) τ)(h1:I'≤X.length)(h2:J'≤Y.length){a b':List Int}(h3:QF8 (X.drop I) (Y.drop J) m u a b' m' u')(ea:a=X.drop I')(eb:b'=Y.drop J')(hn:X.drop I'=[]∨Y.drop J'=[]):Xe G (Tn f X Y I J m u) b σ:=⟨_,h.ex L,I',J',m',u',h1,h2,rfl,.inr (by subst ea eb;exact h3),hn⟩
end
theorem turn{f:Int→D}{X Y m u:List Int}{I J:Nat}(hX:X.length≤1000)(hY:Y.length≤1000)(hm:m.length≤1000)(hu:u.length≤1000)(hI:I≤X.length)(hJ:J≤Y.length)
  (hlt:∀a∈X,∀b∈Y,QA8 .Lt (f a) (f b)=some (decide (a<b))) (hgt:∀a∈X,∀b∈Y,QA8 .Gt (f a) (f b)=some (decide (b<a))) (hqX:∀a∈X,∀b∈X,QA8 .Eq (f a) (f b)=some (decide (a=b))) (hqY:∀a∈Y,∀b∈Y,QA8 .Eq (f a) (f b)=some (decide (a=b))):
  Xe G (Tn f X Y I J m u) QRz.1 (sE f X Y I J m u []):=by
 have lm:∀{l:List Int},l.length≤1000→(l.map f).length≤1000:=fun h=>by rw [Qs];exact h
 by_cases hi:I<X.length
 case neg=>
  have hi:=Nat.le_of_not_lt hi
  exact QNp (f:=f) (l:=X) (sE f X Y I J m u []) (by kernel_rfl) (by decide) (by decide) (by kernel_rfl) (by kernel_rfl) hi (Qd hI hX) ⟨I,J,m,u,hI,hJ,rfl,.inl ⟨rfl,rfl,rfl,rfl⟩,.inl (QEA hi)⟩
 refine QGe (sE f X Y I J m u [(nm "e",f X[I])]) (QCJ (by kernel_rfl) rfl (.of rfl (at9 (f:=f) (L:=X) (by decide) (by decide) (by kernel_rfl) (by kernel_rfl) (by kernel_rfl) (by kernel_rfl) hi hX))) (.by_ (by kernel_rfl)) ?_
 by_cases hj:J<Y.length
 case neg=>
  have hj:=Nat.le_of_not_lt hj
  exact QNp (f:=f) (l:=Y) (sE f X Y I J m u []) (by kernel_rfl) (by decide) (by decide) (by kernel_rfl) (by kernel_rfl) hj (Qd hJ hY) ⟨I,J,m,u,hI,hJ,rfl,.inl ⟨rfl,rfl,rfl,rfl⟩,.inr (QEA hj)⟩
 refine QGe (sE f X Y I J m u [(nm "e",f X[I]),(nm "a",f Y[J])]) (QCJ (by kernel_rfl) rfl (.of rfl (at9 (f:=f) (L:=Y) (by decide) (by decide) (by kernel_rfl) (by kernel_rfl) (by kernel_rfl) (by kernel_rfl) hj hY))) (.by_ (by kernel_rfl)) ?_
 have mX:X[I]∈X:=List.getElem_mem hi
 have mY:Y[J]∈Y:=List.getElem_mem hj
 have dX:=QFm hi
 have dY:=QFm hj
 have nX:X.drop X.length=[]:=QEA (Qf _)
 have nY:Y.drop Y.length=[]:=QEA (Qf _)
 have skI:=fun {p1 p2 p3 p4 p5 p6 p7 p8:Pos} {kk:Nat} (m u:List Int)=>skp (G:=G) (c:=true) (f:=f) (l:=X) (x:=X[I]) (τ:=fun k=>sE f X Y k J m u [(nm "e",f X[I]),(nm "a",f Y[J])]) (arr:=nm "expected") (idx:=nm "i") (key:=nm "e") (p1:=p1) (p2:=p2) (p3:=p3) (p4:=p4) (p5:=p5) (p6:=p6) (p7:=p7) (p8:=p8) (kk:=kk) (by decide) (by decide) (by decide) (fun _=>by kernel_rfl) (fun _=>by kernel_rfl) (fun _=>by kernel_rfl) (fun _=>by kernel_rfl) (fun _=>by kernel_rfl) (fun _=>by kernel_rfl) (fun _=> .by_ (by kernel_rfl)) hX (fun a ha=>hqX a ha _ mX) _ (I+1) rfl hi
 have skJ:=fun {c:Bool} {p1 p2 p3 p4 p5 p6 p7 p8:Pos} {kk:Nat} (I':Nat) (m u:List Int)=>skp (G:=G) (c:=c) (f:=f) (l:=Y) (x:=Y[J]) (τ:=fun k=>sE f X Y I' k m u [(nm "e",f X[I]),(nm "a",f Y[J])]) (arr:=nm "actual") (idx:=nm "j") (key:=nm "a") (p1:=p1) (p2:=p2) (p3:=p3) (p4:=p4) (p5:=p5) (p6:=p6) (p7:=p7) (p8:=p8) (kk:=kk) (by decide) (by decide) (by decide) (fun _=>by kernel_rfl) (fun _=>by kernel_rfl) (fun _=>by kernel_rfl) (fun _=>by kernel_rfl) (fun _=>by kernel_rfl) (fun _=>by kernel_rfl) (fun _=> .by_ (by kernel_rfl)) hY (fun a ha=>hqY a ha _ mY) _ (J+1) rfl hj
 refine QRB (QJp (by decide) rfl (by decide) (by decide) (by kernel_rfl) (by kernel_rfl) (by kernel_rfl) (by kernel_rfl) (hlt _ mX _ mY)) ?_
 by_cases h1:X[I]<Y[J]
 ·rw [decide_eq_true h1]
  refine QGe (sE f X Y I J (m++[X[I]]) u [(nm "e",f X[I]),(nm "a",f Y[J])]) (QTR (d:=f X[I]) (ds:=m.map f) (by decide) (by decide) rfl (by kernel_rfl) (by kernel_rfl) (by kernel_rfl) (lm hm)) (QSj (grown f m X[I])) ?_
  refine QGe (sE f X Y (I+1) J (m++[X[I]]) u [(nm "e",f X[I]),(nm "a",f Y[J])]) (QEG (i:=(I:Nat)) (j:=1) (by kernel_rfl) (by decide) (by kernel_rfl) (constOk rfl)) (.by_ (by kernel_rfl)) ?_
  have st:=QF8.lt (xs:=X.drop (I+1)) (ys:=Y.drop (J+1)) (m:=m) (u:=u) h1
  rw [←dX,←dY] at st
  rcases skI (m++[X[I]]) u with ⟨k',q1,q2,q3⟩|⟨q2,q3⟩
  ·exact QOj k' J _ _ (QCd (QBd q3)) (.by_ (by kernel_rfl)) (Qo q1) hJ (by rw [q2];exact st)
  ·exact QKP X.length J _ _ (QCd (QBd q3)) (.by_ (by kernel_rfl)) (Qf _) hJ st (by rw [q2,nX]) rfl (.inl nX)
 rw [decide_eq_false h1]
 refine QRB (QJp (by decide) rfl (by decide) (by decide) (by kernel_rfl) (by kernel_rfl) (by kernel_rfl) (by kernel_rfl) (hgt _ mX _ mY)) ?_
 by_cases h2:Y[J]<X[I]
 ·rw [decide_eq_true h2]
  refine QGe (sE f X Y I J m (u++[Y[J]]) [(nm "e",f X[I]),(nm "a",f Y[J])]) (QTR (d:=f Y[J]) (ds:=u.map f) (by decide) (by decide) rfl (by kernel_rfl) (by kernel_rfl) (by kernel_rfl) (lm hu)) (QTb (grown f u Y[J])) ?_
  refine QGe (sE f X Y I (J+1) m (u++[Y[J]]) [(nm "e",f X[I]),(nm "a",f Y[J])]) (QEG (i:=(J:Nat)) (j:=1) (by kernel_rfl) (by decide) (by kernel_rfl) (constOk rfl)) (.by_ (by kernel_rfl)) ?_
  have st:=QF8.gt (xs:=X.drop (I+1)) (ys:=Y.drop (J+1)) (m:=m) (u:=u) h2
  rw [←dX,←dY] at st
  rcases skJ (c:=true) I m (u++[Y[J]]) with ⟨k',q1,q2,q3⟩|⟨q2,q3⟩
  ·exact QOj I k' _ _ (QCd (QBd q3)) (.by_ (by kernel_rfl)) hI (Qo q1) (by rw [q2];exact st)
  ·exact QKP I Y.length _ _ (QCd (QBd q3)) (.by_ (by kernel_rfl)) hI (Qf _) st rfl (by rw [q2,nY]) (.inr nY)
 rw [decide_eq_false h2]
 have heq:Y[J]=X[I]:=QAH (QAN.mp h1) (QAN.mp h2)
 refine QGe (sE f X Y (I+1) J m u [(nm "e",f X[I]),(nm "a",f Y[J])]) (QEG (i:=(I:Nat)) (j:=1) (by kernel_rfl) (by decide) (by kernel_rfl) (constOk rfl)) (.by_ (by kernel_rfl)) ?_
 have st:QF8 (X.drop I) (Y.drop J) m u (skip X[I] (X.drop (I+1))) (skip Y[J] (Y.drop (J+1))) m u:=by rw [dX,dY,heq];exact .eq
 have aj:∀{k:Nat} {p p1 p2:Pos} {kk:Nat},QC7 G 9 (.AugAssign (.Name (nm "j") p) .Add (.Constant (.int 1) kk p1) p2) (sE f X Y k J m u [(nm "e",f X[I]),(nm "a",f Y[J])]) (.next ((sE f X Y k J m u [(nm "e",f X[I]),(nm "a",f Y[J])]).put (nm "j") (.int ((J:Nat)+1)))):=QEG (by kernel_rfl) (by decide) (by kernel_rfl) (constOk rfl)
 have lj:∀{k:Nat},SLe (sE f X Y k (J+1) m u [(nm "e",f X[I]),(nm "a",f Y[J])]) ((sE f X Y k J m u [(nm "e",f X[I]),(nm "a",f Y[J])]).put (nm "j") (.int ((J:Nat)+1))):= .by_ (by kernel_rfl)
 rcases skI m u with ⟨k',q1,q2,q3⟩|⟨q2,q3⟩
 ·rcases skJ (c:=true) k' m u with ⟨k2,r1,r2,r3⟩|⟨r2,r3⟩
  ·exact QOj k' k2 _ _ (QCd (QNM (QCd (QBd q3)) (QNX aj ((QCd (QBd r3)).inn lj)))) (.by_ (by kernel_rfl)) (Qo q1) (Qo r1) (by rw [q2,r2];exact st)
  ·exact QKP k' Y.length _ _ (QCd (QNM (QCd (QBd q3)) (QNX aj ((QCd (QBd r3)).inn lj)))) (.by_ (by kernel_rfl)) (Qo q1) (Qf _) st q2.symm (by rw [r2,nY]) (.inr nY)
 ·rcases skJ (c:=false) X.length m u with ⟨k2,r1,r2,r3⟩|⟨r2,r3⟩
  ·exact QKP X.length k2 _ _ (QCd (QOY (QCd (QBd q3)) (QNX aj ((QCd (QBd r3)).inn lj)))) (.by_ (by kernel_rfl)) (Qf _) (Qo r1) st (by rw [q2,nX]) r2.symm (.inl nX)
  ·exact QKP X.length Y.length _ _ (QCd (QOY (QCd (QBd q3)) (QNX aj ((QCd (QBd r3)).inn lj)))) (.by_ (by kernel_rfl)) (Qf _) (Qf _) st (by rw [q2,nX]) (by rw [r2,nY]) (.inl nX)
end
theorem QRc:isSubtype (.type "IndexError") (.type "IndexError")=pure true:=by rw [isSubtype_type];kernel_rfl
theorem QR8:isSubtype (.type "IndexError") (.type "BaseException")=pure true:=by rw [isSubtype_type];kernel_rfl
theorem QR5:isSubtype (.type ((Manifest.find? "IndexError").elim "type" fun x=>x.metatype)) (.type "tuple")=pure false:=by
 have:((Manifest.find? "IndexError").elim "type" fun x=>x.metatype)="type":=by decide+kernel
 rw [this,isSubtype_type];kernel_rfl
section
variable {prog:QV}{w:QX}{G:Gd prog w}{N:Nat}{A:QT}{K:RnF}{X Y m u:List D}{I J:Nat}{d e:D}{oa:Str→QW}{g:Fz}{s:QR}{c:Bool}{σ τ:PS}
theorem QSc{x arr idx:Str}{xp ap cp p p1 p2 p3 p4:Pos}{σ:PS}{ds L:List D}{k:Nat}(px:plainName x=true)(hline:(ap.endLine==cp.line)=true)(pa:plainName arr=true)(pi:plainName idx=true)(ka:σ.ρ.kind arr=some .local)(ki:σ.ρ.kind idx=some .local)(ga:σ.ρ.get arr=some (.list L))(gi:σ.ρ.get idx=some (.int (k:Nat)))(ho:σ.os.lookup x=some ds)(hl:ds.length≤1000)(hL:L.length≤1000):
  QC7 G N (.Expr (.Call (.Attribute (.Name x xp) (nm "extend") ap) [.Subscript (.Name arr p1) (.Slice (some (.Name idx p2)) none none p3) p4] [] cp) p) σ (.next (σ.setOwn x (ds++L.drop k))):=
 have h:QDy (.list L) (.int (k:Nat)) .none .none=some (.list (L.drop k)):=(if_pos ⟨hL,QAC _⟩).trans (by rw [QAD])
 QHL px rfl hline ho (QGk (lo:=some (.Name idx p2)) (hi:=none) (st:=none) (l:= .int (k:Nat)) (t:= .none) (u:= .none) (QBH pa ka ga) (show QAW G N _ _ _ from QBH pi ki gi) rfl rfl h) _ _ PySem.F.slot_list_extend PySem.F.type_list_extend
  fun _ _ _ _ _ _ _ _ _ _ S dv kk=>S.extendOwn ho hl (Qd (by rw [List.length_drop];exact Nat.sub_le _ _) hL) dv kk
theorem QSq{m':List D}:SLe (s4 X Y I J m' u []) ((s4 X Y I J m u []).setOwn (nm "missing") m'):=⟨.by_ (by kernel_rfl),fun z=>swp (by decide) z⟩
theorem handled{C:QCl}(hC:COk G C)(hCi:C (nm "IndexError")=some (.typ "IndexError"))(hX:X.length≤1000)(hY:Y.length≤1000)(hm:m.length≤1000)(hu:u.length≤1000){e:QW}{Q:Flow→QR→Prop}{E:QS→QR→Prop}
  (hf:K.env.frame=some K.env.locals) (hfr:∃fr,A.frames=some (K.env::fr)) (R:Rm A 9) (hd:A.handled=none) (x:Xx G A K c (s4 X Y I J m u []) oa g s e)
  (k:∀oa g s,Cx G A K true (s4 X Y I J (m++X.drop I) (u++Y.drop J) []) oa g s→Q .brk s):
  Qa (model prog w) A (setFlight (.ref e) none) (fun _ s₃=>Qa (model prog w) A (handleBy (.ref e) K.env QRz.2) Q E s₃) E s:=by
 refine Ab.flight x.S x.M (wh:=none) x.x fun s2 S2 M2 x2=>?_
 generalize hh:QRz.2=hs
 conv at hh=>lhs;whnf
 subst hh
 refine wpAny_handleBy_builtin (X:="IndexError") (T:="IndexError") (b:=true) QR8 QR5 QRc ?_
 refine QE0 (hC _ _ hCi) fun hdb v dv hv=>?_
 cases dv.out
 refine QM (QAw (S2.mark _).vw (by kernel_rfl) hv ?_) hdb
 refine QBh x2.ex fun ob vs tb otb tvs=>rAA fun h1 h2 _=>?_
 refine ⟨rfl,⟨ob,h1,h2⟩,?_⟩
 rw [if_pos rfl]
 refine Ab.flight S2 M2 (wh:=none) x2 fun s3 S3 M3 x3=>?_
 have R9:Rm (A.mark (some (.ref e))) 9:=R.mark (Qf _) _
 refine QD (QSc (k:=I) (L:=X) (ds:=m) (by decide) rfl (by decide) (by decide) (by kernel_rfl) (by kernel_rfl) (by kernel_rfl) (by kernel_rfl) (by kernel_rfl) hm hX _ K.env _ _ oa g s3 _ _ R9 (S3.mark _) fun g4 s4 oa4 S4 M4=>?_)
 refine QD (QSc (k:=J) (L:=Y) (ds:=u) (by decide) rfl (by decide) (by decide) (by kernel_rfl) (by kernel_rfl) (by kernel_rfl) (by kernel_rfl) (by kernel_rfl) hu hY _ K.env _ _ oa4 g4 s4 _ _ R9 (S4.weak QSq) fun g5 s5 oa5 S5 M5=>?_)
 have L:SLe (KQ.s4 X Y I J (m++X.drop I) (u++Y.drop J) []) ((KQ.s4 X Y I J (m++X.drop I) u []).setOwn (nm "unexpected") (u++Y.drop J)):= .by_ (by kernel_rfl)
 exact QD (wpAny_Break (k oa5 g5 s5 ⟨hf,hfr,R,(S5.weak L).unmark,((M3.trans (M4.out QSq)).trans M5).out L,hd⟩))
end
theorem QC3{figs:List Int}(hL:LOk figs.length)(hf:∀f∈figs,0≤f∧f<64){c d:Int}(hc:0≤c∧c<2^lettersOf figs)(hd:0≤d∧d<2^lettersOf figs):
  QA8 .Lt (QAd figs c) (QAd figs d)=some (decide (c<d))∧QA8 .Gt (QAd figs c) (QAd figs d)=some (decide (d<c))∧QA8 .Eq (QAd figs c) (QAd figs d)=some (decide (c=d)):=by
 have lt:∀{a b:Int},(0≤a∧a<2^lettersOf figs)→(0≤b∧b<2^lettersOf figs)→bLt (QAz figs a).toList (QAz figs b).toList=decide (a<b):=by
  intro a b ha hb
  rcases Int.lt_trichotomy a b with h|h|h
  ·rw [QEQ hL hf ha.1 h hb.2,decide_eq_true h]
  ·subst h;rw [QDh,decide_eq_false (Int.lt_irrefl _)]
  ·rw [QFc (QEQ hL hf hb.1 h ha.2),decide_eq_false (by exact QAN.mpr (zi1 [_,_] 1 (.v 0) (.v 1) 1 (.a (.v 0) (.n 1)) (.v 1) rfl h))]
 refine ⟨congrArg some (lt hc hd),congrArg some (lt hd hc),?_⟩
 show some (QAz figs c==QAz figs d)=_
 congr 1
 by_cases h:c=d
 ·subst h;simp
 ·rw [decide_eq_false h]
  have hne:QAz figs c≠QAz figs d:=by
   intro e
   rcases Int.lt_or_gt_of_ne h with q|q
   ·have:=QEQ hL hf hc.1 q hd.2
    rw [e,QDh] at this;cases this
   ·have:=QEQ hL hf hd.1 q hc.2
    rw [e,QDh] at this;cases this
  simpa using hne
theorem QQp{xs ys m u xs' ys' m' u':List Int}(h:QF8 xs ys m u xs' ys' m' u')(hx:Srt xs)(hy:Srt ys):Srt xs'∧Srt ys'∧m'++QBy [] ys' xs'=m++QBy [] ys xs∧u'++QBy [] xs' ys'=u++QBy [] xs ys∧
  xs'.length+ys'.length<xs.length+ys.length∧m'.length+u'.length+xs'.length+ys'.length≤m.length+u.length+xs.length+ys.length:=by
 induction h with
 | @lt x y xs ys m u h=>
  have:=QEF (x:=x) (l:=xs)
  refine ⟨QDO (Q4.mp hx).2,hy,?_,?_,by simp only [Qz];exact zn1 [_,_,_] 1 (.a (.a (.v 0) (.a (.v 1) (.n 1))) (.n 1)) (.a (.a (.v 2) (.n 1)) (.a (.v 1) (.n 1))) 1 (.v 0) (.v 2) rfl this,by simp only [Qz,Qu,List.length_nil];exact zn1 [_,_,_,_,_] 1 (.a (.a (.a (.a (.v 0) (.a (.n 0) (.n 1))) (.v 1)) (.v 2)) (.a (.v 3) (.n 1))) (.a (.a (.a (.v 0) (.v 1)) (.a (.v 4) (.n 1))) (.a (.v 3) (.n 1))) 1 (.v 2) (.v 4) rfl this⟩
  ·rw [QQr hx hy h,Q5];rfl
  ·rw [QQz hx hy h]
 | @gt x y xs ys m u h=>
  have:=QEF (x:=y) (l:=ys)
  refine ⟨hx,QDO (Q4.mp hy).2,?_,?_,by simp only [Qz];exact zn1 [_,_,_] 1 (.a (.a (.a (.v 0) (.n 1)) (.v 1)) (.n 1)) (.a (.a (.v 0) (.n 1)) (.a (.v 2) (.n 1))) 1 (.v 1) (.v 2) rfl this,by simp only [Qz,Qu,List.length_nil];exact zn1 [_,_,_,_,_] 1 (.a (.a (.a (.v 0) (.a (.v 1) (.a (.n 0) (.n 1)))) (.a (.v 2) (.n 1))) (.v 3)) (.a (.a (.a (.v 0) (.v 1)) (.a (.v 2) (.n 1))) (.a (.v 4) (.n 1))) 1 (.v 3) (.v 4) rfl this⟩
  ·rw [QQz hy hx h]
  ·rw [QQr hy hx h,Q5];rfl
 | @eq x xs ys m u=>
  have:=QEF (x:=x) (l:=xs)
  have:=QEF (x:=x) (l:=ys)
  refine ⟨QDO (Q4.mp hx).2,QDO (Q4.mp hy).2,?_,?_,by simp only [Qz];omega,by simp only [Qz];omega⟩
  ·rw [QRC hx hy]
  ·rw [QRC hy hx]
theorem QNg{m xs ys:List Int}(h:xs=[]∨ys=[]):m++QBy [] ys xs=m++xs:=by
 rcases h with rfl|rfl
 ·rfl
 ·rw [QLo]
structure Iv (one two:List Int)(I J:Nat)(m u:List Int):Prop where
 sx:Srt (one.drop I)
 sy:Srt (two.drop J)
 e1:m++QBy [] (two.drop J) (one.drop I)=QAx one two
 e2:u++QBy [] (one.drop I) (two.drop J)=QAx two one
 le:m.length+u.length+(one.drop I).length+(two.drop J).length≤1000
theorem Iv.step{one two:List Int}{I J I' J':Nat}{m u m' u':List Int}(h:Iv one two I J m u)(st:QF8 (one.drop I) (two.drop J) m u (one.drop I') (two.drop J') m' u'):Iv one two I' J' m' u'∧(one.drop I').length+(two.drop J').length<(one.drop I).length+(two.drop J).length:=by
 refine QQv (QQp st h.sx h.sy) fun q1 q2 q3 q4=>rA fun q5 q6=>?_
 exact ⟨⟨q1,q2,q3.trans h.e1,q4.trans h.e2,Qd q6 h.le⟩,q5⟩
theorem Iv.lm{one two:List Int}{I J:Nat}{m u:List Int}(h:Iv one two I J m u):m.length≤1000∧u.length≤1000:=by
 have:=Qd (Qd (Qg _ _) (Qg _ _)) h.le
 exact ⟨Qd (Qg _ _) this,Qd (Nat.le_add_left _ _) this⟩
section
variable {prog:QV}{w:QX}{G:Gd prog w}{N:Nat}{t:Expr}{b:List Stmt}{σ τ ρ:PS}{o:XO}
theorem QKa{k:Nat}{p:Pos}{ρ:PE}:QAl G N (.Constant (.bool true) k p) ρ true:=fun A env g s Q E R V kk=>by
 skip
 exact QB (wpAny_Constant_bool (QB (wpAny_standAt (QF (wpAny_truthy_bool (kk _ _ (.refl V.inn)))))))
theorem QSP{B:List Stmt}{h0:ExceptHandler}{hs:List ExceptHandler}{p:Pos}(ht:QAl G 9 t σ.ρ true)(h:Xs G true B σ (.nx τ))(h2:Xw G true t [.Try B (h0::hs) [] [] p] τ o):Xw G true t [.Try B (h0::hs) [] [] p] σ o:=fun A K oa g s R X k=>by
 refine QDK (ht A K.env g s _ _ X.R X.S.vw fun g1 s1 x1=>?_)
 rw [if_pos rfl]
 exact QD (wpAny_Try_except (h A K oa g1 s1 _ _ _ (X.ext x1) fun oa2 g2 s2 X2=>QG (QG (h2 A K oa2 g2 s2 R X2 k))))
theorem QRI{B:List Stmt}{h0:ExceptHandler}{hs:List ExceptHandler}{p:Pos}{d:Bool}(ht:QAl G 9 t σ.ρ true)(h:Xs G true B σ (.ex d τ))
  (h2:∀(A:QT) (K:RnF) (oa:Str→QW) (g:Fz) (s:QR) (e:QW) (Q:Flow→QR→Prop) (E:QS→QR→Prop),K.env.frame=some K.env.locals→(∃fr,A.frames=some (K.env::fr))→Rm A 9→A.handled=none→Xx G A K d τ oa g s e→(∀oa g s,Cx G A K true ρ oa g s→Q .brk s)→
   Qa (model prog w) A (setFlight (.ref e) none) (fun _ s₃=>Qa (model prog w) A (handleBy (.ref e) K.env (h0::hs)) Q E s₃) E s):Xw G true t [.Try B (h0::hs) [] [] p] σ (.nx ρ):=fun A K oa g s R X k=>by
 refine QDK (ht A K.env g s _ _ X.R X.S.vw fun g1 s1 x1=>?_)
 rw [if_pos rfl]
 exact QD (wpAny_Try_except (h A K oa g1 s1 _ _ _ (X.ext x1) fun oa2 g2 s2 e x2=>h2 A K oa2 g2 s2 e _ _ X.hf X.hfr X.R X.hd x2 fun oa3 g3 s3 X3=>k oa3 g3 s3 X3))
variable {figs one two:List Int}
noncomputable def C4:QCl:=QBU [("IndexError",.typ "IndexError")]
theorem QNy(hC:COk G C4)(hL:LOk figs.length)(hf:∀f∈figs,0≤f∧f<64)(h1:∀c∈one,0≤c∧c<2^lettersOf figs)(h2:∀c∈two,0≤c∧c<2^lettersOf figs)(l1:one.length≤1000)(l2:two.length≤1000):∀(n I J:Nat) (m u:List Int),
  (one.drop I).length+(two.drop J).length<n→I≤one.length→J≤two.length→Iv one two I J m u→
  ∃I' J',Xw G true (lp (fnBody 4) 0).1 (lp (fnBody 4) 0).2 (sE (QAd figs) one two I J m u []) (.nx (sE (QAd figs) one two I' J' (QAx one two) (QAx two one) [])):=by
 intro n
 induction n with
 |zero=>exact fun _ _ _ _ h=>absurd h (Nat.not_lt_zero _)
 |succ n ih=>
  intro I J m u hn hI hJ v
  refine oEA (turn (G:=G) (f:=QAd figs) l1 l2 v.lm.1 v.lm.2 hI hJ (fun a ha b hb=>(QC3 hL hf (h1 a ha) (h2 b hb)).1) (fun a ha b hb=>(QC3 hL hf (h1 a ha) (h2 b hb)).2.1) (fun a ha b hb=>(QC3 hL hf (h1 a ha) (h1 b hb)).2.2) (fun a ha b hb=>(QC3 hL hf (h2 a ha) (h2 b hb)).2.2)) fun o x=>QEZ fun I' J' m' u'=>rAA fun hI' hJ' t=>?_
  cases o with
  |nx τ=>
   revert t
   refine rA fun ζ0 st=>?_
   subst ζ0
   refine oA (v.step st) fun v' lt=>?_
   refine oEE (ih I' J' m' u' (Qp lt (Qq hn)) hI' hJ' v') fun a b z=>?_
   exact ⟨a,b,QSP QKa x z⟩
  |ex d τ=>
   revert t
   refine rAA fun ζ0 st nl=>?_
   subst ζ0
   have v':Iv one two I' J' m' u':=by
    rcases st with ⟨rfl,rfl,rfl,rfl⟩|st
    ·exact v
    ·exact (v.step st).1
   have e1:=v'.e1
   have e2:=v'.e2
   rw [QNg nl] at e1
   rw [QNg nl.symm] at e2
   have lm:∀{l:List Int},l.length≤1000→(l.map (QAd figs)).length≤1000:=fun h=>by rw [Qs];exact h
   refine ⟨I',J',QRI QKa x fun A K oa g s e Q E hf hfr R hd x2 k=>handled hC (by kernel_rfl) (lm l1) (lm l2) (lm v'.lm.1) (lm v'.lm.2) hf hfr R hd x2 fun oa g s X=>k oa g s ?_⟩
   rw [←List.map_drop,←Qv,←List.map_drop,←Qv,e1,e2] at X
   exact X
theorem QSr(hC:COk G C4)(hL:LOk figs.length)(hf:∀f∈figs,0≤f∧f<64)(h1:∀c∈one,0≤c∧c<2^lettersOf figs)(h2:∀c∈two,0≤c∧c<2^lettersOf figs)(o1:Srt one)(o2:Srt two)(l1:one.length≤16)(l2:two.length≤16):
  QAu G 10 (QAa 4) (fnBody 4) [(nm "expected",.list (one.map (QAd figs))),(nm "actual",.list (two.map (QAd figs)))] (QIQ figs one two):=by
 intro A env g₀ s₀ s Q E R hfm hfr S k
 refine QD (QCY A env g₀ s₀ _ g₀ s _ _ R S fun g1 s1 oa1 S1 M1=>?_)
 refine QD (QMK (d:= .int 0) (by kernel_rfl) (by kernel_rfl) (constOk rfl) A env g₀ s₀ oa1 g1 s1 _ _ R S1 fun g2 s2 oa2 S2 M2=>?_)
 refine QD (ownStep (by kernel_rfl) A env g₀ s₀ oa2 g2 s2 _ _ R S2 fun g3 s3 oa3 S3 M3=>?_)
 refine QD (ownStep (by kernel_rfl) A env g₀ s₀ oa3 g3 s3 _ _ R S3 fun g4 s4 oa4 S4 M4=>?_)
 have L:SLe (sE (QAd figs) one two 0 0 [] [] []) (((((⟨⟨QAa 4,[(nm "expected",.list (one.map (QAd figs))),(nm "actual",.list (two.map (QAd figs)))]⟩,[]⟩:PS).put (nm "i") (.int 0)).put (nm "j") (.int 0)).newOwn (nm "missing")).newOwn (nm "unexpected")):= .by_ (by kernel_rfl)
 refine oEE (QNy hC hL hf h1 h2 (Qd l1 (by decide)) (Qd l2 (by decide)) _ 0 0 [] [] (Qn _) (Ql _) (Ql _) ⟨o1,o2,(QKj one two).symm,(QKj two one).symm,by exact Qd (Nat.add_le_add (Nat.add_le_add_left l1 0) l2) (by decide)⟩) fun I J x=>?_
 refine QD (wpAny_While (x A ⟨env,g₀,s₀,_,oa4,g4,s4⟩ oa4 g4 s4 _ ⟨hfm,hfr,R.less (by decide),S4.weak L,.refl,R.hnd (Qf _)⟩ fun oa5 g5 s5 X=>?_))
 refine QB0 ((Ev.mk (G:=G) (F:=fun _=>none) (fun _ _ h=>nomatch h) hC (Qf 10)).ok (c:= .sts ((fnBody 4).drop 5) (sE (QAd figs) one two I J (QAx one two) (QAx two one) []) [] (okR (QIQ figs one two))) (n:=100) (QAZ (@rfl D (QIQ figs one two)) (by kernel_rfl))) fun o _ e h=>?_
 cases o with
 |ret d=>cases h;exact e A env g₀ s₀ oa5 g5 s5 Q E R X.S k
 |_=>exact False.elim h
end
theorem all1{α:Type}{P:List α→Prop}(h:∀a,P [a]):∀vs,vs.length=1→P vs:=fun vs e=>by
 refine oE (List.length_eq_one_iff.mp e) fun a ζ1=>?_;subst ζ1;exact h a
theorem QC8{α:Type}{n:Nat}{P:List α→Prop}(h:∀a vs,vs.length=n→P (a::vs)):∀vs,vs.length=n+1→P vs:=fun vs e=>by
 cases vs with
 |nil=>exact absurd e.symm (Nat.succ_ne_zero n)
 |cons a r=>exact h a r (Nat.succ.inj e)
section
variable {prog:QV}{w:QX}{G:Gd prog w}{N:Nat}
structure MAt (G:Gd prog w)(a:QW)(o:Obj)(fd:QZ)(body:List Stmt):Prop where
 ob:G.h.get? a=some o
 da:o.data= .func fd
 bo:fd.body= .stmts body
 cd:G.h.CodeRec fd.code fd.qualname
 cl:fd.closure=[]
 gl:fd.globals=mainGlobals
 bu:fd.builtins=builtinsNs
 co:fd.scope.isCoroutine=false
 ge:fd.scope.isGenerator=false
 ki:fd.scope.kind= .function
theorem QLH{fd:QZ}{binds:List (Str×QS)}{bs:List (Str×D)}{n:Nat}(hk:QBQ fd.scope.names (bs.map (·.1))=true)(h1:binds.map (·.1)=bs.map (·.1)):∀x∈binds,fd.scope.names.lookup x.1=some .local∨(fd.scope.names.lookup x.1=some .cell∧((cellsFrom n fd.scope.names []).lookup x.1).isSome=true):=by
 intro x hx
 have hk1:=hk
 unfold QBQ at hk1
 simp only [QAT,List.all_eq_true] at hk1
 have:=hk1.1 x.1 (by rw [←h1];exact Qw.mpr ⟨x,hx,rfl⟩)
 simp only [Bool.or_eq_true,beq_iff_eq] at this
 rcases this with h|h
 ·exact .inl h
 ·refine oE (QBY (QB5 (n:=n) (acc:=[]) (.inr (mem_of_lookup h)))) fun c hc=>?_
  exact .inr ⟨h,by rw [hc];rfl⟩
theorem QFQ{h:Heap}{cd:QS}{q:Str}(x:G.h.CodeRec cd q)(hle:HLe G.h h):h.CodeRec cd q:=by
 revert x
 refine QEZ fun c oc vs t=>QEg fun e1 e2 e3 e4=>?_
 exact ⟨c,oc,vs,t,e1,hle.exact e2 (fun _ _ q=>by rw [e3] at q;cases q),e3,e4⟩
theorem enter{a:QW}{o:Obj}{fd:QZ}{body:List Stmt}(T:MAt G a o fd body){A:QT}{g:Fz}{s:QR}{vs:List QS}{kws:List (Str×QS)}{bs:List (Str×D)}{binds:List (Str×QS)}{Q E:QS→QR→Prop}(R:Rm A (N+1))(fro:QCr A s.heap)(fi:FIn g s.heap)(base:FLe G.h.get? g)
  (hk:QBQ fd.scope.names (bs.map (·.1))=true) (hbind:BindsTo s fd ⟨vs,kws⟩ binds) (hbd:QDY g binds bs)
  (h:∀(A':QT) (env:Env) (s₁:QR) (Q':Flow→QR→Prop) (E':QS→QR→Prop),Rm A' N→env.frame=some env.locals→(∃fr,A'.frames=some (env::fr))→Sv G A' g s env {ρ:={sc:=fd.scope.names,vs:=bs},os:=[]} (fun _=>0) g s₁→(∀v s',Q v s'→Q' (.ret v) s')→(∀s',Q .none s'→Q' .next s')→Qa (model prog w) A' (execs body env) Q' E' s₁):
  Qa (model prog w) A (call (.ref a) vs kws) Q E s:=by
 have hle:HLe G.h s.heap:=fun b o e=>fi b o (base b o e)
 refine wpAny_call (codeAny_call_function (by have:=R.dep;exact zn1 [_,_,_] 1 (.a (.v 0) (.n 1)) (.v 1) 1 (.a (.a (.v 0) (.a (.v 2) (.n 1))) (.n 1)) (.v 1) rfl this) (hle.exact T.ob fun _ _ q=>by rw [T.da] at q;cases q) T.da T.co T.ge T.bo (QFQ T.cd hle) (hbind _ _ _ _ ?_))
 rw [T.cl]
 refine wpAny_newFunctionEnv_cells T.ki (QLH hk hbd.1) fun env he s₁ x=>?_
 subst he
 refine ⟨(hle.nolim G.nolim).keeps x.toInCall.keep,codeAny_func ?_⟩
 revert fro
 refine rEA fun fr hfr hfro=>?_
 exact h _ _ s₁ _ _ R.deeper rfl ⟨fr,by show A.frames.map _=_;rw [hfr];rfl⟩ (QFU (G:=G) (a:=a) T.cl T.gl T.bu T.ki ⟨fr,hfr,hfro⟩ fi base hbd hk x) (fun _ _ q=>q) fun _ q=>q
theorem QDt{a:QW}{o:Obj}{fd:QZ}{body:List Stmt}(T:MAt G a o fd body){sem:QBR}{bd:List D→List (Str×D)→Option (List (Str×D))}
  (hsem:∀ds kds d,sem ds kds d→∃bs,bd ds kds=some bs∧QAu G N fd.scope.names body bs d)
  (hb:∀(g:Fz) (s:QR) (vs kvs:List QS) (ds:List D) (kds:List (Str×D)) (bs:List (Str×D)),bd ds kds=some bs→FIn g s.heap→FLe G.h.get? g→DenL g vs ds→DenL g kvs (kds.map (·.2))→
   QBQ fd.scope.names (bs.map (·.1))=true∧∃binds,BindsTo s fd ⟨vs,(kds.map (·.1)).zip kvs⟩ binds∧QDY g binds bs):QBB G (N+1) a sem:=by
 intro A g s vs kvs ds kds d Q E hs R fro fi base dvs dkvs k
 refine oEA (hsem ds kds d hs) fun bs hbs hbody=>?_
 refine QE0 (hb g s vs kvs ds kds bs hbs fi base dvs dkvs) fun hk binds hbind hbd=>?_
 exact enter T R fro fi base hk hbind hbd fun A' env s₁ Q' E' R' hf hfr S k1 _=>hbody A' env g s s₁ Q' E' R' hf hfr S fun g' s' v x' d'=>k1 _ _ (k _ _ _ x' d')
theorem QB6.less{f:Str}{sem:QBR}{M:Nat}(x:QB6 G N f sem)(h:N≤M):QB6 G M f sem:=by
 revert x
 refine QCm fun a h1 h2 h4=>?_
 exact ⟨a,h1,h2,fun A g s vs kvs ds kds d Q E hs R=>h4 A g s vs kvs ds kds d Q E hs (R.less h)⟩
variable {F:QC9}{C:QCl}
theorem QIm{names:List (Str×NameKind)}{body:List Stmt}{bs:List (Str×D)}{v:D}(h:QCG G N body ⟨⟨names,bs⟩,[]⟩ (.ret v)):QAu G N names body bs v:=fun A env g₀ s₀ s Q E hR _ _ S k=>h A env g₀ s₀ _ g₀ s Q E hR S k
theorem teq(R:Ev G N F C){t:Expr}{ρ:PE}{c:Bool}(os:OL)(h:q G N F C 100 (.te t ρ os fun b _=>b=c)):QAl G N t ρ c:=by
 refine QB0 (R.ok h) fun _ _ e ζ3=>?_;subst ζ3;exact e
theorem evq(R:Ev G N F C){e:Expr}{ρ:PE}{v:D}(os:OL)(h:q G N F C 100 (.ev e ρ os fun d _=>d=v)):EvX G N e ρ v:=by
 refine QB0 (R.ok h) fun _ _ e ζ3=>?_;subst ζ3;exact e
theorem QFK{st:Stmt}{r:List Stmt}{σ:PS}{d:D}(h:QC7 G N st σ (.ret d)):QCG G N (st::r) σ (.ret d):=QFE h fun _ h=>nomatch h
end
noncomputable def fA(i:Nat):Arguments:=match PySem.Challenge.pw_kq0067_01.main.body[i]? with
 |some (.FunctionDef _ a _ _ _ _ _ _ _ _)=>a
 |_=>default
noncomputable def fS(i:Nat):Scope:=match PySem.Challenge.pw_kq0067_01.main.body[i]? with
 |some (.FunctionDef _ _ _ _ _ _ s _ _ _)=>s
 |_=>default
noncomputable def mNode(i j:Nat):Option Stmt:=match PySem.Challenge.pw_kq0067_01.main.body[i]? with
 |some (.ClassDef _ _ _ b ..)=>b[j]?
 |_=>none
noncomputable def mA(i j:Nat):Arguments:=match mNode i j with
 |some (.FunctionDef _ a _ _ _ _ _ _ _ _)=>a
 |_=>default
noncomputable def mB(i j:Nat):List Stmt:=match mNode i j with
 |some (.FunctionDef _ _ b _ _ _ _ _ _ _)=>b
 |_=>[]
noncomputable def mS(i j:Nat):Scope:=match mNode i j with
 |some (.FunctionDef _ _ _ _ _ _ s _ _ _)=>s
 |_=>default
noncomputable def fd88:QZ:={name:=(Qc "sorted_list_difference"),qualname:=(Qc "sorted_list_difference"),params:=(fA 4),body:= .stmts (fnBody 4),scope:=(fS 4),globals:=3,closure:=[],defaults:= .none,kwdefaults:= .none,doc:=(.str (Qc "Finds elements in only one or the other of two, sorted input lists.\n\nReturns a two-element tuple of lists.    The first list contains those\nelements in the \"expected\" list but not in the \"actual\" list, and the\nsecond contains those elements in the \"actual\" list but not in the\n\"expected\" list.    Duplicate elements in either input list are ignored.\n") 361),pyModule:=(.str (Qc "cpy313.unittest.util") 289),annotations:=none,code:=(.ref 87),closureTuple:= .none,builtins:=0}
noncomputable def fd95:QZ:={name:=(Qc "three_way_cmp"),qualname:=(Qc "three_way_cmp"),params:=(fA 5),body:= .stmts (fnBody 5),scope:=(fS 5),globals:=3,closure:=[],defaults:= .none,kwdefaults:= .none,doc:=(.str (Qc "Return -1 if x < y, 0 if x == y and 1 if x > y") 370),pyModule:=(.str (Qc "cpy313.unittest.util") 289),annotations:=none,code:=(.ref 94),closureTuple:= .none,builtins:=0}
noncomputable def fd113:QZ:={name:=(Qc "__new__"),qualname:=(Qc "Mismatch.__new__"),params:=(mA 6 4),body:= .stmts (mB 6 4),scope:=(mS 6 4),globals:=3,closure:=[],defaults:= .none,kwdefaults:= .none,doc:=(.str (Qc "Create new instance of Mismatch(actual, expected, value)") 402),pyModule:=(.str (Qc "cpy313.unittest.util") 289),annotations:=none,code:=(.ref 112),closureTuple:= .none,builtins:=0}
noncomputable def fd176:QZ:={name:=(Qc "_count_diff_all_purpose"),qualname:=(Qc "_count_diff_all_purpose"),params:=(fA 8),body:= .stmts (fnBody 8),scope:=(fS 8),globals:=3,closure:=[],defaults:= .none,kwdefaults:= .none,doc:=(.str (Qc "Returns list of (cnt_act, cnt_exp, elem) triples where the counts differ") 521),pyModule:=(.str (Qc "cpy313.unittest.util") 289),annotations:=none,code:=(.ref 175),closureTuple:= .none,builtins:=0}
noncomputable def fd184:QZ:={name:=(Qc "_bytes_from_decode_data"),qualname:=(Qc "_bytes_from_decode_data"),params:=(fA 11),body:= .stmts (fnBody 11),scope:=(fS 11),globals:=3,closure:=[],defaults:= .none,kwdefaults:= .none,doc:= .none,pyModule:=(.str (Qc "cpy313.base64") 523),annotations:=none,code:=(.ref 183),closureTuple:= .none,builtins:=0}
noncomputable def fd204:QZ:={name:=(Qc "_ascii_buffer"),qualname:=(Qc "_ascii_buffer"),params:=(fA 14),body:= .stmts (fnBody 14),scope:=(fS 14),globals:=3,closure:=[],defaults:= .none,kwdefaults:= .none,doc:= .none,pyModule:=(.str (Qc "binascii") 533),annotations:=none,code:=(.ref 203),closureTuple:= .none,builtins:=0}
noncomputable def fd211:QZ:={name:=(Qc "_buffer"),qualname:=(Qc "_buffer"),params:=(fA 15),body:= .stmts (fnBody 15),scope:=(fS 15),globals:=3,closure:=[],defaults:= .none,kwdefaults:= .none,doc:= .none,pyModule:=(.str (Qc "binascii") 533),annotations:=none,code:=(.ref 210),closureTuple:= .none,builtins:=0}
noncomputable def fd218:QZ:={name:=(Qc "_truth"),qualname:=(Qc "_truth"),params:=(fA 16),body:= .stmts (fnBody 16),scope:=(fS 16),globals:=3,closure:=[],defaults:= .none,kwdefaults:= .none,doc:= .none,pyModule:=(.str (Qc "binascii") 533),annotations:=none,code:=(.ref 217),closureTuple:= .none,builtins:=0}
noncomputable def fd225:QZ:={name:=(Qc "_b64_value"),qualname:=(Qc "_b64_value"),params:=(fA 18),body:= .stmts (fnBody 18),scope:=(fS 18),globals:=3,closure:=[],defaults:= .none,kwdefaults:= .none,doc:= .none,pyModule:=(.str (Qc "binascii") 533),annotations:=none,code:=(.ref 224),closureTuple:= .none,builtins:=0}
noncomputable def fd233:QZ:={name:=(Qc "a2b_base64"),qualname:=(Qc "a2b_base64"),params:=(fA 19),body:= .stmts (fnBody 19),scope:=(fS 19),globals:=3,closure:=[],defaults:= .none,kwdefaults:=(.ref 226),doc:= .none,pyModule:=(.str (Qc "binascii") 533),annotations:=none,code:=(.ref 232),closureTuple:= .none,builtins:=0}
noncomputable def fd241:QZ:={name:=(Qc "b2a_base64"),qualname:=(Qc "b2a_base64"),params:=(fA 20),body:= .stmts (fnBody 20),scope:=(fS 20),globals:=3,closure:=[],defaults:= .none,kwdefaults:=(.ref 234),doc:= .none,pyModule:=(.str (Qc "binascii") 533),annotations:=none,code:=(.ref 240),closureTuple:= .none,builtins:=0}
noncomputable def fd249:QZ:={name:=(Qc "b64encode"),qualname:=(Qc "b64encode"),params:=(fA 22),body:= .stmts (fnBody 22),scope:=(fS 22),globals:=3,closure:=[],defaults:=(.ref 242),kwdefaults:= .none,doc:=(.str (Qc "Encode the bytes-like object s using Base64 and return a bytes object.\n\nOptional altchars should be a byte string of length 2 which specifies an\nalternative alphabet for the '+' and '/' characters.  This allows an\napplication to e.g. generate url or filesystem safe Base64 strings.\n") 626),pyModule:=(.str (Qc "cpy313.base64") 616),annotations:=none,code:=(.ref 248),closureTuple:= .none,builtins:=0}
noncomputable def fd257:QZ:={name:=(Qc "b64decode"),qualname:=(Qc "b64decode"),params:=(fA 23),body:= .stmts (fnBody 23),scope:=(fS 23),globals:=3,closure:=[],defaults:=(.ref 250),kwdefaults:= .none,doc:=(.str (Qc "Decode the Base64 encoded bytes-like object or ASCII string s.\n\nOptional altchars must be a bytes-like object or ASCII string of length 2\nwhich specifies the alternative alphabet used instead of the '+' and '/'\ncharacters.\n\nThe result is returned as a bytes object.  A binascii.Error is raised if\ns is incorrectly padded.\n\nIf validate is False (the default), characters that are neither in the\nnormal base-64 alphabet nor the alternative alphabet are discarded prior\nto the padding check.  If validate is True, these non-alphabet characters\nin the input result in a binascii.Error.\nFor more information about the strict base64 check, see:\n\nhttps://docs.python.org/3.11/library/binascii.html#binascii.a2b_base64\n") 636),pyModule:=(.str (Qc "cpy313.base64") 616),annotations:=none,code:=(.ref 256),closureTuple:= .none,builtins:=0}
noncomputable def fd264:QZ:={name:=(Qc "urlsafe_b64encode"),qualname:=(Qc "urlsafe_b64encode"),params:=(fA 26),body:= .stmts (fnBody 26),scope:=(fS 26),globals:=3,closure:=[],defaults:= .none,kwdefaults:= .none,doc:=(.str (Qc "Encode bytes using the URL- and filesystem-safe Base64 alphabet.\n\nArgument s is a bytes-like object to encode.  The result is returned as a\nbytes object.  The alphabet uses '-' instead of '+' and '_' instead of\n'/'.\n") 654),pyModule:=(.str (Qc "cpy313.base64") 616),annotations:=none,code:=(.ref 263),closureTuple:= .none,builtins:=0}
noncomputable def fd271:QZ:={name:=(Qc "urlsafe_b64decode"),qualname:=(Qc "urlsafe_b64decode"),params:=(fA 27),body:= .stmts (fnBody 27),scope:=(fS 27),globals:=3,closure:=[],defaults:= .none,kwdefaults:= .none,doc:=(.str (Qc "Decode bytes using the URL- and filesystem-safe Base64 alphabet.\n\nArgument s is a bytes-like object or ASCII string to decode.  The result\nis returned as a bytes object.  A binascii.Error is raised if the input\nis incorrectly padded.  Characters that are not in the URL-safe base-64\nalphabet, and are not a plus '+' or slash '/', are discarded prior to the\npadding check.\n\nThe alphabet uses '-' instead of '+' and '_' instead of '/'.\n") 662),pyModule:=(.str (Qc "cpy313.base64") 616),annotations:=none,code:=(.ref 270),closureTuple:= .none,builtins:=0}
noncomputable def fd309:QZ:={name:=(Qc "__init__"),qualname:=(Qc "Headers.__init__"),params:=(mA 33 1),body:= .stmts (mB 33 1),scope:=(mS 33 1),globals:=3,closure:=[],defaults:=(.ref 302),kwdefaults:= .none,doc:= .none,pyModule:=(.str (Qc "cpy313.wsgiref.headers") 664),annotations:=none,code:=(.ref 308),closureTuple:= .none,builtins:=0}
noncomputable def fd316:QZ:={name:=(Qc "_convert_string_type"),qualname:=(Qc "Headers._convert_string_type"),params:=(mA 33 2),body:= .stmts (mB 33 2),scope:=(mS 33 2),globals:=3,closure:=[],defaults:= .none,kwdefaults:= .none,doc:=(.str (Qc "Convert/check value type.") 805),pyModule:=(.str (Qc "cpy313.wsgiref.headers") 664),annotations:=none,code:=(.ref 315),closureTuple:= .none,builtins:=0}
noncomputable def fd330:QZ:={name:=(Qc "__setitem__"),qualname:=(Qc "Headers.__setitem__"),params:=(mA 33 4),body:= .stmts (mB 33 4),scope:=(mS 33 4),globals:=3,closure:=[],defaults:= .none,kwdefaults:= .none,doc:=(.str (Qc "Set the value of a header.") 823),pyModule:=(.str (Qc "cpy313.wsgiref.headers") 664),annotations:=none,code:=(.ref 329),closureTuple:= .none,builtins:=0}
noncomputable def fd335:QZ:={name:=(Qc "__delitem__"),qualname:=(Qc "Headers.__delitem__"),params:=(mA 33 5),body:= .stmts (mB 33 5),scope:=(mS 33 5),globals:=3,closure:=[],defaults:= .none,kwdefaults:= .none,doc:=(.str (Qc "Delete all occurrences of a header, if present.\n\nDoes *not* raise an exception if the header is missing.\n") 830),pyModule:=(.str (Qc "cpy313.wsgiref.headers") 664),annotations:=none,code:=(.ref 334),closureTuple:= .none,builtins:=0}
noncomputable def fd354:QZ:={name:=(Qc "get_all"),qualname:=(Qc "Headers.get_all"),params:=(mA 33 8),body:= .stmts (mB 33 8),scope:=(mS 33 8),globals:=3,closure:=[],defaults:= .none,kwdefaults:= .none,doc:=(.str (Qc "Return a list of all the values for the named field.\n\nThese will be sorted in the order they appeared in the original header\nlist or were added to this instance, and may contain duplicates.  Any\nfields deleted and re-inserted are always appended to the header list.\nIf no fields exist with the given name, returns an empty list.\n") 855),pyModule:=(.str (Qc "cpy313.wsgiref.headers") 664),annotations:=none,code:=(.ref 353),closureTuple:= .none,builtins:=0}
noncomputable def fd379:QZ:={name:=(Qc "items"),qualname:=(Qc "Headers.items"),params:=(mA 33 12),body:= .stmts (mB 33 12),scope:=(mS 33 12),globals:=3,closure:=[],defaults:= .none,kwdefaults:= .none,doc:=(.str (Qc "Get all the header fields and values.\n\nThese will be sorted in the order they were in the original header\nlist, or were added to this instance, and may contain duplicates.\nAny fields deleted and re-inserted are always appended to the header\nlist.\n") 889),pyModule:=(.str (Qc "cpy313.wsgiref.headers") 664),annotations:=none,code:=(.ref 378),closureTuple:= .none,builtins:=0}
noncomputable def fd412:QZ:={name:=(Qc "add_header"),qualname:=(Qc "Headers.add_header"),params:=(mA 33 17),body:= .stmts (mB 33 17),scope:=(mS 33 17),globals:=3,closure:=[],defaults:= .none,kwdefaults:= .none,doc:=(.str (Qc "Extended header setting.\n\n_name is the header field to add.  keyword arguments can be used to set\nadditional parameters for the header field, with underscores converted\nto dashes.  Normally the parameter will be added as key=\"value\" unless\nvalue is None, in which case only the key will be added.\n\nExample:\n\nh.add_header('content-disposition', 'attachment', filename='bud.gif')\n\nNote that unlike the corresponding 'email.message' method, this does\n*not* handle '(charset, language, value)' tuples: all values must be\nstrings or None.\n") 933),pyModule:=(.str (Qc "cpy313.wsgiref.headers") 664),annotations:=none,code:=(.ref 411),closureTuple:= .none,builtins:=0}
noncomputable def fd424:QZ:={name:=(Qc "_law_figures"),qualname:=(Qc "_law_figures"),params:=(fA 35),body:= .stmts (fnBody 35),scope:=(fS 35),globals:=3,closure:=[],defaults:= .none,kwdefaults:= .none,doc:= .none,pyModule:=(.str (Qc "law_kq0067_01") 943),annotations:=none,code:=(.ref 423),closureTuple:= .none,builtins:=0}
noncomputable def fd429:QZ:={name:=(Qc "_law_octets"),qualname:=(Qc "_law_octets"),params:=(fA 36),body:= .stmts (fnBody 36),scope:=(fS 36),globals:=3,closure:=[],defaults:= .none,kwdefaults:= .none,doc:= .none,pyModule:=(.str (Qc "law_kq0067_01") 943),annotations:=none,code:=(.ref 428),closureTuple:= .none,builtins:=0}
noncomputable def fd434:QZ:={name:=(Qc "_law_text"),qualname:=(Qc "_law_text"),params:=(fA 37),body:= .stmts (fnBody 37),scope:=(fS 37),globals:=3,closure:=[],defaults:= .none,kwdefaults:= .none,doc:= .none,pyModule:=(.str (Qc "law_kq0067_01") 943),annotations:=none,code:=(.ref 433),closureTuple:= .none,builtins:=0}
noncomputable def fd441:QZ:={name:=(Qc "_law_spelled"),qualname:=(Qc "_law_spelled"),params:=(fA 38),body:= .stmts (fnBody 38),scope:=(fS 38),globals:=3,closure:=[],defaults:= .none,kwdefaults:= .none,doc:= .none,pyModule:=(.str (Qc "law_kq0067_01") 943),annotations:=none,code:=(.ref 440),closureTuple:= .none,builtins:=0}
noncomputable def fd448:QZ:={name:=(Qc "_law_written"),qualname:=(Qc "_law_written"),params:=(fA 39),body:= .stmts (fnBody 39),scope:=(fS 39),globals:=3,closure:=[],defaults:= .none,kwdefaults:= .none,doc:= .none,pyModule:=(.str (Qc "law_kq0067_01") 943),annotations:=none,code:=(.ref 447),closureTuple:= .none,builtins:=0}
noncomputable def fd453:QZ:={name:=(Qc "_law_lacks"),qualname:=(Qc "_law_lacks"),params:=(fA 40),body:= .stmts (fnBody 40),scope:=(fS 40),globals:=3,closure:=[],defaults:= .none,kwdefaults:= .none,doc:= .none,pyModule:=(.str (Qc "law_kq0067_01") 943),annotations:=none,code:=(.ref 452),closureTuple:= .none,builtins:=0}
noncomputable def fd458:QZ:={name:=(Qc "_law_lists"),qualname:=(Qc "_law_lists"),params:=(fA 41),body:= .stmts (fnBody 41),scope:=(fS 41),globals:=3,closure:=[],defaults:= .none,kwdefaults:= .none,doc:= .none,pyModule:=(.str (Qc "law_kq0067_01") 943),annotations:=none,code:=(.ref 457),closureTuple:= .none,builtins:=0}
noncomputable def fd463:QZ:={name:=(Qc "_law_headers"),qualname:=(Qc "_law_headers"),params:=(fA 42),body:= .stmts (fnBody 42),scope:=(fS 42),globals:=3,closure:=[],defaults:= .none,kwdefaults:= .none,doc:= .none,pyModule:=(.str (Qc "law_kq0067_01") 943),annotations:=none,code:=(.ref 462),closureTuple:= .none,builtins:=0}
noncomputable def fd468:QZ:={name:=(Qc "_law_binary"),qualname:=(Qc "_law_binary"),params:=(fA 43),body:= .stmts (fnBody 43),scope:=(fS 43),globals:=3,closure:=[],defaults:= .none,kwdefaults:= .none,doc:= .none,pyModule:=(.str (Qc "law_kq0067_01") 943),annotations:=none,code:=(.ref 467),closureTuple:= .none,builtins:=0}
noncomputable def fd473:QZ:={name:=(Qc "law"),qualname:=(Qc "law"),params:=(fA 44),body:= .stmts (fnBody 44),scope:=(fS 44),globals:=3,closure:=[],defaults:= .none,kwdefaults:= .none,doc:= .none,pyModule:=(.str (Qc "law_kq0067_01") 943),annotations:=none,code:=(.ref 472),closureTuple:= .none,builtins:=0}
noncomputable def KFl(P:Params):List (QW×Obj):=[
(2,⟨.none,none,(.dict #[⟨PyData.keyHash P (Qc "\x69mport.loaded._sre"),(.str (Qc "\x69mport.loaded._sre") 183),(.bool true)⟩,⟨PyData.keyHash P (Qc "class._frozen_importlib.BuiltinImporter"),(.str (Qc "class._frozen_importlib.BuiltinImporter") 185),(.ref 14)⟩,⟨PyData.keyHash P (Qc "watched.\x69mport"),(.str (Qc "watched.\x69mport") 206),(.ref 18)⟩,⟨PyData.keyHash P (Qc "class._frozen_importlib.ModuleSpec"),(.str (Qc "class._frozen_importlib.ModuleSpec") 216),(.ref 22)⟩,⟨PyData.keyHash P (Qc "sys.modules.booked-epoch"),(.str (Qc "sys.modules.booked-epoch") 245),(.int (3) 0)⟩,⟨PyData.keyHash P (Qc "\x69mport.later-laid._sre"),(.str (Qc "\x69mport.later-laid._sre") 270),(.bool true)⟩,⟨PyData.keyHash P (Qc "watched.library"),(.str (Qc "watched.library") 272),(.ref 27)⟩,⟨PyData.keyHash P (Qc "watched.library-objects"),(.str (Qc "watched.library-objects") 0),(.str (Qc "\x0c") 0)⟩,⟨PyData.keyHash P (Qc "watched.library-deep._sre"),(.str (Qc "watched.library-deep._sre") 273),(.str (Qc "\x04\x00\x00\x0b\x04\x00\x00\x0b\x04\x00\x00\x03\x04\x00\x00\x0b\x08\x04dict\x02") 0)⟩] 9),#[]⟩),
(87,⟨(.type "code"),none,(.fields #[(.str (Qc "sorted_list_difference") 348),(.str (Qc "sorted_list_difference") 349),(.str (Qc "/claim/cut.py") 350),(.int (24) 0),(.int (2) 0),(.int (0) 0),(.int (0) 0),(.int (3) 0),(.ref 82),(.bool true),(.int (276) 0),(.ref 83),.none,(.ref 84),(.ref 85),(.ref 86),(.int (359) 0),(.int (24) 0),(.str (Qc "/claim/cut.py") 360)]),#[]⟩),
(88,⟨(.type "function"),none,(.func fd88),#[]⟩),
(94,⟨(.type "code"),none,(.fields #[(.str (Qc "three_way_cmp") 363),(.str (Qc "three_way_cmp") 364),(.str (Qc "/claim/cut.py") 365),(.int (63) 0),(.int (2) 0),(.int (0) 0),(.int (0) 0),(.int (3) 0),(.ref 89),(.bool true),(.int (276) 0),(.ref 90),.none,(.ref 91),(.ref 92),(.ref 93),(.int (368) 0),(.int (63) 0),(.str (Qc "/claim/cut.py") 369)]),#[]⟩),
(95,⟨(.type "function"),none,(.func fd95),#[]⟩),
(112,⟨(.type "code"),none,(.fields #[(.str (Qc "__new__") 393),(.str (Qc "Mismatch.__new__") 394),(.str (Qc "/claim/cut.py") 395),(.int (72) 0),(.int (4) 0),(.int (0) 0),(.int (0) 0),(.int (3) 0),(.ref 107),(.bool true),(.int (276) 0),(.ref 108),.none,(.ref 109),(.ref 110),(.ref 111),(.int (400) 0),(.int (72) 0),(.str (Qc "/claim/cut.py") 401)]),#[]⟩),
(113,⟨(.type "function"),none,(.func fd113),#[]⟩),
(165,⟨(.type "dict"),none,(.dict #[⟨PyData.keyHash P (Qc "__module__"),(.str (Qc "__module__") 379),(.str (Qc "cpy313.unittest.util") 289)⟩,⟨PyData.keyHash P (Qc "__firstlineno__"),(.str (Qc "__firstlineno__") 383),(.int (66) 382)⟩,⟨PyData.keyHash P (Qc "__doc__"),(.str (Qc "__doc__") 385),(.str (Qc "Mismatch(actual, expected, value)") 384)⟩,⟨PyData.keyHash P (Qc "__slots__"),(.str (Qc "__slots__") 387),(.ref 104)⟩,⟨PyData.keyHash P (Qc "_fields"),(.str (Qc "_fields") 391),(.ref 105)⟩,⟨PyData.keyHash P (Qc "_field_defaults"),(.str (Qc "_field_defaults") 392),(.ref 106)⟩,⟨PyData.keyHash P (Qc "__new__"),(.str (Qc "__new__") 403),(.ref 167)⟩,⟨PyData.keyHash P (Qc "_make"),(.str (Qc "_make") 425),(.ref 122)⟩,⟨PyData.keyHash P (Qc "_replace"),(.str (Qc "_replace") 436),(.ref 131)⟩,⟨PyData.keyHash P (Qc "__replace__"),(.str (Qc "__replace__") 437),(.ref 131)⟩,⟨PyData.keyHash P (Qc "__repr__"),(.str (Qc "__repr__") 445),(.ref 138)⟩,⟨PyData.keyHash P (Qc "_asdict"),(.str (Qc "_asdict") 452),(.ref 145)⟩,⟨PyData.keyHash P (Qc "__getnewargs__"),(.str (Qc "__getnewargs__") 460),(.ref 152)⟩,⟨PyData.keyHash P (Qc "__match_args__"),(.str (Qc "__match_args__") 464),(.ref 153)⟩,⟨PyData.keyHash P (Qc "actual"),(.str (Qc "actual") 474),(.ref 155)⟩,⟨PyData.keyHash P (Qc "expected"),(.str (Qc "expected") 484),(.ref 158)⟩,⟨PyData.keyHash P (Qc "value"),(.str (Qc "value") 494),(.ref 161)⟩,⟨PyData.keyHash P (Qc "__static_attributes__"),(.str (Qc "__static_attributes__") 495),(.ref 163)⟩] 2),#[]⟩),
(166,⟨(.type "type"),none,(.cls {name:=(Qc "Mismatch"),bases:=[(.type "tuple")],mro:=[(.ref 166),(.type "tuple"),(.type "object")],ns:=165,qualname:=(Qc "Mismatch"),hasDict:=false,slotNames:=[],subclasses:=[],abstract:=false,collection:=none,hasDel:=false}),#[(some (.ref 96)),none,(some (.str (Qc "Mismatch") 372)),(some (.str (Qc "Mismatch") 380)),(some .none),(some (.bool false))]⟩),
(167,⟨(.type "staticmethod"),none,(.fields #[(.ref 113)]),#[]⟩),
(175,⟨(.type "code"),none,(.fields #[(.str (Qc "_count_diff_all_purpose") 501),(.str (Qc "_count_diff_all_purpose") 502),(.str (Qc "/claim/cut.py") 503),(.int (110) 0),(.int (2) 0),(.int (0) 0),(.int (0) 0),(.int (3) 0),(.ref 170),(.bool true),(.int (276) 0),(.ref 171),.none,(.ref 172),(.ref 173),(.ref 174),(.int (519) 0),(.int (110) 0),(.str (Qc "/claim/cut.py") 520)]),#[]⟩),
(176,⟨(.type "function"),none,(.func fd176),#[]⟩),
(177,⟨(.type "tuple"),none,(.seq #[(.type "bytes"),(.type "bytearray")] 0),#[]⟩),
(183,⟨(.type "code"),none,(.fields #[(.str (Qc "_bytes_from_decode_data") 526),(.str (Qc "_bytes_from_decode_data") 527),(.str (Qc "/claim/cut.py") 528),(.int (144) 0),(.int (1) 0),(.int (0) 0),(.int (0) 0),(.int (3) 0),(.ref 178),(.bool true),(.int (276) 0),(.ref 179),.none,(.ref 180),(.ref 181),(.ref 182),(.int (530) 0),(.int (144) 0),(.str (Qc "/claim/cut.py") 531)]),#[]⟩),
(184,⟨(.type "function"),none,(.func fd184),#[]⟩),
(203,⟨(.type "code"),none,(.fields #[(.str (Qc "_ascii_buffer") 553),(.str (Qc "_ascii_buffer") 554),(.str (Qc "/claim/cut.py") 555),(.int (159) 0),(.int (1) 0),(.int (0) 0),(.int (0) 0),(.int (3) 0),(.ref 198),(.bool true),(.int (276) 0),(.ref 199),.none,(.ref 200),(.ref 201),(.ref 202),(.int (558) 0),(.int (159) 0),(.str (Qc "/claim/cut.py") 559)]),#[]⟩),
(204,⟨(.type "function"),none,(.func fd204),#[]⟩),
(210,⟨(.type "code"),none,(.fields #[(.str (Qc "_buffer") 561),(.str (Qc "_buffer") 562),(.str (Qc "/claim/cut.py") 563),(.int (170) 0),(.int (1) 0),(.int (0) 0),(.int (0) 0),(.int (3) 0),(.ref 205),(.bool true),(.int (276) 0),(.ref 206),.none,(.ref 207),(.ref 208),(.ref 209),(.int (566) 0),(.int (170) 0),(.str (Qc "/claim/cut.py") 567)]),#[]⟩),
(211,⟨(.type "function"),none,(.func fd211),#[]⟩),
(217,⟨(.type "code"),none,(.fields #[(.str (Qc "_truth") 569),(.str (Qc "_truth") 570),(.str (Qc "/claim/cut.py") 571),(.int (177) 0),(.int (1) 0),(.int (0) 0),(.int (0) 0),(.int (3) 0),(.ref 212),(.bool true),(.int (276) 0),(.ref 213),.none,(.ref 214),(.ref 215),(.ref 216),(.int (574) 0),(.int (177) 0),(.str (Qc "/claim/cut.py") 575)]),#[]⟩),
(218,⟨(.type "function"),none,(.func fd218),#[]⟩),
(224,⟨(.type "code"),none,(.fields #[(.str (Qc "_b64_value") 579),(.str (Qc "_b64_value") 580),(.str (Qc "/claim/cut.py") 581),(.int (183) 0),(.int (1) 0),(.int (0) 0),(.int (0) 0),(.int (3) 0),(.ref 219),(.bool true),(.int (276) 0),(.ref 220),.none,(.ref 221),(.ref 222),(.ref 223),(.int (583) 0),(.int (183) 0),(.str (Qc "/claim/cut.py") 584)]),#[]⟩),
(225,⟨(.type "function"),none,(.func fd225),#[]⟩),
(226,⟨(.type "dict"),none,(.dict #[⟨PyData.keyHash P (Qc "strict_mode"),(.str (Qc "strict_mode") 586),(.bool false)⟩] 1),#[]⟩),
(232,⟨(.type "code"),none,(.fields #[(.str (Qc "a2b_base64") 587),(.str (Qc "a2b_base64") 588),(.str (Qc "/claim/cut.py") 589),(.int (195) 0),(.int (1) 0),(.int (1) 0),(.int (1) 0),(.int (3) 0),(.ref 227),(.bool true),(.int (276) 0),(.ref 228),.none,(.ref 229),(.ref 230),(.ref 231),(.int (599) 0),(.int (195) 0),(.str (Qc "/claim/cut.py") 600)]),#[]⟩),
(233,⟨(.type "function"),none,(.func fd233),#[]⟩),
(234,⟨(.type "dict"),none,(.dict #[⟨PyData.keyHash P (Qc "newline"),(.str (Qc "newline") 602),(.bool true)⟩] 1),#[]⟩),
(240,⟨(.type "code"),none,(.fields #[(.str (Qc "b2a_base64") 603),(.str (Qc "b2a_base64") 604),(.str (Qc "/claim/cut.py") 605),(.int (249) 0),(.int (1) 0),(.int (1) 0),(.int (1) 0),(.int (3) 0),(.ref 235),(.bool true),(.int (276) 0),(.ref 236),.none,(.ref 237),(.ref 238),(.ref 239),(.int (613) 0),(.int (249) 0),(.str (Qc "/claim/cut.py") 614)]),#[]⟩),
(241,⟨(.type "function"),none,(.func fd241),#[]⟩),
(242,⟨(.type "tuple"),none,(.seq #[.none] 0),#[]⟩),
(248,⟨(.type "code"),none,(.fields #[(.str (Qc "b64encode") 618),(.str (Qc "b64encode") 619),(.str (Qc "/claim/cut.py") 620),(.int (272) 0),(.int (2) 0),(.int (0) 0),(.int (0) 0),(.int (3) 0),(.ref 243),(.bool true),(.int (276) 0),(.ref 244),.none,(.ref 245),(.ref 246),(.ref 247),(.int (624) 0),(.int (272) 0),(.str (Qc "/claim/cut.py") 625)]),#[]⟩),
(249,⟨(.type "function"),none,(.func fd249),#[]⟩),
(250,⟨(.type "tuple"),none,(.seq #[.none,(.bool false)] 0),#[]⟩),
(256,⟨(.type "code"),none,(.fields #[(.str (Qc "b64decode") 628),(.str (Qc "b64decode") 629),(.str (Qc "/claim/cut.py") 630),(.int (284) 0),(.int (3) 0),(.int (0) 0),(.int (0) 0),(.int (3) 0),(.ref 251),(.bool true),(.int (276) 0),(.ref 252),.none,(.ref 253),(.ref 254),(.ref 255),(.int (634) 0),(.int (284) 0),(.str (Qc "/claim/cut.py") 635)]),#[]⟩),
(257,⟨(.type "function"),none,(.func fd257),#[]⟩),
(263,⟨(.type "code"),none,(.fields #[(.str (Qc "urlsafe_b64encode") 648),(.str (Qc "urlsafe_b64encode") 649),(.str (Qc "/claim/cut.py") 650),(.int (310) 0),(.int (1) 0),(.int (0) 0),(.int (0) 0),(.int (3) 0),(.ref 258),(.bool true),(.int (276) 0),(.ref 259),.none,(.ref 260),(.ref 261),(.ref 262),(.int (652) 0),(.int (310) 0),(.str (Qc "/claim/cut.py") 653)]),#[]⟩),
(264,⟨(.type "function"),none,(.func fd264),#[]⟩),
(270,⟨(.type "code"),none,(.fields #[(.str (Qc "urlsafe_b64decode") 656),(.str (Qc "urlsafe_b64decode") 657),(.str (Qc "/claim/cut.py") 658),(.int (318) 0),(.int (1) 0),(.int (0) 0),(.int (0) 0),(.int (3) 0),(.ref 265),(.bool true),(.int (276) 0),(.ref 266),.none,(.ref 267),(.ref 268),(.ref 269),(.int (660) 0),(.int (318) 0),(.str (Qc "/claim/cut.py") 661)]),#[]⟩),
(271,⟨(.type "function"),none,(.func fd271),#[]⟩),
(280,⟨(.type "tuple"),none,(.seq #[(.int (14) 0),(.int (10) 0),(.int (4) 0),(.int (1) 0),(.int (1) 0),(.int (22) 0),(.int (0) 0),(.int (31) 0),(.int (16) 0),(.int (127) 0),(.int (0) 0),(.int (13) 0),(.int (7) 0),(.int (22) 0),(.int (0) 0),(.int (31) 0),(.int (16) 0),(.int (127) 0),(.int (0) 0),(.int (1) 0)] 0),#[]⟩),
(281,⟨(.type "re.Pattern"),none,(.fields #[(.str (Qc "[\\x00-\\x1F\\x7F]") 701),(.int (32) 724),(.int (0) 0),.none,.none,(.ref 280),(.int (0) 0)]),#[]⟩),
(285,⟨(.type "tuple"),none,(.seq #[(.int (14) 0),(.int (14) 0),(.int (4) 0),(.int (1) 0),(.int (1) 0),(.int (9) 0),(.int (4294966783) 0),(.int (0) 0),(.int (0) 0),(.int (2147483648) 0),(.int (0) 0),(.int (0) 0),(.int (0) 0),(.int (0) 0),(.int (0) 0),(.int (13) 0),(.int (11) 0),(.int (9) 0),(.int (4294966783) 0),(.int (0) 0),(.int (0) 0),(.int (2147483648) 0),(.int (0) 0),(.int (0) 0),(.int (0) 0),(.int (0) 0),(.int (0) 0),(.int (1) 0)] 0),#[]⟩),
(286,⟨(.type "re.Pattern"),none,(.fields #[(.str (Qc "[\\x00-\\x08\\x0A-\\x1F\\x7F]") 727),(.int (32) 758),(.int (0) 0),.none,.none,(.ref 285),(.int (0) 0)]),#[]⟩),
(302,⟨(.type "tuple"),none,(.seq #[.none] 0),#[]⟩),
(308,⟨(.type "code"),none,(.fields #[(.str (Qc "__init__") 786),(.str (Qc "Headers.__init__") 787),(.str (Qc "/claim/cut.py") 788),(.int (352) 0),(.int (2) 0),(.int (0) 0),(.int (0) 0),(.int (3) 0),(.ref 303),(.bool true),(.int (276) 0),(.ref 304),.none,(.ref 305),(.ref 306),(.ref 307),(.int (793) 0),(.int (352) 0),(.str (Qc "/claim/cut.py") 794)]),#[]⟩),
(309,⟨(.type "function"),none,(.func fd309),#[]⟩),
(315,⟨(.type "code"),none,(.fields #[(.str (Qc "_convert_string_type") 796),(.str (Qc "Headers._convert_string_type") 797),(.str (Qc "/claim/cut.py") 798),(.int (362) 0),(.int (2) 0),(.int (0) 0),(.int (1) 0),(.int (3) 0),(.ref 310),(.bool true),(.int (276) 0),(.ref 311),.none,(.ref 312),(.ref 313),(.ref 314),(.int (803) 0),(.int (362) 0),(.str (Qc "/claim/cut.py") 804)]),#[]⟩),
(316,⟨(.type "function"),none,(.func fd316),#[]⟩),
(329,⟨(.type "code"),none,(.fields #[(.str (Qc "__setitem__") 815),(.str (Qc "Headers.__setitem__") 816),(.str (Qc "/claim/cut.py") 817),(.int (375) 0),(.int (3) 0),(.int (0) 0),(.int (0) 0),(.int (3) 0),(.ref 324),(.bool true),(.int (276) 0),(.ref 325),.none,(.ref 326),(.ref 327),(.ref 328),(.int (821) 0),(.int (375) 0),(.str (Qc "/claim/cut.py") 822)]),#[]⟩),
(330,⟨(.type "function"),none,(.func fd330),#[]⟩),
(334,⟨(.type "code"),none,(.fields #[(.str (Qc "__delitem__") 825),(.str (Qc "Headers.__delitem__") 826),(.str (Qc "/claim/cut.py") 827),(.int (380) 0),(.int (2) 0),(.int (0) 0),(.int (0) 0),(.int (3) 0),(.ref 331),(.bool true),(.int (276) 0),(.ref 332),.none,.none,.none,(.ref 333),(.int (828) 0),(.int (380) 0),(.str (Qc "/claim/cut.py") 829)]),#[]⟩),
(335,⟨(.type "function"),none,(.func fd335),#[]⟩),
(353,⟨(.type "code"),none,(.fields #[(.str (Qc "get_all") 850),(.str (Qc "Headers.get_all") 851),(.str (Qc "/claim/cut.py") 852),(.int (403) 0),(.int (2) 0),(.int (0) 0),(.int (0) 0),(.int (3) 0),(.ref 350),(.bool true),(.int (276) 0),(.ref 351),.none,.none,.none,(.ref 352),(.int (853) 0),(.int (403) 0),(.str (Qc "/claim/cut.py") 854)]),#[]⟩),
(354,⟨(.type "function"),none,(.func fd354),#[]⟩),
(378,⟨(.type "code"),none,(.fields #[(.str (Qc "items") 883),(.str (Qc "Headers.items") 884),(.str (Qc "/claim/cut.py") 885),(.int (442) 0),(.int (1) 0),(.int (0) 0),(.int (0) 0),(.int (3) 0),(.ref 373),(.bool true),(.int (276) 0),(.ref 374),.none,(.ref 375),(.ref 376),(.ref 377),(.int (887) 0),(.int (442) 0),(.str (Qc "/claim/cut.py") 888)]),#[]⟩),
(379,⟨(.type "function"),none,(.func fd379),#[]⟩),
(411,⟨(.type "code"),none,(.fields #[(.str (Qc "add_header") 921),(.str (Qc "Headers.add_header") 922),(.str (Qc "/claim/cut.py") 923),(.int (466) 0),(.int (3) 0),(.int (0) 0),(.int (0) 0),(.int (11) 0),(.ref 406),(.bool true),(.int (276) 0),(.ref 407),.none,(.ref 408),(.ref 409),(.ref 410),(.int (931) 0),(.int (466) 0),(.str (Qc "/claim/cut.py") 932)]),#[]⟩),
(412,⟨(.type "function"),none,(.func fd412),#[]⟩),
(414,⟨(.type "dict"),none,(.dict #[⟨PyData.keyHash P (Qc "__module__"),(.str (Qc "__module__") 778),(.str (Qc "cpy313.wsgiref.headers") 664)⟩,⟨PyData.keyHash P (Qc "__firstlineno__"),(.str (Qc "__firstlineno__") 782),(.int (349) 781)⟩,⟨PyData.keyHash P (Qc "__doc__"),(.str (Qc "__doc__") 784),(.str (Qc "Manage a collection of HTTP response headers") 783)⟩,⟨PyData.keyHash P (Qc "__init__"),(.str (Qc "__init__") 795),(.ref 309)⟩,⟨PyData.keyHash P (Qc "_convert_string_type"),(.str (Qc "_convert_string_type") 806),(.ref 316)⟩,⟨PyData.keyHash P (Qc "__len__"),(.str (Qc "__len__") 814),(.ref 323)⟩,⟨PyData.keyHash P (Qc "__setitem__"),(.str (Qc "__setitem__") 824),(.ref 330)⟩,⟨PyData.keyHash P (Qc "__delitem__"),(.str (Qc "__delitem__") 831),(.ref 335)⟩,⟨PyData.keyHash P (Qc "__getitem__"),(.str (Qc "__getitem__") 840),(.ref 342)⟩,⟨PyData.keyHash P (Qc "__contains__"),(.str (Qc "__contains__") 849),(.ref 349)⟩,⟨PyData.keyHash P (Qc "get_all"),(.str (Qc "get_all") 856),(.ref 354)⟩,⟨PyData.keyHash P (Qc "get"),(.str (Qc "get") 868),(.ref 362)⟩,⟨PyData.keyHash P (Qc "keys"),(.str (Qc "keys") 875),(.ref 367)⟩,⟨PyData.keyHash P (Qc "values"),(.str (Qc "values") 882),(.ref 372)⟩,⟨PyData.keyHash P (Qc "items"),(.str (Qc "items") 890),(.ref 379)⟩,⟨PyData.keyHash P (Qc "__repr__"),(.str (Qc "__repr__") 897),(.ref 386)⟩,⟨PyData.keyHash P (Qc "__str__"),(.str (Qc "__str__") 904),(.ref 391)⟩,⟨PyData.keyHash P (Qc "__bytes__"),(.str (Qc "__bytes__") 911),(.ref 398)⟩,⟨PyData.keyHash P (Qc "setdefault"),(.str (Qc "setdefault") 920),(.ref 405)⟩,⟨PyData.keyHash P (Qc "add_header"),(.str (Qc "add_header") 934),(.ref 412)⟩,⟨PyData.keyHash P (Qc "__static_attributes__"),(.str (Qc "__static_attributes__") 936),(.ref 413)⟩,⟨PyData.keyHash P (Qc "__dict__"),(.str (Qc "__dict__") 938),(.ref 416)⟩,⟨PyData.keyHash P (Qc "__weakref__"),(.str (Qc "__weakref__") 940),(.ref 417)⟩] 3),#[]⟩),
(415,⟨(.type "type"),none,(.cls {name:=(Qc "Headers"),bases:=[(.type "object")],mro:=[(.ref 415),(.type "object")],ns:=414,qualname:=(Qc "Headers"),hasDict:=true,slotNames:=[],subclasses:=[],abstract:=false,collection:=none,hasDel:=false}),#[none,none,(some (.str (Qc "Headers") 771)),(some (.str (Qc "Headers") 779)),(some (.builtin "object.__new__")),(some (.bool true))]⟩),
(423,⟨(.type "code"),none,(.fields #[(.str (Qc "_law_figures") 945),(.str (Qc "_law_figures") 946),(.str (Qc "/claim/cut.py") 947),(.int (495) 0),(.int (1) 0),(.int (0) 0),(.int (0) 0),(.int (3) 0),(.ref 420),(.bool true),(.int (276) 0),(.ref 421),.none,.none,.none,(.ref 422),(.int (948) 0),(.int (495) 0),(.str (Qc "/claim/cut.py") 949)]),#[]⟩),
(424,⟨(.type "function"),none,(.func fd424),#[]⟩),
(428,⟨(.type "code"),none,(.fields #[(.str (Qc "_law_octets") 951),(.str (Qc "_law_octets") 952),(.str (Qc "/claim/cut.py") 953),(.int (502) 0),(.int (1) 0),(.int (0) 0),(.int (0) 0),(.int (3) 0),(.ref 425),(.bool true),(.int (276) 0),(.ref 426),.none,.none,.none,(.ref 427),(.int (954) 0),(.int (502) 0),(.str (Qc "/claim/cut.py") 955)]),#[]⟩),
(429,⟨(.type "function"),none,(.func fd429),#[]⟩),
(433,⟨(.type "code"),none,(.fields #[(.str (Qc "_law_text") 957),(.str (Qc "_law_text") 958),(.str (Qc "/claim/cut.py") 959),(.int (509) 0),(.int (2) 0),(.int (0) 0),(.int (0) 0),(.int (3) 0),(.ref 430),(.bool true),(.int (276) 0),(.ref 431),.none,.none,.none,(.ref 432),(.int (960) 0),(.int (509) 0),(.str (Qc "/claim/cut.py") 961)]),#[]⟩),
(434,⟨(.type "function"),none,(.func fd434),#[]⟩),
(440,⟨(.type "code"),none,(.fields #[(.str (Qc "_law_spelled") 963),(.str (Qc "_law_spelled") 964),(.str (Qc "/claim/cut.py") 965),(.int (512) 0),(.int (2) 0),(.int (0) 0),(.int (0) 0),(.int (3) 0),(.ref 435),(.bool true),(.int (276) 0),(.ref 436),.none,(.ref 437),(.ref 438),(.ref 439),(.int (970) 0),(.int (512) 0),(.str (Qc "/claim/cut.py") 971)]),#[]⟩),
(441,⟨(.type "function"),none,(.func fd441),#[]⟩),
(447,⟨(.type "code"),none,(.fields #[(.str (Qc "_law_written") 973),(.str (Qc "_law_written") 974),(.str (Qc "/claim/cut.py") 975),(.int (521) 0),(.int (2) 0),(.int (0) 0),(.int (0) 0),(.int (3) 0),(.ref 442),(.bool true),(.int (276) 0),(.ref 443),.none,(.ref 444),(.ref 445),(.ref 446),(.int (978) 0),(.int (521) 0),(.str (Qc "/claim/cut.py") 979)]),#[]⟩),
(448,⟨(.type "function"),none,(.func fd448),#[]⟩),
(452,⟨(.type "code"),none,(.fields #[(.str (Qc "_law_lacks") 981),(.str (Qc "_law_lacks") 982),(.str (Qc "/claim/cut.py") 983),(.int (523) 0),(.int (2) 0),(.int (0) 0),(.int (0) 0),(.int (3) 0),(.ref 449),(.bool true),(.int (276) 0),(.ref 450),.none,.none,.none,(.ref 451),(.int (984) 0),(.int (523) 0),(.str (Qc "/claim/cut.py") 985)]),#[]⟩),
(453,⟨(.type "function"),none,(.func fd453),#[]⟩),
(457,⟨(.type "code"),none,(.fields #[(.str (Qc "_law_lists") 987),(.str (Qc "_law_lists") 988),(.str (Qc "/claim/cut.py") 989),(.int (525) 0),(.int (3) 0),(.int (0) 0),(.int (0) 0),(.int (3) 0),(.ref 454),(.bool true),(.int (276) 0),(.ref 455),.none,.none,.none,(.ref 456),(.int (990) 0),(.int (525) 0),(.str (Qc "/claim/cut.py") 991)]),#[]⟩),
(458,⟨(.type "function"),none,(.func fd458),#[]⟩),
(462,⟨(.type "code"),none,(.fields #[(.str (Qc "_law_headers") 993),(.str (Qc "_law_headers") 994),(.str (Qc "/claim/cut.py") 995),(.int (535) 0),(.int (5) 0),(.int (0) 0),(.int (0) 0),(.int (3) 0),(.ref 459),(.bool true),(.int (276) 0),(.ref 460),.none,.none,.none,(.ref 461),(.int (996) 0),(.int (535) 0),(.str (Qc "/claim/cut.py") 997)]),#[]⟩),
(463,⟨(.type "function"),none,(.func fd463),#[]⟩),
(467,⟨(.type "code"),none,(.fields #[(.str (Qc "_law_binary") 999),(.str (Qc "_law_binary") 1000),(.str (Qc "/claim/cut.py") 1001),(.int (549) 0),(.int (3) 0),(.int (0) 0),(.int (0) 0),(.int (3) 0),(.ref 464),(.bool true),(.int (276) 0),(.ref 465),.none,.none,.none,(.ref 466),(.int (1002) 0),(.int (549) 0),(.str (Qc "/claim/cut.py") 1003)]),#[]⟩),
(468,⟨(.type "function"),none,(.func fd468),#[]⟩),
(472,⟨(.type "code"),none,(.fields #[(.str (Qc "law") 1005),(.str (Qc "law") 1006),(.str (Qc "/claim/cut.py") 1007),(.int (568) 0),(.int (1) 0),(.int (0) 0),(.int (0) 0),(.int (3) 0),(.ref 469),(.bool true),(.int (276) 0),(.ref 470),.none,.none,.none,(.ref 471),(.int (1008) 0),(.int (568) 0),(.str (Qc "/claim/cut.py") 1009)]),#[]⟩),
(473,⟨(.type "function"),none,(.func fd473),#[]⟩)]
noncomputable def KF(P:Params):Frag:=KFl P
noncomputable def NF:List (Str×Option QS):=[
((Qc "_sre"),some (.ref 12)),
((Qc "_wall"),some (.ref 38)),
((Qc "_tuplegetter"),some (.ref 77)),
((Qc "sorted_list_difference"),some (.ref 88)),
((Qc "three_way_cmp"),some (.ref 95)),
((Qc "Mismatch"),some (.ref 166)),
((Qc "_Mismatch"),some (.ref 166)),
((Qc "_count_diff_all_purpose"),some (.ref 176)),
((Qc "bytes_types"),some (.ref 177)),
((Qc "_bytes_from_decode_data"),some (.ref 184)),
((Qc "Error"),some (.ref 194)),
((Qc "_ascii_buffer"),some (.ref 204)),
((Qc "_buffer"),some (.ref 211)),
((Qc "_truth"),some (.ref 218)),
((Qc "_B64"),some (.bytes b64tab 577)),
((Qc "_b64_value"),some (.ref 225)),
((Qc "a2b_base64"),some (.ref 233)),
((Qc "b2a_base64"),some (.ref 241)),
((Qc "b64encode"),some (.ref 249)),
((Qc "b64decode"),some (.ref 257)),
((Qc "_urlsafe_encode_translation"),some (.bytes teA 641)),
((Qc "_urlsafe_decode_translation"),some (.bytes tdA 646)),
((Qc "urlsafe_b64encode"),some (.ref 264)),
((Qc "urlsafe_b64decode"),some (.ref 271)),
((Qc "tspecials"),some (.ref 276)),
((Qc "_name_disallowed_re"),some (.ref 281)),
((Qc "_value_disallowed_re"),some (.ref 286)),
((Qc "_formatparam"),some (.ref 294)),
((Qc "Headers"),some (.ref 415)),
((Qc "_law_figures"),some (.ref 424)),
((Qc "_law_octets"),some (.ref 429)),
((Qc "_law_text"),some (.ref 434)),
((Qc "_law_spelled"),some (.ref 441)),
((Qc "_law_written"),some (.ref 448)),
((Qc "_law_lacks"),some (.ref 453)),
((Qc "_law_lists"),some (.ref 458)),
((Qc "_law_headers"),some (.ref 463)),
((Qc "_law_binary"),some (.ref 468)),
((Qc "law"),some (.ref 473))]
section
variable {prog:QV}{w:QX}{G:Gd prog w}{N:Nat}{A:QT}
theorem QFs{α:Type}:∀{l:List (Nat×α)} {a:Nat} {b:α},l.lookup a=some b→(a,b)∈l
 |(k,v)::r,a,b,h=>by
  rw [Qt] at h
  cases q:a==k with
  |true=>rw [q] at h;cases h;rw [eq_of_beq q];exact .head _
  |false=>rw [q] at h;exact .tail _ (QFs h)
theorem QG7(P:Params):∀a o,(KF P).lookup a=some o→a<gsz:=by
 intro a o h
 have hm:=QFs h
 have:((KF P).map (·.1)).all (fun a=>decide (a<gsz))=true:=by kernel_rfl
 exact of_decide_eq_true (List.all_eq_true.mp this a (Qw.mpr ⟨_,hm,rfl⟩))
theorem QJE{K:Frag}{C:QW}{cd:ClassData}(h:clsIn K C=some cd):∃oc od sl,K.lookup C=some ⟨oc,od,.cls cd,sl⟩:=by
 unfold clsIn at h
 cases q:K.lookup C with
 |none=>rw [q] at h;exact QAV h
 |some o=>
  rw [q] at h
  obtain ⟨oc,od,dt,sl⟩:=o
  cases dt with
  |cls f=>cases h;exact ⟨oc,od,sl,rfl⟩
  |_=>exact QAV h
theorem QMF(P:Params):∃cd oc od sl,(KF P).lookup 166=some ⟨oc,od,.cls cd,sl⟩∧clsIn (KF P) 166=some cd∧cd.abstract=false∧cd.hasDel=false∧cd.mro.isEmpty=false:=by
 refine oEA (any_some (x:=clsIn (KF P) 166) (p:=fun cd=> !cd.abstract&& !cd.hasDel&& !cd.mro.isEmpty) (by kernel_rfl)) fun cd h1 h2=>?_
 refine QJW (QJE h1) fun oc od sl h3=>?_
 simp only [QAT,Bool.not_eq_true'] at h2
 exact ⟨cd,oc,od,sl,h3,h1,h2.1.1,h2.1.2,h2.2⟩
theorem QPp{R:Result→QR→Prop}{s:QR}{t:QW}{ot:Obj}{items:Array QS}{n:Nat}(X:(KF w.params).In s.heap)(ht:s.heap.get? t=some ot)(hc:ot.cls= .type "tuple")(hd:ot.data= .seq items n)(hsz:items.size≤sizeLine)
  (hq:∀h':Heap,(∀b o',s.heap.get? b=some o'→h'.get? b=some o')→R (.ok (.ret (.ref (h'.objs.size+1)))) {s with heap:=(h'.push {cls:= .type "dict",data:= .dict #[]}).push {cls:= .ref 166,dict:=some h'.objs.size,data:= .seq items}}):
  codeAny (model prog w) A (.call (.builtin "tuple.__new__") ⟨[.ref 166,.ref t],[]⟩) R s:=by
 have lchk:Looks (model prog w) s.heap (checkBuiltinCall "tuple.__new__" ⟨[.ref 166,.ref t],[]⟩) ():=Looks.of_peek X (by kernel_rfl)
 have l1:Looks (model prog w) s.heap (isType (.ref 166)) true:=Looks.of_peek X (by kernel_rfl)
 have l2:Looks (model prog w) s.heap (isSubtype (.ref 166) (.type "tuple")) true:=Looks.of_peek X (by kernel_rfl)
 have l3:Looks (model prog w) s.heap (Bind.madeHere "tuple.__new__" (.ref 166)) ():=Looks.of_peek X (by kernel_rfl)
 have l4:Looks (model prog w) s.heap (typeLookup (.ref 166) "__init__") (some (.builtin "object.__init__")):=Looks.of_peek X (by kernel_rfl)
 refine codeAny_of_tree ?_
 skip
 refine QB (lchk.here (QC ⟨plainId_quiet F.plain_tuple_new _,codeAny_builtin F.entry_tuple_new ?_⟩))
 rw [Around.under_plainId F.plain_tuple_new _]
 skip
 skip
 refine QB (l1.here ?_)
 simp only [Bool.not_true,Bool.false_eq_true,if_false]
 refine QB (l2.here ?_)
 simp only [Bool.not_true,Bool.false_eq_true,if_false]
 refine QB (l3.here ?_)
 refine QB (l4.here ?_)
 have ms:(Value.ref 166==Value.type "tuple")=false:=by decide
 have nk:noKeywords "tuple" ⟨[.ref 166,.ref t],[]⟩=pure ():=by kernel_rfl
 have cc:checkCount "tuple" 0 1 [Value.ref t].length=pure ():=by kernel_rfl
 rw [if_pos (by decide),nk,cc]
 refine QB (QC (QB (QC ?_)))
 simp only [ms,Bool.false_eq_true,if_false]
 refine QB (wpAny_collect_seq (hsz:=hsz) t (.inr rfl) ht hc hd fun h' hk=>?_)
 refine QB (QC (QB (wpAny_alloc (QB ?_))))
 refine QA7 (QMF w.params) fun cd oc od sl hl hci e1 e2 e4=>?_
 have hC:=hk _ _ (X 166 _ hl)
 have e:items.toList.toArray=items:=by simp
 rw [e]
 unfold newObj
 dsimp only
 rw [if_neg (by omega)]
 skip
 refine QB (wpAny_alloc (QB (QB (wpAny_load (Heap.get?_push_of_some _ (Heap.get?_push_of_some _ hC)) (QC ?_)))))
 rw [e2]
 refine QC (QC ?_)
 skip
 rw [Heap.size_push]
 exact hq h' hk
theorem QMr(v:QW)(rest:List QS):(Code.builtin "type.__call__" ⟨.ref v::rest,[]⟩).weight=1:=by kernel_rfl
theorem QOI(v:QW)(rest:List QS):(Code.builtin "type.__call__" ⟨.ref v::rest,[]⟩).cUnits=1:=by kernel_rfl
theorem QQB(v:QW)(rest:List QS):(Code.builtin "type.__call__" ⟨.ref v::rest,[]⟩).envs=[]:=by kernel_rfl
theorem Rm.tc{n:Nat}{v:QW}{rest:List QS}(r:Rm A (n+1)):Rm (A.under (.builtin "type.__call__" ⟨.ref v::rest,[]⟩)) n:=
 ⟨fun k=>r.hnd (by exact zn1 [_] 1 (.n 10) (.a (.v 0) (.n 1)) 1 (.n 10) (.v 0) rfl k),by have:=r.dep;show A.depth+Code.weight _+n<_;rw [QMr];exact zn1 [_,_,_] 1 (.a (.a (.a (.v 0) (.n 1)) (.v 1)) (.n 1)) (.v 2) 1 (.a (.a (.v 0) (.a (.v 1) (.n 1))) (.n 1)) (.v 2) rfl this,by have:=r.uni;show A.units+Code.cUnits _+8*n<_;rw [QOI];exact zn1 [_,_,_] 1 (.a (.a (.a (.v 0) (.n 1)) (.m 8 (.v 1))) (.n 1)) (.v 2) 1 (.a (.a (.v 0) (.m 8 (.a (.v 1) (.n 1)))) (.n 1)) (.v 2) rfl this⟩
theorem QCr.tc{v:QW}{rest:List QS}{h:Heap}(x:QCr A h):QCr (A.under (.builtin "type.__call__" ⟨.ref v::rest,[]⟩)) h:=by
 revert x
 refine rEA fun fr e H=>?_
 refine ⟨fr,?_,H⟩
 unfold Around.under
 dsimp only
 rw [QQB,e];rfl
theorem QOw{R:Result→QR→Prop}{s:QR}{v1 v2 v3:QS}(X:(KF w.params).In s.heap)
  (hnew:∀tk,Qa (model prog w) (A.under (.builtin "type.__call__" ⟨[.ref 166,v1,v2,v3],[]⟩)) (call (.ref 113) [.ref 166,v1,v2,v3]) (fun v s'=>∃x dd items n sl,v= .ref x∧(KF w.params).In s'.heap∧s'.heap.get? x=some ⟨.ref 166,dd,.seq items n,sl⟩∧R (.ok (.ret v)) s') (fun e s'=>R (.error e) s') {s with toks:=tk}):
  codeAny (model prog w) A (.call (.ref 166) ⟨[v1,v2,v3],[]⟩) R s:=by
 obtain ⟨h,g,d,t,os⟩:=s
 have lcall:Looks (model prog w) h (specialOf (.ref 166) "__call__") (some (.builtin "type.__call__")):=looks_specialIn X (by kernel_rfl)
 have ltyp:Looks (model prog w) h (isInstance (.ref 166) (.type "type")) true:=looks_instIn X (by kernel_rfl)
 have lmade:Looks (model prog w) h (Bind.madeBy (.ref 166)) none:=Looks.of_peek X (by kernel_rfl)
 refine QA7 (QMF w.params) fun cd oc od sl hl hci e1 e2 e4=>?_
 have hC:=X 166 _ hl
 have hm:Looks (model prog w) h (mroOf (.ref 166)) cd.mro:=(looks_clsIn X hci).andThen .now
 refine codeAny_of_tree ?_
 skip
 refine nd_load hC ?_
 show Qa _ _ (callAny.viaDunder (.ref 166) _) _ _ _
 unfold callAny.viaDunder
 refine QB (lcall.at ?_)
 dsimp only
 rw [tc_bind]
 refine QB (QC (QB (QC ?_)))
 refine QC (a:=Fin.again (.call (.builtin "type.__call__") ⟨.ref 166::[v1,v2,v3],[]⟩)) (And.intro rfl ?_)
 refine codeAny_call_builtin_at (Code.quiet_builtin _ (by decide+kernel)) entry_typeCall (check_slot tc_kind tc_split ltyp (tc_args _ _ _) ?_)
 unfold Builtin.«type.__call__»
 have ms:(Value.ref 166==Value.type "type")=false:=by decide
 dsimp only
 generalize hga:getAttr (Value.ref 166) (Qc "__new__")=ga
 repeat (first|simp only [e4,ms,Bool.false_eq_true,if_false]|lk)
 subst hga
 refine cls_bind X (mc:= .type "type") (by kernel_rfl) (show findCls (KF w.params) (.ref 166) (.type "type") "__new__"=some (.get (.builtin "staticmethod.__get__") (.ref 167) .none (.ref 166)) by kernel_rfl) (wpAny_call (sm_get (s:=⟨h,g,d,t+1,os⟩) X (by kernel_rfl:recIn (KF w.params) 167 "staticmethod"=some [.ref 113]) (handed_on (by kernel_rfl) ?_)))
 refine QB (QF (QL (hnew (t+1)) (fun v s' hv=>?_) fun _ _ e=>e))
 revert hv
 refine QJU fun x dd items n sl=>QEg fun ζ5 X' hx hr=>?_
 subst ζ5
 have t1:Looks (model prog w) s'.heap (typeOf (.ref x)) (.ref 166):=(Looks.ld hx).andThen .now
 have i1:Looks (model prog w) s'.heap (isInstance (.ref x) (.ref 166)) true:=t1.andThen (looks_subIn X' (by kernel_rfl))
 have i2:Looks (model prog w) s'.heap (isInstance (.ref x) (.type "object")) true:=t1.andThen (looks_subIn X' (by kernel_rfl))
 have l4:Looks (model prog w) s'.heap (typeLookup (.ref 166) "__init__") (some (.builtin "object.__init__")):=Looks.of_peek X' (by kernel_rfl)
 have l5:Looks (model prog w) s'.heap (Bind.madeBy (.ref 166)) none:=Looks.of_peek X' (by kernel_rfl)
 refine QB (i1.here ?_)
 simp only [Bool.not_true,Bool.false_eq_true,if_false]
 skip
 have fin:Qa (model prog w) (A.under (.builtin "type.__call__" ⟨[.ref 166,v1,v2,v3],[]⟩)) (call (.builtin "object.__init__") [.ref x,v1,v2,v3]) (fun v s''=>v= .none∧s''=s') (fun e s'=>R (.error e) s') s':=by
  refine wpAny_call (codeAny_call_builtin oi_plain entry_oi (@check_slot (model prog w) _ _ _ "object.__init__" "object" "__init__" (.ref x) [v1,v2,v3] [] _ oi_kind oi_split i2 (by unfold argsOk;kernel_rfl) ?_))
  skip
  skip
  have hne:(!([v1,v2,v3]:List QS).isEmpty|| !([]:List (Str×QS)).isEmpty)=true:=rfl
  simp only [hne,if_true]
  refine QB (t1.here (QB (l4.here (QB (l5.here ?_)))))
  simp only [bne_self_eq_false,Bool.false_eq_true,if_false]
  rw [if_neg (by decide)]
  exact QC ⟨rfl,rfl⟩
 refine QB (QF (QB (QB (t1.here (l4.here ?_)))))
 skip
 refine QF ?_
 rw [oi_bind]
 refine QB (QC (QB (QL fin (fun v s'' hv=>?_) fun _ _ e=>e)))
 revert hv
 refine rA fun ζ0 ζ1=>?_
 subst ζ0
 subst ζ1
 refine QC ?_
 dsimp only
 rw [if_neg (by decide)]
 exact QC hr
end
noncomputable def QKG(K:Frag)(a:QW):Option QZ:=match K.lookup a with
 |some ⟨_,_,.func fd,_⟩=>some fd
 |_=>none
theorem QFt{K:Frag}{a:QW}{fd:QZ}(h:QKG K a=some fd):∃oc od sl,K.lookup a=some ⟨oc,od,.func fd,sl⟩:=by
 unfold QKG at h
 cases q:K.lookup a with
 |none=>rw [q] at h;exact QAV h
 |some o=>
  rw [q] at h
  obtain ⟨oc,od,dt,sl⟩:=o
  cases dt with
  |func f=>cases h;exact ⟨oc,od,sl,rfl⟩
  |_=>exact QAV h
noncomputable def isStr(v:Option QS)(q:Str):Bool:=match v with
 |some (.str n _)=>n==q
 |_=>false
noncomputable def codeAt(o:Option Obj)(q:Str):Bool:=match o with
 |some ⟨_,_,.fields vs,_⟩=>isStr vs[1]? q
 |_=>false
noncomputable def QNq(K:Frag)(cd:QS)(q:Str):Bool:=match cd with
 | .ref c=>codeAt (K.lookup c) q
 |_=>false
theorem QOt{v:Option QS}{q:Str}(h:isStr v q=true):∃t,v=some (.str q t):=by
 cases v with
 |none=>exact absurd h QAS
 |some v=>cases v with
  |str n t=>exact ⟨t,eq_of_beq h▸rfl⟩
  |_=>exact absurd h QAS
theorem QMY{o:Option Obj}{q:Str}(h:codeAt o q=true):∃oc od vs sl,o=some ⟨oc,od,.fields vs,sl⟩∧isStr vs[1]? q=true:=by
 cases o with
 |none=>exact absurd h QAS
 |some o=>
  obtain ⟨oc,od,dt,sl⟩:=o
  cases dt with
  |fields vs=>exact ⟨oc,od,vs,sl,rfl,h⟩
  |_=>exact absurd h QAS
noncomputable def QMJ(K:Frag)(fd:QZ):Bool:=QNq K fd.code fd.qualname&&fd.closure.isEmpty&&fd.globals==mainGlobals&&fd.builtins==builtinsNs&& !fd.scope.isCoroutine&& !fd.scope.isGenerator&&fd.scope.kind== .function
section
variable {prog:QV}{w:QX}{G:Gd prog w}{N:Nat}{A:QT}
set_option tactic.hygienic true in
theorem QDa{K:Frag}{a:QW}{fd:QZ}{body:List Stmt}(X:K.In G.h)(h:QKG K a=some fd)(hb:fd.body= .stmts body)(ok:QMJ K fd=true):∃o,MAt G a o fd body:=by
 refine QJW (QFt h) fun oc od sl hl=>?_
 unfold QMJ at ok
 simp only [QAT,beq_iff_eq,Bool.not_eq_true'] at ok
 revert ok
 refine rA fun ζ0 h7=>?_
 obtain ⟨⟨⟨⟨⟨h1,h2⟩,h3⟩,h4⟩,h5⟩,h6⟩:=ζ0
 refine ⟨_,X _ _ hl,rfl,hb,?_,List.isEmpty_iff.mp h2,h3,h4,h5,h6,h7⟩
 cases hc:fd.code with
 |ref c=>
  rw [hc] at h1
  exact QFz (QMY h1) fun oc' od' vs sl'=>rA fun hl' h1=>oE (QOt h1) fun t hv=>⟨c,_,vs,t,rfl,X _ _ hl',rfl,hv⟩
 |_=>rw [hc] at h1;exact absurd h1 QAS
theorem Vw.kin{env:Env}{ρ:PE}{g:Fz}{h:Heap}(V:Vw G A env ρ g h)(X:(KF w.params).In G.h):(KF w.params).In h:=fun a o e=>V.low (QG7 _ a o e) (X a o e)
theorem QOi{g:Fz}{h:Heap}(fi:FIn g h)(base:FLe G.h.get? g)(X:(KF w.params).In G.h):(KF w.params).In h:=fun a o e=>by
 refine oEA (fi a o (base a o (X a o e))) fun o' e' s=>?_
 rw [s.low (QG7 _ a o e)] at e';exact e'
noncomputable def QGF(h:Heap):Heap:=⟨h.objs.extract 0 gsz,h.life⟩
theorem QFx{h:Heap}(a:Nat):(QGF h).get? a=if a<gsz then h.get? a else none:=by
 unfold Heap.get? QGF
 rw [Array.getElem?_extract]
 by_cases q:a<gsz
 ·rw [if_pos q]
  by_cases q2:a<h.objs.size
  ·have:a<min gsz h.objs.size-0:=Nat.lt_min.mpr ⟨q,q2⟩
   rw [if_pos this,Qm]
  ·have:¬a<min gsz h.objs.size-0:=fun e=>q2 (Qp e (Nat.min_le_right _ _))
   rw [if_neg this,Array.getElem?_eq_none (by exact zn1 [_,_] 1 (.v 0) (.v 1) 1 (.v 0) (.v 1) rfl (Nat.le_of_not_lt q2))]
 ·have:¬a<min gsz h.objs.size-0:=fun e=>q (Qp e (Nat.min_le_left _ _))
  rw [if_neg this,if_neg q]
theorem frK{h:Heap}{L:QW}{m:Str→Option QS}(X:(KF w.params).In h)(hn:h.Ns L m)(hL:gsz≤L):Fr (QGF h) L h m∧(KF w.params).In (QGF h):=by
 refine ⟨⟨hn,fun b o e=>?_,?_⟩,fun a o e=>?_⟩
 ·rw [QFx] at e
  split at e
  ·exact e
  ·cases e
 ·exact Qd (Qe Array.size_extract) (Qd (Nat.min_le_left _ _) hL)
 ·rw [QFx,if_pos (QG7 _ _ _ e)];exact X a o e
theorem Sv.above{g₀:Fz}{s₀:QR}{env:Env}{σ:PS}{oa:Str→QW}{g:Fz}{s:QR}(S:Sv G A g₀ s₀ env σ oa g s)(hf:env.frame=some env.locals)(hfr:∃fr,A.frames=some (env::fr)):gsz≤env.locals:=by
 refine oEA S.vw.fr fun fr h1 H=>?_
 revert hfr
 refine rE fun fr' h2=>?_
 rw [h1] at h2;cases h2
 refine oA (H env (.head _)) fun _=>QEZ fun L o es ep=>rAA fun h3 h4 _=>?_
 rw [hf] at h3;cases h3
 exact h4
theorem L2.cons{α:Type}{P:α→D→Prop}{e:α}{d:D}{es:List α}{r:List D}(h:P e d)(h2:L2 P es r):L2 P (e::es) (d::r):=⟨_,_,rfl,h,h2⟩
noncomputable def QT0:QBR:=fun ds ks d=>∃x y z,ds=[.obj 166,x,y,z]∧ks=[]∧d= .inst 166 [x,y,z]
theorem QNF(X:(KF w.params).In G.h)(hC:COk G (QBU [("tuple",.typ "tuple")])){x y z:D}:QAu G 10 (mS 6 4).names (mB 6 4) [(nm "_cls",.obj 166),(nm "actual",x),(nm "expected",y),(nm "value",z)] (.inst 166 [x,y,z]):=by
 intro A env g₀ s₀ s Q E R hfm hfr S k
 refine QD (QCY A env g₀ s₀ _ g₀ s _ _ R S fun g1' sh1 oa1 S1 M1=>?_)
 refine QD (wpAny_Return_some ?_)
 refine methodCall_KW (name:=Qc "__new__") (QG5 (d:= .typ "tuple") hC (by decide) (by kernel_rfl) A env _ _ _ _ R S1.vw fun g2' sh2 v2 x2 d2=>?_)
 cases d2.out
 have S2:=S1.up x2
 refine oE S2.ns fun m2 hm2=>?_
 refine oA (frK (S2.vw.kin X) hm2 (S2.above hfm hfr)) fun F2 X2=>?_
 have e:=(show findCls (KF w.params) (.type "tuple") (.type "type") (Qc "__new__")=some (.val (.builtin "tuple.__new__")) by kernel_rfl)
 with_reducible refine method_type F2 X2 (by kernel_rfl) (by kernel_rfl) e (by kernel_rfl) ?_
 have S3:=S2.up (.tok S2.vw.inn (tk:=sh2.toks+1))
 refine QAf (fun a e=>by cases e) rfl (QBf (ds:=[.obj 166,.tup [x,y,z]]) (.cons (QBH (by decide) (by kernel_rfl) (by kernel_rfl)) (.one (QQw (.cons (QBH (by decide) (by kernel_rfl) (by kernel_rfl)) (.cons (QBH (by decide) (by kernel_rfl) (by kernel_rfl)) (.one (QBH (by decide) (by kernel_rfl) (by kernel_rfl))))) rfl (by show 3≤20;decide)))) rfl R S3.vw fun g5 sh5 vs x45 dvs=>?_)
 refine QBO dvs.two fun v4 v5 ζ2 d4 d5=>?_
 subst ζ2
 cases d4.out
 refine QKu d5.tpl fun t5 vs5 ζ2 hl hsz hT=>?_
 subst ζ2
 have V5:=S3.vw.up x45
 refine QFw (hT _ V5.inn) fun ot ho hc n5 hd5=>?_
 have hsz:vs5.size≤sizeLine:=hsz▸Qd (by decide:3≤100000) QAb
 refine wpAny_call (QPp (V5.kin X) ho hc hd5 hsz fun h' hk=>?_)
 have xx:=(x2.trans (.tok S2.vw.inn (tk:=sh2.toks+1))).trans x45
 have hle:HLe sh5.heap ((h'.push {cls:= .type "dict",data:= .dict #[]}).push {cls:= .ref 166,dict:=some h'.objs.size,data:= .seq vs5}):= .of fun b o e=>Heap.get?_push_of_some _ (Heap.get?_push_of_some _ (hk b o e))
 have hnew:sh5.heap.get? (h'.objs.size+1)=none:=by
  cases q:sh5.heap.get? (h'.objs.size+1) with
  |none=>rfl
  |some o=>exact absurd (Heap.lt_size (hk _ _ q)) (Nat.not_lt.mpr (Nat.le_succ _))
 have hat:((h'.push {cls:= .type "dict",data:= .dict #[]}).push {cls:= .ref 166,dict:=some h'.objs.size,data:= .seq vs5}).get? (h'.objs.size+1)=some {cls:= .ref 166,dict:=some h'.objs.size,data:= .seq vs5}:=by
  have:=Heap.get?_push_size (o:={cls:= .ref 166,dict:=some h'.objs.size,data:= .seq vs5}) (h'.push {cls:= .type "dict",data:= .dict #[]}) rfl
  rw [Heap.size_push] at this
  exact this
 have xa:=Ext.add (tk:=sh5.toks) V5.inn hle hnew hat
 exact k _ _ _ ((S1.ext.trans xx).trans xa) (.inst (Fz.add_self _ _ _) rfl rfl (hl.mono xa.le))
theorem QO4(X:(KF w.params).In G.h)(hC:COk G (QBU [("tuple",.typ "tuple")])):QBB G 11 113 QT0:=by
 refine oE (QDa (G:=G) (a:=113) (fd:=fd113) (body:=mB 6 4) X (by kernel_rfl) rfl (by kernel_rfl)) fun o T=>?_
 refine QDt T (bd:=QEU [nm "_cls",nm "actual",nm "expected",nm "value"]) ?_ (QCu (by decide) (by kernel_rfl) ?_)
 ·intro ds kds d
  refine QCB fun x y z ζ3 ζ4 ζ5=>?_
  cases ζ3
  cases ζ4
  cases ζ5
  exact ⟨_,rfl,QNF X hC⟩
 ·exact QC8 fun a=>QC8 fun b=>QC8 fun c=>all1 fun d=>by kernel_rfl
noncomputable def QQP:QBR:=fun ds ks d=>∃x y z,ds=[x,y,z]∧ks=[]∧d= .inst 166 [x,y,z]
theorem QPZ(X:(KF w.params).In G.h)(hC:COk G (QBU [("tuple",.typ "tuple")])):QBB G 12 166 QQP:=by
 intro A g s vs kvs ds kds d Q E
 refine QCB fun x y z ζ3 ζ4 ζ5=>?_
 cases ζ3
 cases ζ4
 cases ζ5
 intro R fro fi base dvs dkvs k
 have dv0:=dvs
 obtain ⟨w1,_,rfl,_,r⟩:=dvs.out
 obtain ⟨w2,_,rfl,_,r⟩:=r.out
 obtain ⟨w3,_,rfl,_,r⟩:=r.out
 cases r.out
 cases dkvs.out
 refine wpAny_call (QOw (QOi fi base X) fun tk=>?_)
 refine QO4 X hC (A.under (.builtin "type.__call__" ⟨[.ref 166,w1,w2,w3],[]⟩)) g {s with toks:=tk} [.ref 166,w1,w2,w3] [] [.obj 166,x,y,z] [] (.inst 166 [x,y,z])
  (fun v s'=>∃x dd items n sl,v= .ref x∧(KF w.params).In s'.heap∧s'.heap.get? x=some ⟨.ref 166,dd,.seq items n,sl⟩∧Q v s') E ⟨x,y,z,rfl,rfl,rfl⟩ R.tc fro.tc fi base (.cons (.obj _) dv0) .nil fun g' s' v x' d'=>?_
 have xx:=(Ext.tok (g:=g) (s:=s) fi (tk:=tk)).trans x'
 refine QA7 d'.out fun a o items n ζ4 ho hc hd hl=>?_
 subst ζ4
 have ho':=x'.inn.sq ho hd
 obtain ⟨c,dd,dt,sl⟩:=o
 obtain rfl:c=_:=hc
 obtain rfl:dt=_:=hd
 exact ⟨a,dd,items,n,sl,rfl,QOi x'.inn (base.trans x'.le) X,ho',k g' s' _ xx (.inst ho rfl rfl hl)⟩
theorem QPb(X:(KF w.params).In G.h):QGl G 166:=by
 intro h x
 obtain ⟨k,h1,h2⟩:=looks_keep (M:=model prog w) (K:=KF w.params) (f:= .ref 166) (h:=h) (by kernel_rfl) (fun a o e=>by
  refine oEA (x a o (X a o e)) fun o' e' s=>?_
  rw [s.low (QG7 _ _ _ e)] at e';exact e')
 exact ⟨k,h1.elim .inl fun e=> .inr (.inl e),h2⟩
end
theorem QEi:Slot "bytes" (cmpInfo .Eq).2.2 "bytes.__eq__":=FB.slot_bytes_eq
theorem mro_object:mroOf (.type "object")=pure [.type "object"]:=by rw [mroOf_type];kernel_rfl
theorem QFD:typeLookup (.type "object") "__new__"=pure (some (.builtin "object.__new__")):=by rw [typeLookup_type,builtinLookup_eq_fast];kernel_rfl
theorem QHc:TypeCalled "object" "object.__new__" "object.__init__" where
 notType:=by decide
 canCreate:=by decide+kernel
 mro:=⟨_,_,mro_object⟩
 made:=madeBy_type mro_object QFD (by decide+kernel)
 plain:=by decide+kernel
 sub:=by rw [isSubtype_type];kernel_rfl
 init:=F.slot_object_init
theorem QF2:checkTypeCall "object" ⟨[],[]⟩=pure ():=by kernel_rfl
theorem QGU:checkBuiltinCall "object.__new__" ⟨[.type "object"],[]⟩=pure ():=by kernel_rfl
theorem entry_object_new:entryFor table "object.__new__"=some Builtin.«object.__new__»:=entryFor_of_tree (by kernel_rfl)
theorem QFk(a:QS):argsOk "object.__init__" ⟨[a],[]⟩:=by
 unfold argsOk;rw [signature?_of (id:="object.__init__") (n:=['_','_','t','i','n','i','_','_']) (o:=['t','c','e','j','b','o']) (by kernel_rfl) F.owner_object];kernel_rfl
theorem QJg:Meets (Builtin.«object.__new__» ⟨[.type "object"],[]⟩) (fun _ R s=>R (.ok (.ret (.ref s.heap.objs.size))) {s with heap:=s.heap.push {cls:= .type "object",data:= .plain}}):=by
 refine Meets.of_wp fun prog w A R s hs=>?_
 have e:Builtin.«object.__new__» ⟨[.type "object"],[]⟩=(alloc {cls:= .type "object",data:= .plain}>>=fun a=>ret (.ref a)):=by kernel_rfl
 rw [e]
 exact QB (wpAny_alloc (QC ⟨_,rfl,hs⟩))
section
variable {prog:QV}{w:QX}{A:QT}{E:QS→QR→Prop}{s:QR}
theorem QJ0{Q:QS→QR→Prop}(h:Q (.ref s.heap.objs.size) {s with heap:=s.heap.push {cls:= .type "object",data:= .plain}}):Qa (model prog w) A (call (.type "object") []) Q E s:=
 callType_meets (Q₁:=fun obj s₁=>obj= .ref s.heap.objs.size∧s₁={s with heap:=s.heap.push {cls:= .type "object",data:= .plain}}) QHc QF2 QGU entry_object_new F.entry_object_init QJg ⟨rfl,rfl⟩ fun obj s₁ h₁=>by
  revert h₁
  refine rA fun ζ0 ζ1=>?_
  subst ζ0
  subst ζ1
  refine ⟨⟨_,Heap.get?_push_size _ rfl,rfl⟩,QFk _,(fun _ R s=>R (.ok (.ret .none)) s),Meets.of_wp fun prog w A R s hs=>QC ⟨_,rfl,hs⟩,rfl,h⟩
theorem QJX{n:QW}{b:Array UInt8}{t:Tok}{Q:QS→QR→Prop}(hn:s.TypeIs (.ref n) "object")(hu:A.units<cLine)(h:Q (.bool false) s):Qa (model prog w) A (compareOp .Eq (.ref n) (.bytes b t)) Q E s:=by
 show Qa _ A (richCompare .Eq _ _) Q E s
 have h1:=QEi
 have h2:=F.slot_object_eq
 rcases hi:cmpInfo CmpOp.Eq with ⟨sym,f,r⟩
 rw [hi] at h1 h2
 simp only [richCompare,hi,hn.oneThing_none]
 try with_reducible refine QF ?_
 refine QB (wpAny_cRoomFor_or (.inr hu) ?_)
 refine QB (wpAny_typeOf hn (QB (wpAny_typeOf (typeIs_bytes s b t) ?_)))
 have hne:(Value.type "object" !=Value.type "bytes")=true:=by decide
 simp only [hne,if_true]
 refine QB (wpAny_of_eq F.sub_bytes_object ?_)
 simp only [if_true]
 have hd:∀Q':QS→QR→Prop,Q' .notImplemented s→Qa (model prog w) A (call (.builtin "bytes.__eq__") [.bytes b t,.ref n]) Q' E s:=fun Q' q=>by
  refine QJ FB.slot_bytes_eq (typeIs_bytes s b t) FB.entry_bytes_eq ?_ (FB.args_bytes_eq_2 _ _)
  show Qa _ _ (isInstance (.ref n) (.type "bytes")>>=fun r=>_) _ _ s
  refine QB (wpAny_isInstance (b:=false) hn (by rw [isSubtype_type];kernel_rfl) ?_)
  exact QB (QQ (QC ⟨_,rfl,q⟩))
 refine QB (m:=tryCompare _ _ _) (wpAny_tryCompare_declines (typeIs_bytes s b t) h1 (hd _ ⟨rfl,?_⟩))
 have ho:∀Q':QS→QR→Prop,Q' .notImplemented s→Qa (model prog w) A (call (.builtin "object.__eq__") [.ref n,.bytes b t]) Q' E s:=fun Q' q=>by
  refine QJ F.slot_object_eq hn F.entry_object_eq ?_ (F.args_object_eq_2 _ _)
  have e:isSame (.ref n) (.bytes b t)=pure false:=by rfl
  show Qa _ _ (isSame (.ref n) (.bytes b t)>>=fun r=>if r=true then ret (.bool true) else ret .notImplemented) _ _ s
  rw [e]
  exact QB (QC (QC ⟨_,rfl,q⟩))
 refine QB (m:=tryCompare _ _ _) (wpAny_tryCompare_declines hn h2 (ho _ ⟨rfl,?_⟩))
 simp only [Bool.not_true,Bool.false_eq_true,if_false]
 have e:isSame (.ref n) (.bytes b t)=pure false:=by rfl
 exact QB (QQ (QB (wpAny_of_eq e (QC h))))
end
section
variable {prog:QV}{w:QX}{G:Gd prog w}{N:Nat}
section
variable {A:QT}{g₀:Fz}{s₀:QR}{env:Env}{σ:PS}{oa:Str→QW}{g:Fz}{s:QR}{E:QS→QR→Prop}
theorem QEK(S:Sv G A g₀ s₀ env σ oa g s){x:Str}{ds:List D}{p:Pos}{Q:QS→QR→Prop}(hx:σ.os.lookup x=some ds)(hp:plainName x=true)(k:Q (.ref (oa x)) s):Qa (model prog w) A (eval (.Name x p) env) Q E s:=by
 refine QBC (S.own x ds hx) fun k1 k2 k3 ζ3 vs ζ5 k7=>?_
 obtain ⟨mm,k4,k5⟩:=ζ3
 obtain ⟨nn,k6⟩:=ζ5
 have hp:=QBD hp
 exact QM (wpAny_loadName_local S.vw.kind (by rw [S.kindOf];exact k1) k4 k5 k) hp.1
theorem QBl(S:Sv G A g₀ s₀ env σ oa g s){x:Str}{d:D}{p:Pos}{Q:QS→QR→Prop}(hx:σ.ρ.get x=some d)(hp:plainName x=true)(k:∀v,Den g v d→Q v s):Qa (model prog w) A (eval (.Name x p) env) Q E s:=by
 have hp:=QBD hp
 exact QM (QBP S.vw hx hp.2 k) hp.1
theorem Sv.ownList(S:Sv G A g₀ s₀ env σ oa g s){x:Str}{ds:List D}(hx:σ.os.lookup x=some ds):∃vs,s.heap.IsList (oa x) vs∧s.heap.PlainList (oa x) vs∧DenL g vs.toList ds∧vs.size=ds.length:=by
 refine QBC (S.own x ds hx) fun k1 k2 k3 _ vs ζ5 k7=>?_
 obtain ⟨nn,k6⟩:=ζ5
 exact ⟨vs,⟨_,k6,rfl,nn,rfl⟩,⟨nn,k6⟩,k7,by have:=k7.length;simpa using this⟩
theorem QNu(S:Sv G A g₀ s₀ env σ oa g s){x j:Str}{ds:List D}{i:Nat}{d:D}{p1 p2 p3:Pos}{Q:QS→QR→Prop}(hx:σ.os.lookup x=some ds)(px:plainName x=true)(pj:plainName j=true)(gj:σ.ρ.get j=some (.int (i:Nat)))
  (hd:ds[i]? =some d) (hl:ds.length≤1000) (k:∀v,Den g v d→Q v s):Qa (model prog w) A (eval (.Subscript (.Name x p1) (.Name j p2) p3) env) Q E s:=by
 refine QEf (S.ownList hx) fun vs hL _ hv hsz=>?_
 refine Subscript_ (QEK S hx px (QBl S gj pj fun u du=>?_))
 refine oE du.out fun t ζ1=>?_
 subst ζ1
 refine QDH hL.typeIs slot_list_getitem.lookup ?_
 refine oEA (hv.get hd) fun v hv' dv=>?_
 rw [Array.getElem?_toList] at hv'
 have hi:i<ds.length:=(List.getElem?_eq_some_iff.mp hd).1
 exact wpAny_getItem_list hL (QAC _) (Int.lt_trans (QAL.mpr (Qp hi hl)) (by decide)) (by rw [QAD];exact hv') (k v dv)
end
end
section
variable {prog:QV}{w:QX}{G:Gd prog w}{N:Nat}
theorem QGx{A:QT}{E:QS→QR→Prop}{s:QR}{l:QW}{items:Array QS}{n:Nat}{o:Obj}{k:Int}{t:Tok}{v:QS}{Q:Unit→QR→Prop}(ho:s.heap.get? l=some o)(hc:o.cls= .type "list")(hd:o.data= .seq items n)(h0:0≤k)(hfit:k<2^63)(hn:k<items.size)
  (fin:Q () {s with heap:=s.heap.update l (Obj.mapSeq (·.setIfInBounds k.toNat v))}):Qa (model prog w) A (setItem (.ref l) (.int k t) v) Q E s:=by
 have hT:s.TypeIs (.ref l) "list":=⟨_,ho,hc⟩
 unfold setItem
 try with_reducible refine QF ?_
 first|refine QB (QC ?_)|skip
 refine QB (wpAny_sequenceKey hT (by decide) ?_)
 refine QB (wpAny_callSpecial?_slot (name:=Qc "__setitem__") hT slot_list_setitem
  (QJ slot_list_setitem hT entry_list_setitem ?_ (args_list_setitem _ _ _)))
 show Qa _ _ (Builtin.List.listSubscript? (.int k t)>>=_) _ _ s
 refine QB (wpAny_listSubscript_int (fitsIndex_of h0 hfit) ?_)
 clear hfit
 refine oE (Int.eq_ofNat_of_zero_le h0) fun j ζ1=>?_
 subst ζ1
 have hj:j<items.size:=by omega
 skip
 refine QB (QB (wpAny_seqItemAt ho hd (QC ?_)))
 rw [Array.getElem?_eq_getElem hj]
 skip
 refine QB (wpAny_setSeqItemAt ho hd ?_)
 first
  |exact QB (QC (QC ⟨.none,rfl,QC fin⟩))
  |exact QC ⟨.none,rfl,QC fin⟩
theorem QHi{A:QT}{E:QS→QR→Prop}{s:QR}{l:QW}{items:Array QS}{j:Nat}{t:Tok}{v:QS}{Q:Unit→QR→Prop}(hl:s.heap.PlainList l items)(hn:j<items.size)(h63:j≤1000)
  (hQ:∀h',h'.PlainList l (items.setIfInBounds j v)→Heap.SameBut l s.heap h'→Q () {s with heap:=h'}):Qa (model prog w) A (setItem (.ref l) (.int (j:Nat) t) v) Q E s:=by
 revert hl
 refine rE fun n ho=>?_
 have hg:=Heap.get?_update_self (Obj.mapSeq (·.setIfInBounds j v)) ho (by simp [Obj.mapSeq];rfl)
 simp only [Obj.mapSeq] at hg
 exact QGx ho rfl rfl (QAC _) (by omega) (by exact zi1 [_,_] 1 (.a (.v 0) (.n 1)) (.v 1) 1 (.a (.v 0) (.n 1)) (.v 1) rfl (QAL.mpr hn)) (hQ _ ⟨_,hg⟩ (Heap.SameBut.update ..))
theorem DenL.set{g:Fz}{vs:Array QS}{ds:List D}{j:Nat}{v:QS}{d:D}(h:DenL g vs.toList ds)(hv:Den g v d):DenL g (vs.setIfInBounds j v).toList (ds.set j d):=by
 have hl:=h.length
 rw [Array.toList_setIfInBounds]
 refine DenL.of_get (by simpa using hl) fun i u e hu he=>?_
 by_cases q:j=i
 ·subst q
  rw [List.getElem?_set_self'] at hu he
  cases q1:vs.toList[j]? with
  |none=>rw [q1] at hu;cases hu
  |some _=>
   cases q2:ds[j]? with
   |none=>rw [q2] at he;cases he
   |some _=>rw [q1] at hu;rw [q2] at he;cases hu;cases he;exact hv
 ·rw [List.getElem?_set_ne q] at hu he
  refine oEA (h.get he) fun v' hv' dv=>?_
  rw [hu] at hv';cases hv';exact dv
theorem QTq{x j y:Str}{p1 p2 p3 p4 pos:Pos}{σ:PS}{ds:List D}{i:Nat}{d:D}(px:plainName x=true)(pj:plainName j=true)(py:plainName y=true)(hx:σ.os.lookup x=some ds)(gj:σ.ρ.get j=some (.int (i:Nat)))(gy:σ.ρ.get y=some d)
  (hi:i<ds.length) (hl:ds.length≤1000):StK G N (.Assign [.Subscript (.Name x p1) (.Name j p2) p3] (.Name y p4) pos) σ (σ.setOwn x (ds.set i d)):=by
 intro A env g₀ s₀ oa g s Q E R S k
 refine QEf (S.ownList hx) fun vs _ hP hv hsz=>?_
 refine wpAny_Assign_Subscript (QBl S gy py fun v dv=>QEK S hx px (QBl S gj pj fun u du=>?_)) (QA6 rfl rfl _ _ _)
 refine oE du.out fun t ζ1=>?_
 subst ζ1
 ·refine QHi hP (by exact zn2 [_,_,_] 1 (.a (.v 0) (.n 1)) (.v 1) 1 (.a (.v 0) (.n 1)) (.v 2) 1 (.v 2) (.v 1) rfl hi (Qe hsz.symm)) (by exact zn2 [_,_] 1 (.v 0) (.n 1000) 1 (.a (.v 0) (.n 1)) (.v 1) 1 (.v 1) (.n 1000) rfl hi hl) fun h' hp hs=>?_
  refine oA (S.grown (ds':=ds.set i d) hx hp hs (hv.set dv)) fun S' M'=>?_
  exact k _ _ S' M'
theorem QTM{target:Expr}{body:List Stmt}{n:Nat}{I:QW}{wr:List QW}{Wst:Nat→Heap→Prop}{A:QT}{env:Env}{g₀:Fz}{s₀:QR}{oa:Str→QW}{g gi:Fz}{s si:QR}{R:Result→QR→Prop}
  (T:Nat→PS) (dat:Nat→D→Prop) (S:Sv G A g₀ s₀ env (T 0) oa g s) (xi:Ext g s gi si) (w0:Wst 0 si.heap)
  (off:∀b∈wr,gi b=none∧s.heap.get? b=none)
  (live:∀i h,Wst i h→∀b∈wr,∃o,h.get? b=some o∧∀es ep,o.data≠ .dict es ep)
  (wframe:∀i h h',Wst i h→(∀b∈wr,∀o,h.get? b=some o→h'.get? b=some o)→Wst i h')
  (lwAt:∀i g' s',FLe gi g'→Sv G A g₀ s₀ env (T i) oa g' s'→Wst i s'.heap→∃fp Bd St,Lw prog w A target I fp wr n Bd St∧St i s'.heap∧env.locals∉fp∧(∀j h',St j h'→Wst j h')∧(∀bs,Bd i bs→∃d dbs,dat i d∧QAe target d=some dbs∧QDY g' bs dbs))
  (hl:∀x∈targetNames target,(T 0).ρ.kind x=some .local)
  (hb:∀i d dbs g' s',i<n→FLe gi g'→dat i d→QAe target d=some dbs→Sv G A g₀ s₀ env ((T i).puts dbs) oa g' s'→∃f,(f= .next∨f= .cont)∧∀(Q:Flow→QR→Prop) (E':QS→QR→Prop),
   (∀g'' s'',Sv G A g₀ s₀ env (T (i+1)) oa g'' s''→Mv env ((T i).puts dbs) oa (T (i+1)) oa g' s' g'' s''→Q f s'')→Qa (model prog w) A (execs body env) Q E' s')
  (k:∀g' s',Sv G A g₀ s₀ env (T n) oa g' s'→Mv env (T 0) oa (T n) oa g s g' s'→R (.ok .next) s'):
  codeAny (model prog w) A (.forLoop target (.ref I) body [] env) R si:=by
 refine QS0 (n:=n) (Wst:=Wst) (fun i τ o=>τ=T i∧o=oa) dat ⟨rfl,rfl⟩ S xi w0 off live (fun i h h' st _ _ kw=>wframe i h h' st kw) (fun i τ oa' g' s' lg S' hJ st=>?_) hl (fun i τ oa' d dbs g' s' hi lg hd hbt hJ S₂ M₂ Q E' hN _ _=>?_) fun τ g' s' oa' hJ S' M'=>?_
 ·obtain ⟨rfl,rfl⟩:=hJ
  exact QCB (fun fp Bd St L hSt=>rAA fun hLf hW hBd=>⟨fp,Bd,St,L,hSt,hLf,hW,fun bs _=>hBd bs⟩) (lwAt i g' s' lg S' st)
 ·obtain ⟨rfl,rfl⟩:=hJ
  exact oEA (hb i d dbs g' s' hi lg hd hbt S₂) fun f hf hb=>hb Q E' fun g3 s3 S3 M3=>hN f _ _ _ _ hf ⟨rfl,rfl⟩ S3 M3
 ·obtain ⟨rfl,rfl⟩:=hJ
  exact k _ _ S' M'
end
section
variable {prog:QV}{w:QX}(G:Gd prog w)(aN:QW)
noncomputable def NL(g:Fz):Prop:=∃o,g aN=some o∧o.cls= .type "object"∧o.data= .plain
noncomputable def SK(b:List Stmt)(σ:PS)(f:Flow)(τ:PS):Prop:=
 ∀(A:QT) (env:Env) (g₀:Fz) (s₀:QR) (oa:Str→QW) (g:Fz) (s:QR) (Q:Flow→QR→Prop) (E:QS→QR→Prop),Rm A 12→Sv G A g₀ s₀ env σ oa g s→NL aN g→
  (∀g' s',Sv G A g₀ s₀ env τ oa g' s'→Mv env σ oa τ oa g s g' s'→Q f s')→Qa (model prog w) A (execs b env) Q E s
noncomputable def TK(e:Expr)(σ:PS)(b:Bool):Prop:=
 ∀(A:QT) (env:Env) (g₀:Fz) (s₀:QR) (oa:Str→QW) (g:Fz) (s:QR) (Q:Bool→QR→Prop) (E:QS→QR→Prop),Rm A 12→Sv G A g₀ s₀ env σ oa g s→NL aN g→
  (∀g' s',Ext g s g' s'→Q b s')→Qa (model prog w) A (isTrue e env (eval e env)) Q E s
variable {G aN}{σ τ ρ:PS}{f:Flow}{b r:List Stmt}{st:Stmt}{e:Expr}
theorem NL.le{g g':Fz}(h:NL aN g)(l:FLe g g'):NL aN g':=let ⟨o,a,b⟩:=h;⟨o,l _ _ a,b⟩
theorem SK.weak(h:SK G aN b σ f ρ)(L:SLe τ ρ):SK G aN b σ f τ:=fun A env g₀ s₀ oa g s Q E R S n k=>h A env g₀ s₀ oa g s Q E R S n fun g' s' S' M'=>k g' s' (S'.weak L) (M'.out L)
theorem SK.inn(h:SK G aN b τ f ρ)(L:SLe τ σ):SK G aN b σ f ρ:=fun A env g₀ s₀ oa g s Q E R S n k=>h A env g₀ s₀ oa g s Q E R (S.weak L) n fun g' s' S' M'=>k g' s' S' (M'.inn L)
theorem QEe:SK G aN [] σ .next σ:=fun A env g₀ s₀ oa g s Q E R S n k=>QG (k g s S .refl)
theorem QPM{p:Pos}:SK G aN (.Continue p::r) σ .cont σ:=fun A env g₀ s₀ oa g s Q E R S n k=>QD (wpAny_Continue (k g s S .refl))
theorem QJ5(h:StK G 12 st σ τ)(h2:SK G aN r τ f ρ):SK G aN (st::r) σ f ρ:=fun A env g₀ s₀ oa g s Q E R S n k=>
 QD (h A env g₀ s₀ oa g s _ E R S fun g1 s1 S1 M1=>h2 A env g₀ s₀ oa g1 s1 Q E R S1 (n.le M1.le) fun g2 s2 S2 M2=>k g2 s2 S2 (M1.trans M2))
noncomputable def SN(G:Gd prog w)(aN:QW)(st:Stmt)(σ τ:PS):Prop:=
 ∀(A:QT) (env:Env) (g₀:Fz) (s₀:QR) (oa:Str→QW) (g:Fz) (s:QR) (Q:Flow→QR→Prop) (E:QS→QR→Prop),Rm A 12→Sv G A g₀ s₀ env σ oa g s→NL aN g→
  (∀g' s',Sv G A g₀ s₀ env τ oa g' s'→Mv env σ oa τ oa g s g' s'→Q .next s')→Qa (model prog w) A (exec st env) Q E s
theorem QSU(h:SN G aN st σ τ)(h2:SK G aN r τ f ρ):SK G aN (st::r) σ f ρ:=fun A env g₀ s₀ oa g s Q E R S n k=>
 QD (h A env g₀ s₀ oa g s _ E R S n fun g1 s1 S1 M1=>h2 A env g₀ s₀ oa g1 s1 Q E R S1 (n.le M1.le) fun g2 s2 S2 M2=>k g2 s2 S2 (M1.trans M2))
theorem QNH{t:Expr}{B C:List Stmt}{p:Pos}{c:Bool}(ht:TK G aN t σ c)(h:SK G aN (if c=true then B else C) σ .next τ)(h2:SK G aN r τ f ρ):SK G aN (.If t B C p::r) σ f ρ:=fun A env g₀ s₀ oa g s Q E R S n k=>
 QD (wpAny_If (ht A env g₀ s₀ oa g s _ E R S n fun g1 s1 x1=>by
  have:=h A env g₀ s₀ oa g1 s1 (fun f s=>match f with| .next=>Qa (model prog w) A (execs r env) Q E s|f=>Q f s) E R (S.up x1) (n.le x1.le) fun g2 s2 S2 M2=>h2 A env g₀ s₀ oa g2 s2 Q E R S2 (n.le (x1.le.trans M2.le)) fun g3 s3 S3 M3=>k g3 s3 S3 (((Mv.ofExt x1).trans M2).trans M3)
  cases c<;>exact this))
theorem QQ0{t:Expr}{B C:List Stmt}{p:Pos}(ht:TK G aN t σ true)(h:SK G aN B σ .cont τ):SK G aN (.If t B C p::r) σ .cont τ:=fun A env g₀ s₀ oa g s Q E R S n k=>
 QD (wpAny_If (ht A env g₀ s₀ oa g s _ E R S n fun g1 s1 x1=>h A env g₀ s₀ oa g1 s1 _ E R (S.up x1) (n.le x1.le) fun g2 s2 S2 M2=>k g2 s2 S2 ((Mv.ofExt x1).trans M2)))
end
section
variable {prog:QV}{w:QX}{G:Gd prog w}{N:Nat}
theorem QEo{f:Expr}{xs:List Expr}{p:Pos}(env:Env):∀x,foldedSetIterable (.Call f xs [] p) env x=pure x:=fun _=>rfl
theorem QGg{aN:QW}{x f:Str}{es:List Expr}{kk:Nat}{p pf px pc pos:Pos}{a b:Str}{body:List Stmt}{n:Nat}(T:Nat→PS)(ds:Nat→List D)
  (hf:(f==QBs)=true) (hkf:(T 0).ρ.kind f=some .globalImplicit) (px':plainName x=true) (hes:QAj es=some [a,b]) (hab:a≠b)
  (hka:(T 0).ρ.kind a=some .local) (hkb:(T 0).ρ.kind b=some .local) (hown:∀i,(T i).os.lookup x=some (ds i)∧(ds i).length=n)
  (hb:∀i d,i<n→(ds i)[i]? =some d→∃f,(f= .next∨f= .cont)∧SK G aN body ((T i).puts [(a,.int (i:Nat)),(b,d)]) f (T (i+1))):
  SN G aN (.For (.Tuple es kk p) (.Call (.Name f pf) [.Name x px] [] pc) body [] pos) (T 0) (T n):=by
 intro A env g₀ s₀ oa g s Q E R S nl k
 refine oA (hown 0) fun hx0 hl0=>?_
 have e:=eq_of_beq hf
 subst e
 refine oA (G.tn QBs "enumerate" (by simp)) fun t1 t2=>?_
 have htn:targetNames (.Tuple es kk p)=[a,b]:=by
  show (QAj es).getD []=_;rw [hes];rfl
 refine wpAny_For ?_ (QEo env)
 refine wpAny_Call_Name_kw (QM (QAw S.vw hkf (.inr ⟨t1,t2⟩) ?_) (by decide))
 refine QAf (fun a e=>by cases e) rfl (QH (QEK S hx0 px' ?_) rfl)
 refine QK ?_
 refine QEf (S.ownList hx0) fun vs0 hL hP _ _=>?_
 have hlt:oa x<s.heap.objs.size:=by (revert hP;refine rE fun nn ho=>?_);exact Heap.lt_size ho
 refine call_enumerate_list hL fun h' he hit hsz hle=>?_
 refine wpAny_pyIter_enum he ?_
 have xx:=Ext.grow (tk:=s.toks) S.vw.inn (h:=h') (.of hle)
 have fr0:∀b∈[s.heap.objs.size+1,s.heap.objs.size],s.heap.get? b=none:=aS (QBW (Nat.le_succ _)) (aS (QBW (Qf _)) a0)
 have offL:∀b,s.heap.get? b=none→b≠env.locals:=fun b e q=>QFz S.ns fun mm o _ _=>rA fun ho _=>by rw [←q,e] at ho;cases ho
 refine QTM (wr:=[s.heap.objs.size+1,s.heap.objs.size]) (n:=n) (Wst:=fun i h=>(∃old,IsEnum h (s.heap.objs.size+1) s.heap.objs.size i old)∧h.IsListIter s.heap.objs.size (oa x) i) T
  (fun i d=>∃e,(ds i)[i]? =some e∧d= .tup [.int (i:Nat),e]) S xx ⟨⟨.none,he⟩,hit⟩ (fun b hb=>⟨S.vw.inn.none (fr0 b hb),fr0 b hb⟩)
  (fun i h=>rA fun q1 q2=>aS (rE (fun _ q1=>⟨_,q1,fun _ _ q=>by cases q⟩) q1) (aS (QCm (fun o q _ d=>⟨o,q,fun _ _ e=>by rw [d] at e;cases e⟩) q2) a0))
  (fun i h h'=>rA fun q1 q2 hk=>⟨rE (fun old q1=>⟨old,hk _ (.head _) _ q1⟩) q1,q2.at fun o x=>hk _ (.tail _ (.head _)) o x⟩) ?_ (by rw [htn];exact aS hka (aS hkb a0)) (fun i d dbs g' s' hi lg=>rEA fun e he' eq hbt S'=>by
   cases eq
   cases hbt.symm.trans (QMT hes hab)
   exact oEA (hb i e hi he') fun f hf h=>⟨f,hf,fun Q' E' kk'=>h A env g₀ s₀ oa g' s' Q' E' R S' (nl.le (xx.le.trans lg)) kk'⟩) k
 refine fun i g' s' lg S'=>rA fun q1 q2=>oA (hown i) fun hx hl=>QEf (S'.ownList hx) fun vs hL' hP' hv hsz'=>?_
 have W:=(WalksT.enumerate (prog:=prog) (w:=w) (R.hnd (by decide)) (s.heap.objs.size+1) s.heap.objs.size (oa x) (QFB _) (QBn 1 hlt) (QHM hlt) vs).toU
 exact ⟨_,_,_,(Lw.ofWalksU (R.hnd (by decide)) W (k:=kk) (p:=p) hes (fun i vals hv=>QDe (fun t u _ e=>by rw [e];rfl) hv)).castN (hsz'.trans hl),⟨q1,q2,hL'⟩,
  fun hm=>aS (P:=fun b=>b≠env.locals) (offL _ (QBW (Nat.le_succ _))) (aS (offL _ (QBW (Qf _))) (aS (fun q=>oE S'.ns fun m' hm'=>QCa hm' hP' q.symm) a0)) _ hm rfl,fun j h' q=>⟨q.1,q.2.1⟩,
  fun bs=>rEA fun vals hz hb=>QDe (fun t u hu e=>oEA (hv.get' (i:=i) (v:=u) (by rw [Array.getElem?_toList];exact hu)) fun d hd dd=>by
   rw [hb,e];exact ⟨_,[(a,.int (i:Nat)),(b,d)],⟨d,hd,rfl⟩,QMT hes hab,rfl,.cons (.int _ _) (.cons dd .nil),QJA hab⟩) hz⟩
theorem QIZ{aN:QW}{j f:Str}{p pf pc pos:Pos}{ea eb:Expr}{i0 m0:Nat}{body:List Stmt}(T:Nat→PS)(hf:(f==QER)=true)(hkf:(T 0).ρ.kind f=some .globalImplicit)(hst:QAh [ea,eb]=true)(ha:QAW G 12 ea (T 0).ρ (.int (i0:Nat)))(hbb:QAW G 12 eb (T 0).ρ (.int (m0:Nat)))
  (him:i0≤m0) (hm:m0≤1000) (hka:(T 0).ρ.kind j=some .local) (hb:∀i,i<m0-i0→SK G aN body ((T i).put j (.int ((i0+i:Nat):Int))) .next (T (i+1))):
  SN G aN (.For (.Name j p) (.Call (.Name f pf) [ea,eb] [] pc) body [] pos) (T 0) (T (m0-i0)):=by
 intro A env g₀ s₀ oa g s Q E R S nl k
 have e:=eq_of_beq hf
 subst e
 refine wpAny_For ?_ (QEo env)
 refine QFP (T:="range") (by simp) (by decide) hkf hst R S.vw ha hbb fun g1 s1 v v' x1 d1 d2=>?_
 refine oE d1.out fun t ζ1=>?_
 subst ζ1
 refine oE d2.out fun u ζ1=>?_
 subst ζ1
 refine call_range_2 ?_
 refine wpAny_pyIter_range (IsRange.new _ _ _ _ _ _ _) (small_one (QAJ (by decide) (QAC i0)) (Int.lt_of_le_of_lt (QAE.mpr (Qd him hm)) (by decide)) (QAJ (by decide) (QAC m0)) (Int.lt_of_le_of_lt (QAE.mpr hm) (by decide))) ?_
 generalize ho1:({cls:= .type "range",data:= .fields #[.int ((i0:Nat):Int) t,.int ((m0:Nat):Int) u,.int 1 s1.toks]}:Obj)=o1
 have hsize:Builtin.Range.rangeSize (i0:Nat) (m0:Nat) 1=((m0-i0:Nat):Int):=by
  rw [rangeSize_one]
  by_cases q:(i0:Int)<(m0:Int)
  ·rw [if_pos q];exact (Int.ofNat_sub him).symm
  ·rw [if_neg q,Nat.sub_eq_zero_of_le (QAE.mp (QAN.mp q))];rfl
 rw [hsize]
 generalize ho2:({cls:= .type "range_iterator",data:= .fields #[rawInt (i0:Nat),rawInt ((m0-i0:Nat):Int),rawInt 1]}:Obj)=o2
 have hle:HLe s1.heap ((s1.heap.push o1).push o2):=(QAm _ _).trans (QAm _ _)
 have S1:=S.up x1
 have xx:=Ext.grow (tk:=s1.toks+1) x1.inn hle
 have hfr:s1.heap.get? (s1.heap.push o1).objs.size=none:=(QAm _ o1).none (QAp _)
 have hst':IsRangeIter ((s1.heap.push o1).push o2) (s1.heap.push o1).objs.size ((i0:Nat)+((0:Nat):Int)*1) (((m0-i0:Nat):Int)-((0:Nat):Int)) 1:=by
  have:IsRangeIter ((s1.heap.push o1).push o2) (s1.heap.push o1).objs.size (i0:Nat) ((m0-i0:Nat):Int) 1:=by subst ho2;exact Heap.get?_push_size _ rfl
  simpa using this
 have W:=Walks.range (prog:=prog) (w:=w) (R.hnd (by decide)) (s1.heap.push o1).objs.size (i0:Nat) 1 (m0-i0)
 refine QTM (wr:=[(s1.heap.push o1).objs.size]) (n:=m0-i0) (Wst:=fun i h=>IsRangeIter h (s1.heap.push o1).objs.size ((i0:Nat)+((i:Nat):Int)*1) (((m0-i0:Nat):Int)-((i:Nat):Int)) 1) T
  (fun i d=>d= .int ((i0+i:Nat):Int)) S1 xx hst' ?_ ?_ ?_ ?_ ?_ ?_ fun g' s' h2 h3=>k g' s' h2 ((Mv.ofExt x1).trans h3)
 ·intro b hb
  rw [Qy.mp hb]
  exact ⟨x1.inn.none hfr,hfr⟩
 ·rintro i h ho b hb
  rw [Qy.mp hb];exact ⟨_,ho,fun _ _ q=>nomatch q⟩
 ·intro i h h' ho hk
  exact hk _ (by simp) _ ho
 ·intro i g' s' lg S' q
  refine ⟨_,_,_,Lw.ofWalks W j p,q,?_,fun j h' q=>q,?_⟩
  ·intro hm'
   refine QFz S1.ns fun mm o _ _=>rA fun ho _=>?_
   rw [Qy.mp hm',hfr] at ho;cases ho
  ·intro bs
   refine rEA fun v ζ1 ζ2=>?_
   obtain ⟨t,rfl⟩:=ζ1
   cases ζ2
   refine ⟨_,[(j,.int ((i0+i:Nat):Int))],rfl,rfl,rfl,.cons ?_ .nil,by simp⟩
   rw [Int.mul_one];exact .int _ _
 ·intro y hy
  have:y=j:=by simpa [targetNames] using hy
  rw [this];exact hka
 ·rintro i d dbs g' s' hi lg rfl hbt S'
  obtain rfl:[(j,D.int ((i0+i:Nat):Int))]=dbs:=Option.some.inj hbt
  exact ⟨.next,.inl rfl,fun Q' E' kk'=>hb i hi A env g₀ s₀ oa g' s' Q' E' R S' (nl.le (x1.le.trans (xx.le.trans lg))) kk'⟩
end
section
variable {prog:QV}{w:QX}{G:Gd prog w}{N:Nat}
variable {A:QT}{g₀:Fz}{s₀:QR}{env:Env}{σ:PS}{oa:Str→QW}{g:Fz}{s:QR}{E:QS→QR→Prop}
theorem Sv.bindOwn(S:Sv G A g₀ s₀ env σ oa g s){x:Str}{L:QW}{vs:Array QS}{ds:List D}{Q:Unit→QR→Prop}(hk:σ.ρ.kind x=some .local)(hP:s.heap.PlainList L vs)(hv:DenL g vs.toList ds)
  (gL:g L=none) (sL:s₀.heap.get? L=none) (lo:¬Loose env σ oa L)
  (k:∀h' tk,Sv G A g₀ s₀ env (σ.setOwn x ds) (fun y=>if y=x then L else oa y) g {s with heap:=h',toks:=tk}→(∀b o,b≠env.locals→s.heap.get? b=some o→h'.get? b=some o)→Q () {s with heap:=h',toks:=tk}):
  Qa (model prog w) A (storeName env x (.ref L)) Q E s:=by
 refine oE S.ns fun m hm=>?_
 have hnL:env.locals≠L:=fun e=>lo (.inl e.symm)
 refine QD7 (s:=s) S.vw.kind (by rw [S.vw.kindOf];exact hk) hm fun h' tk hn' hs'=>?_
 have keep:∀b o,b≠env.locals→s.heap.get? b=some o→h'.get? b=some o:=fun b o hb e=>hs'.extBut b o hb e
 have live:∀b o,s.heap.get? b=some o→∃o',h'.get? b=some o':=fun b o e=>by
  by_cases q:b=env.locals
  ·subst q;(revert hn';refine QCg fun o' _ _ ho' _=>?_);exact ⟨o',ho'⟩
  ·exact ⟨o,keep b o q e⟩
 have hl:h'.PlainList L vs:=by (revert hP;refine rE fun n ho=>?_);exact ⟨n,keep _ _ hnL.symm ho⟩
 have oldOwn:∀y ds,σ.os.lookup y=some ds→oa y≠L:=fun y ds hy e=>lo (.inr (.inr ⟨y,ds,hy,e.symm⟩))
 refine k h' tk ?_ keep
 refine {ext:=?_,vw:=?_,locg:=S.locg,loc0:=S.loc0,ns:=⟨_,hn'⟩,cell:=?_,apart:=S.apart,own:=?_,ownA:=?_}
 ·refine oEE S.ext.same fun h1 t1 e1=>?_
  exact ⟨S.ext.heap.to fun b o o' e e'=>keep b o' (fun q=>by rw [q,S.loc0] at e;cases e) e',S.ext.le,S.ext.inn.to fun b o o' e e'=>keep b o' (fun q=>by rw [q,S.locg] at e;cases e) e',S.ext.new,⟨h',tk,by rw [e1]⟩⟩
 ·refine {kind:=S.vw.kind,sc:=S.vw.sc,glo:=S.vw.glo,bui:=S.vw.bui,vars:=?_,cel:=S.vw.cel,inn:=S.vw.inn.to fun b o o' e e'=>keep b o' (fun q=>by rw [q,S.locg] at e;cases e) e',base:=S.vw.base,fr:=?_}
  rotate_left
  ·exact S.vw.fr.keepNs keep hn'
  intro y dy hy
  refine oA (QEq hy) fun q hy=>?_
  refine oEA (S.vw.vars y dy hy) fun u hu hc=>?_
  refine ⟨u,hu,?_⟩
  refine Or.elim hc (QCx fun h1 m₁ h2 h3=>?_) (QCx fun h1 c h2 h3=>?_)
  ·exact .inl ⟨h1,_,hn',by simp only [if_neg q];rw [QCZ hm h2];exact h3⟩
  ·exact .inr ⟨h1,c,h2,h3.sameBut hs' (Ne.symm (QCX hm h3))⟩
 ·intro y c hc
  refine QEV (S.cell y c hc) fun h1 h2 u h3=>?_
  exact ⟨h1,h2,u,h3.sameBut hs' (Ne.symm (QCX hm h3))⟩
 ·intro y dy hy
  rcases QCH hy with ⟨rfl,rfl⟩|⟨hne,hy⟩
  ·rw [if_pos rfl]
   exact ⟨hk,gL,sL,⟨_,hn',by simp⟩,vs,hl,hv⟩
  ·rw [if_neg hne]
   refine QBC (S.own y dy hy) fun h1 h2 h3 ζ3 vs' h6 h7=>?_
   obtain ⟨m₁,h4,h5⟩:=ζ3
   exact ⟨h1,h2,h3,⟨_,hn',by simp only [if_neg hne];rw [QCZ hm h4];exact h5⟩,vs',h6.extBut hs'.extBut (Ne.symm (QCa hm h6)),h7⟩
 ·intro y z dy dz hy hz e
  refine Or.elim (QCH hy) (rA fun q _=>?_) (rA fun hne hy'=>?_)<;>refine Or.elim (QCH hz) (rA fun q' _=>?_) (rA fun hne' hz'=>?_)
  ·rw [q,q']
  ·rw [if_pos q,if_neg hne'] at e;exact absurd e.symm (oldOwn _ _ hz')
  ·rw [if_pos q',if_neg hne] at e;exact absurd e (oldOwn _ _ hy')
  ·rw [if_neg hne,if_neg hne'] at e;exact S.ownA y z dy dz hy' hz' e
theorem QH7{n:Str}{f:Str}{ds:List D}{pf pn pc:Pos}{Q:QS→QR→Prop}(S:Sv G A g₀ s₀ env σ oa g s)(hf:(f==Qc "list")=true)(hkf:σ.ρ.kind f=some .globalImplicit){C:QCl}(hC:COk G C)(hCi:C (nm "list")=some (.typ "list"))(hp:plainName n=true)
  (hn:σ.ρ.get n=some (.list ds)) (hl:ds.length≤1000)
  (k:∀h' vs L,Sv G A g₀ s₀ env σ oa g {s with heap:=h'}→(∀b o,s.heap.get? b=some o→h'.get? b=some o)→s.heap.get? L=none→h'.PlainList L vs→DenL g vs.toList ds→Q (.ref L) {s with heap:=h'}):
  Qa (model prog w) A (eval (.Call (.Name f pf) [.Name n pn] [] pc) env) Q E s:=by
 have e:=eq_of_beq hf
 subst e
 refine QE0 (hC _ _ hCi) fun hdb v dv hv=>?_
 cases dv.out
 refine wpAny_Call_Name_kw (QM (QAw S.vw hkf hv ?_) hdb)
 refine QAf (fun a e=>by cases e) rfl (QH (QBl S hn hp fun u du=>?_) rfl)
 refine QK ?_
 refine QA7 du.out fun a o vs nn ζ4 ho hc hd hlv=>?_
 subst ζ4
 have hsz:vs.size≤sizeLine:=by
  have h1:=hlv.length
  rw [Array.length_toList] at h1
  exact h1▸Qd hl (Qd (by decide) QAb)
 refine call_list_seq (hsz:=hsz) a (.inl rfl) (S.vw.inn.sq ho hd) hc.1 hd fun h' c' keep hnew=>?_
 have xx:=Ext.grow (tk:=s.toks) S.vw.inn (h:=h') (.of keep)
 exact k h' vs s.heap.objs.size (S.up xx) keep (QBW (Qf _)) ⟨c',hnew⟩ hlv
end
noncomputable def itD(figs:List Int)(aN:QW):Option Int→D
 |some c=>QAd figs c
 |none=> .obj aN
noncomputable def blk(i k:Nat)(c:Int)(l:List (Option Int)):List (Option Int):=l.mapIdx fun p o=>if i≤p∧p<i+k∧o=some c then none else o
theorem QDD{i k:Nat}{c:Int}{l:List (Option Int)}{p:Nat}:(blk i k c l)[p]? =(l[p]?).map fun o=>if i≤p∧p<i+k∧o=some c then none else o:=by
 unfold blk;rw [List.getElem?_mapIdx]
theorem QEP{i k:Nat}{c:Int}{l:List (Option Int)}:(blk i k c l).length=l.length:=by unfold blk;rw [List.length_mapIdx]
theorem QGf{i:Nat}{c:Int}{l:List (Option Int)}:blk i 0 c l=l:=by
 refine List.ext_getElem? fun p=>?_
 rw [QDD]
 cases l[p]? with
 |none=>rfl
 |some o=>simp only [Option.map_some];rw [if_neg fun x=>absurd x.2.1 (Nat.not_lt_of_le x.1)]
theorem QNT{i k:Nat}{c:Int}{l:List (Option Int)}(h:l[i+k]?≠some (some c)):blk i (k+1) c l=blk i k c l:=by
 refine List.ext_getElem? fun p=>?_
 rw [QDD,QDD]
 cases e:l[p]? with
 |none=>rfl
 |some o=>
  simp only [Option.map_some]
  by_cases q:p=i+k
  ·subst q
   have:o≠some c:=fun q=>h (by rw [e,q])
   rw [if_neg (fun x=>this x.2.2),if_neg (fun x=>this x.2.2)]
  ·congr 1
   by_cases a:i≤p∧p<i+k∧o=some c
   ·rw [if_pos a,if_pos ⟨a.1,by exact zn1 [_,_,_] 1 (.a (.v 0) (.n 1)) (.a (.v 1) (.a (.v 2) (.n 1))) 1 (.a (.v 0) (.n 1)) (.a (.v 1) (.v 2)) rfl a.2.1,a.2.2⟩]
   ·rw [if_neg a,if_neg (fun x=>a ⟨x.1,Nat.lt_of_le_of_ne (Qq x.2.1) q,x.2.2⟩)]
theorem QQA{i k:Nat}{c:Int}{l:List (Option Int)}(h:l[i+k]? =some (some c)):blk i (k+1) c l=(blk i k c l).set (i+k) none:=by
 have hl:=(List.getElem?_eq_some_iff.mp h).1
 refine List.ext_getElem? fun p=>?_
 by_cases q:p=i+k
 ·subst q
  rw [QDD,h,List.getElem?_set_self (by rw [QEP];exact hl)]
  simp
 ·rw [List.getElem?_set_ne (fun e=>q e.symm),QDD,QDD]
  cases e:l[p]? with
  |none=>rfl
  |some o=>
   simp only [Option.map_some]
   congr 1
   by_cases a:i≤p∧p<i+k∧o=some c
   ·rw [if_pos a,if_pos ⟨a.1,by exact zn1 [_,_,_] 1 (.a (.v 0) (.n 1)) (.a (.v 1) (.a (.v 2) (.n 1))) 1 (.a (.v 0) (.n 1)) (.a (.v 1) (.v 2)) rfl a.2.1,a.2.2⟩]
   ·rw [if_neg a,if_neg (fun x=>a ⟨x.1,Nat.lt_of_le_of_ne (Qq x.2.1) q,x.2.2⟩)]
noncomputable def QBe(i k:Nat)(c:Int)(l:List (Option Int)):Nat:=((l.drop i).take k).count (some c)
theorem QG1{i:Nat}{c:Int}{l:List (Option Int)}:QBe i 0 c l=0:=by simp [QBe]
theorem QKE{i k:Nat}{c:Int}{l:List (Option Int)}{o:Option Int}(h:l[i+k]? =some o):QBe i (k+1) c l=QBe i k c l+if o=some c then 1 else 0:=by
 unfold QBe
 rw [List.take_add_one,List.getElem?_drop,h,List.count_append]
 simp [List.count_cons]
section
variable {prog:QV}{w:QX}{G:Gd prog w}{N:Nat}
variable {A:QT}{g₀:Fz}{s₀:QR}{env:Env}{σ:PS}{oa:Str→QW}{g:Fz}{s:QR}{E:QS→QR→Prop}
theorem eqItem{figs:List Int}{aN:QW}{o:Option Int}{c:Int}{v u:QS}{oN:Obj}{Q:QS→QR→Prop}(fi:FIn g s.heap)(hN:g aN=some oN)(hNc:oN.cls= .type "object")(hNd:oN.data= .plain)(hu:A.units+8<cLine)
  (inj:∀c',o=some c'→QA8 .Eq (QAd figs c') (QAd figs c)=some (decide (c'=c))) (dv:Den g v (itD figs aN o)) (du:Den g u (QAd figs c)) (k:Q (.bool (decide (o=some c))) s):Qa (model prog w) A (compareOp .Eq v u) Q E s:=by
 cases o with
 |some c'=>
  refine QKb (inj c' rfl) dv du fi hu ?_
  have:decide (some c'=some c)=decide (c'=c):=by simp
  rw [this] at k;exact k
 |none=>
  cases dv
  unfold QAd at du
  cases du
  exact QJX ⟨oN,fi.exact hN fun _ _ q=>(by rw [hNd] at q;cases q),hNc⟩ (by exact zn1 [_,_] 1 (.a (.v 0) (.n 1)) (.v 1) 1 (.a (.a (.v 0) (.n 8)) (.n 1)) (.v 1) rfl hu) k
end
noncomputable def ex(E l:List Int):List (Option Int):=l.map fun c=>if c∈E then none else some c
theorem QIe{E l:List Int}{p:Nat}:(ex E l)[p]? =(l[p]?).map fun c=>if c∈E then none else some c:=by unfold ex;rw [Q7]
theorem QFO{E l:List Int}:(ex E l).length=l.length:=by simp [ex]
theorem QPO{E E' l:List Int}(h:∀c∈l,c∈E↔c∈E'):ex E l=ex E' l:=by
 skip
 refine List.map_congr_left fun c hc=>?_
 by_cases q:c∈E
 ·rw [if_pos q,if_pos ((h c hc).mp q)]
 ·rw [if_neg q,if_neg (fun x=>q ((h c hc).mpr x))]
theorem QRK{l:List Int}:ex [] l=l.map some:=by
 unfold ex;exact List.map_congr_left fun c _=>by simp
theorem QLR{i k:Nat}{E l:List Int}{c:Int}(hk:i+k=l.length)(hlow:∀p x,p<i→l[p]? =some x→x∈E):blk i k c (ex E l)=ex (E++[c]) l:=by
 refine List.ext_getElem? fun p=>?_
 rw [QDD,QIe,QIe]
 cases e:l[p]? with
 |none=>rfl
 |some x=>
  simp only [Option.map_some]
  congr 1
  have hp:=(List.getElem?_eq_some_iff.mp e).1
  by_cases q:x∈E
  ·rw [if_pos q,if_neg (by simp),if_pos (List.mem_append_left _ q)]
  ·rw [if_neg q]
   by_cases r:x=c
   ·subst r
    have:i≤p:=by
     rcases Nat.lt_or_ge p i with h|h
     ·exact absurd (hlow p x h e) q
     ·exact h
    rw [if_pos ⟨this,by exact zn2 [_,_,_,_] 1 (.a (.v 0) (.n 1)) (.a (.v 1) (.v 2)) 1 (.v 3) (.a (.v 1) (.v 2)) 1 (.a (.v 0) (.n 1)) (.v 3) rfl (Qe hk.symm) hp,rfl⟩,if_pos (by simp)]
   ·rw [if_neg (fun h=>r (Option.some.inj h.2.2)),if_neg (by simp [q,r])]
theorem QKM{E:List Int}{c:Int}(hc:c∉E):∀l:List Int,(ex E l).count (some c)=l.count c
 |[]=>rfl
 |x::r=>by
  have ih:=QKM hc r
  unfold ex at ih⊢
  rw [Q0,List.count_cons,List.count_cons,ih]
  congr 1
  by_cases q:x=c
  ·subst q;simp [hc]
  ·by_cases h:x∈E<;>simp [h,q]
theorem QLc{i k:Nat}{E l:List Int}{c:Int}(hc:c∉E)(hk:i+k=l.length)(hlow:∀p x,p<i→l[p]? =some x→x∈E):QBe i k c (ex E l)=l.count c:=by
 unfold QBe
 rw [Q6 (by rw [List.length_drop,QFO];omega)]
 have e:(ex E l).drop i=ex E (l.drop i):=by unfold ex;rw [List.map_drop]
 rw [e,QKM hc]
 have h0:(l.take i).count c=0:=by
  rw [List.count_eq_zero]
  intro hm
  refine oE (List.getElem?_of_mem hm) fun p hp=>?_
  rw [List.getElem?_take] at hp
  split at hp
  ·exact hc (hlow p c (by assumption) hp)
  ·cases hp
 conv=>rhs;rw [←List.take_append_drop i l,List.count_append,h0,Qm]
theorem QGy{l:List Int}{i:Nat}:∀p x,p<i→l[p]? =some x→x∈l.take i:=fun p x hp h=>List.mem_of_getElem? (i:=p) (by rw [List.getElem?_take,if_pos hp];exact h)
theorem QGn{l:List Int}{i:Nat}{c:Int}(h:l[i]? =some c):l.take (i+1)=l.take i++[c]:=by rw [List.take_add_one,h];rfl
theorem QEp:∀{l:List Int} {k:Int} {i:Nat} {c:Int},l[i]? =some c→(QCD k l)[i]? =some (k+i,c)
 |x::r,k,0,c,h=>by simp at h;simp [QCD,h]
 |x::r,k,i+1,c,h=>by
  rw [QCD,QAB,QEp (by simpa using h)]
  congr 2;exact QAH (zi0 [_,_] 1 (.a (.a (.v 0) (.n 1)) (.v 1)) (.a (.v 0) (.a (.v 1) (.n 1))) rfl) (zi0 [_,_] 1 (.a (.v 0) (.a (.v 1) (.n 1))) (.a (.a (.v 0) (.n 1)) (.v 1)) rfl)
noncomputable def QCP(one:List Int)(i:Nat):List Int:=(((QCD 0 one).take i).filter fun p=>decide (p.2∉one.take p.1.toNat)).map (·.2)
noncomputable def QBx(one two:List Int)(i:Nat):List Int:=(((QCD 0 two).take i).filter fun p=>decide (p.2∉one∧p.2∉two.take p.1.toNat)).map (·.2)
theorem QIj{one:List Int}:QCP one one.length=QCt one:=by
 unfold QCP QCt;rw [Q6 (by rw [QDP];exact Qf _)]
theorem QHm{one two:List Int}:QBx one two two.length=secondsOf one two:=by
 unfold QBx secondsOf;rw [Q6 (by rw [QDP];exact Qf _)]
theorem QEc{one:List Int}{i:Nat}{c:Int}(h:one[i]? =some c):QCP one (i+1)=QCP one i++if c∈one.take i then [] else [c]:=by
 unfold QCP
 rw [List.take_add_one,QEp h]
 simp only [Option.toList_some,List.filter_append,Qv]
 congr 1
 have e:((0:Int)+(i:Nat)).toNat=i:=by omega
 by_cases q:c∈one.take i
 ·rw [if_pos q,List.filter_cons,if_neg (by simp only [e];simpa using q)];rfl
 ·rw [if_neg q,List.filter_cons,if_pos (by simp only [e];simpa using q)];rfl
theorem QDo{one two:List Int}{i:Nat}{c:Int}(h:two[i]? =some c):QBx one two (i+1)=QBx one two i++if c∈one++two.take i then [] else [c]:=by
 unfold QBx
 rw [List.take_add_one,QEp h]
 simp only [Option.toList_some,List.filter_append,Qv]
 congr 1
 have e:((0:Int)+(i:Nat)).toNat=i:=by omega
 by_cases q:c∈one++two.take i
 ·have q':¬(c∉one∧c∉two.take i):=fun x=>by
   rcases Q8.mp q with y|y
   ·exact x.1 y
   ·exact x.2 y
  rw [if_pos q,List.filter_cons,if_neg (by simp only [e];simpa using q')];rfl
 ·have q':c∉one∧c∉two.take i:=⟨fun x=>q (List.mem_append_left _ x),fun x=>q (List.mem_append_right _ x)⟩
  rw [if_neg q,List.filter_cons,if_pos (by simp only [e];simpa using q')];rfl
noncomputable def QDp(one two:List Int)(i:Nat):List (Int×Int×Int):=((QCP one i).map fun c=>(((one.count c:Nat):Int),((two.count c:Nat):Int),c)).filter fun e=>decide (e.1≠e.2.1)
noncomputable def QDm(one two:List Int)(i:Nat):List (Int×Int×Int):=QDp one two one.length++(QBx one two i).map fun c=>(0,((two.count c:Nat):Int),c)
theorem QM7{one two:List Int}:QDp one two 0=[]:=by simp [QDp,QCP]
theorem QNB{one two:List Int}{i:Nat}{c:Int}(h:one[i]? =some c)(hc:c∈one.take i):QDp one two (i+1)=QDp one two i:=by
 unfold QDp;rw [QEc h,if_pos hc,List.append_nil]
theorem QNN{one two:List Int}{i:Nat}{c:Int}(h:one[i]? =some c)(hc:c∉one.take i):QDp one two (i+1)=QDp one two i++if one.count c≠two.count c then [(((one.count c:Nat):Int),((two.count c:Nat):Int),c)] else []:=by
 unfold QDp
 rw [QEc h,if_neg hc,Qv,List.filter_append]
 congr 1
 rw [Q0,List.map_nil,List.filter_cons]
 by_cases q:one.count c=two.count c
 ·simp [q]
 ·have:((one.count c:Nat):Int)≠((two.count c:Nat):Int):=by omega
  simp [q,this]
theorem QMj{one two:List Int}:QDm one two 0=QDp one two one.length:=by simp [QDm,QBx]
theorem QMV{one two:List Int}{i:Nat}{c:Int}(h:two[i]? =some c)(hc:c∈one++two.take i):QDm one two (i+1)=QDm one two i:=by
 unfold QDm;rw [QDo h,if_pos hc,List.append_nil]
theorem QNd{one two:List Int}{i:Nat}{c:Int}(h:two[i]? =some c)(hc:c∉one++two.take i):QDm one two (i+1)=QDm one two i++[(0,((two.count c:Nat):Int),c)]:=by
 unfold QDm;rw [QDo h,if_neg hc,Qv,Q5];rfl
theorem QOL{one two:List Int}:QDm one two two.length=QE6 one two:=by
 unfold QDm QDp QE6 QFr
 rw [QIj,QHm,List.filter_append]
 congr 1
 symm
 show List.filter _ (List.map (QLd two) (secondsOf one two))=List.map (QLd two) (secondsOf one two)
 rw [List.filter_eq_self]
 intro e he
 refine oEA (Qw.mp he) fun c hc ζ2=>?_
 subst ζ2
 skip
 refine oEA (Qw.mp hc) fun p hp ζ2=>?_
 subst ζ2
 have hm:=(QC5 (List.mem_filter.mp hp).1).2.2
 have:0<two.count p.2:=List.count_pos_iff.mpr hm
 simp only [decide_eq_true_eq]
 exact Int.ne_of_lt (zi1 [_] 1 (.a (.n 0) (.n 1)) (.v 0) 1 (.a (.n 0) (.n 1)) (.v 0) rfl (QAL.mpr this))
theorem QI3{one:List Int}{i:Nat}:(QCP one i).length≤one.length:=by
 unfold QCP
 rw [Qs]
 refine Qd (List.length_filter_le ..) ?_
 rw [List.length_take,QDP];omega
theorem QHj{one two:List Int}{i:Nat}:(QBx one two i).length≤two.length:=by
 unfold QBx
 rw [Qs]
 refine Qd (List.length_filter_le ..) ?_
 rw [List.length_take,QDP];omega
theorem QKO{one two:List Int}{i:Nat}:(QDp one two i).length≤one.length:=by
 skip
 refine Qd (List.length_filter_le ..) ?_
 rw [Qs];exact QI3
theorem QOz{one two:List Int}{i:Nat}:(QDm one two i).length≤one.length+two.length:=by
 unfold QDm
 rw [Qu,Qs]
 have:= @QKO one two one.length
 have:= @QHj one two i
 omega
noncomputable def upd(x:Str)(ds:List D)(l:List (Str×List D)):List (Str×List D):=l.map fun p=>(p.1,if p.1=x then ds else p.2)
theorem QLJ{x z:Str}{ds:List D}{l:List (Str×List D)}:(upd x ds l).lookup z=(l.lookup z).map fun e=>if z=x then ds else e:=by
 induction l with
 |nil=>rfl
 |cons p r ih=>
  obtain ⟨k,v⟩:=p
  show List.lookup z ((k,if k=x then ds else v)::upd x ds r)=_
  rw [Qt,Qt]
  cases h:z==k with
  |true=>cases eq_of_beq h;rfl
  |false=>exact ih
theorem SLe.setOwn{sh σ:PS}{x:Str}{ds es:List D}(h:okS sh ⟨(σ.setOwn x ds).ρ,upd x ds σ.os⟩=((sh.ρ.sc=sh.ρ.sc∧sh.gs=sh.gs)∧sh.os=sh.os))(hx:σ.os.lookup x=some es):SLe sh (σ.setOwn x ds):=by
 have L:=SLe.by_ h
 refine ⟨L.e,fun z=>?_⟩
 rw [←L.os z,QLJ]
 show List.lookup z ((x,ds)::σ.os.filter fun p=>p.1 !=x)=_
 rw [Qt]
 by_cases q:z=x
 ·subst q;rw [beq_self_eq_true,hx,Option.map_some,if_pos rfl]
 ·rw [QPJ q]
  show List.lookup z (σ.os.filter fun p=>p.1 !=x)=_
  rw [QAr,if_neg q]
  cases σ.os.lookup z with
  |none=>rfl
  |some e=>rw [Option.map_some,if_neg q]
section
variable {prog:QV}{w:QX}{G:Gd prog w}{aN:QW}{σ τ ρ:PS}{f:Flow}{b r:List Stmt}{st:Stmt}{e:Expr}{c:Bool}
theorem QAl.tk(h:QAl G 12 e σ.ρ c):TK G aN e σ c:=fun A env g₀ s₀ oa g s Q E R S n k=>h A env g s Q E R S.vw k
variable {figs:List Int}{c:Int}{o:Option Int}
theorem QPB{l:Expr}{y:Str}{p1 p2:Pos}(hl:∀(A:QT) (env:Env) (g₀:Fz) (s₀:QR) (oa:Str→QW) (g:Fz) (s:QR) (Q E:QS→QR→Prop),Sv G A g₀ s₀ env σ oa g s→(∀v,Den g v (itD figs aN o)→Q v s)→Qa (model prog w) A (eval l env) Q E s)
  (py:plainName y=true) (gy:σ.ρ.get y=some (QAd figs c)) (inj:∀c',o=some c'→QA8 .Eq (QAd figs c') (QAd figs c)=some (decide (c'=c))):TK G aN (.Compare l [.Eq] [.Name y p1] p2) σ (decide (o=some c)):=fun A env g₀ s₀ oa g s Q E R S n k=>by
 revert n
 refine QCm fun oN h1 h2 h3=>?_
 exact wpAny_isTrue_Compare1 (hl A env g₀ s₀ oa g s _ _ S fun v dv=>QBl S gy py fun u du=>eqItem S.vw.inn h1 h2 h3 (R8 (by decide) R) inj dv du (wpAny_truthy_bool (k _ _ (.refl S.vw.inn)))) (bi_not rfl)
theorem QQk{test:Expr}{x cnt j:Str}{B:List (Option Int)}{a p:Nat}{kk:Nat}{p1 p2 p3 p4 p5 p6 p7 p8 p9:Pos}{t:Bool}(ht:TK G aN test σ t)(px:plainName x=true)(pj:plainName j=true)(pc:plainName cnt=true)(hc:storable σ cnt=true)
  (ox:(σ.put cnt (.int ((a:Nat)+1))).os.lookup x=some (B.map (itD figs aN))) (gc:σ.ρ.get cnt=some (.int (a:Nat))) (gj:(σ.put cnt (.int ((a:Nat)+1))).ρ.get j=some (.int (p:Nat))) (gn:(σ.put cnt (.int ((a:Nat)+1))).ρ.get (nm "NULL")=some (.obj aN)) (hp:p<B.length) (hB:B.length≤1000)
  (hit:t=true→SLe τ ((σ.put cnt (.int ((a:Nat)+1))).setOwn x ((B.map (itD figs aN)).set p (.obj aN)))) (miss:t=false→SLe τ σ):
  SK G aN [.If test [.AugAssign (.Name cnt p1) .Add (.Constant (.int 1) kk p2) p3,.Assign [.Subscript (.Name x p4) (.Name j p5) p6] (.Name (nm "NULL") p7) p8] [] p9] σ .next τ:=by
 refine QNH ht (τ:=τ) ?_ QEe
 cases t with
 |false=>exact QEe.weak (miss rfl)
 |true=>
  have lm:∀{n:Nat},n=B.length→n=(B.map (itD figs aN)).length:=fun h=>by rw [Qs];exact h
  exact (QJ5 (QSn hc pc gc (constOk rfl)) (QJ5 (QTq px pj (by decide) ox gj gn (lm rfl▸hp) (lm rfl▸hB)) QEe)).weak (hit rfl)
theorem QKk{i k:Nat}{c:Int}{l:List (Option Int)}{o:Option Int}(h:l[i+k]? =some o):(blk i k c l)[i+k]? =some o:=by
 rw [QDD,h,Option.map_some,if_neg fun q=>absurd q.2.1 (Nat.lt_irrefl _)]
theorem QIz{F:Nat→List D→PS}{B:List (Option Int)}{i k p:Nat}(hp:p=i+k)(ho:B[p]? =some o)(hB:B.length≤1000){test:Expr}{x cnt j:Str}{kk:Nat}{p1 p2 p3 p4 p5 p6 p7 p8 p9:Pos}(ht:TK G aN test σ (decide (o=some c)))(px:plainName x=true)(pj:plainName j=true)(pc:plainName cnt=true)(hc:storable σ cnt=true)
  (ox:(σ.put cnt (.int ((QBe i k c B:Nat)+1))).os.lookup x=some ((blk i k c B).map (itD figs aN))) (gc:σ.ρ.get cnt=some (.int (QBe i k c B:Nat))) (gj:(σ.put cnt (.int ((QBe i k c B:Nat)+1))).ρ.get j=some (.int (p:Nat))) (gn:(σ.put cnt (.int ((QBe i k c B:Nat)+1))).ρ.get (nm "NULL")=some (.obj aN))
  (hit:∀L,SLe (F (QBe i k c B+1) L) ((σ.put cnt (.int ((QBe i k c B:Nat)+1))).setOwn x L)) (miss:SLe (F (QBe i k c B) ((blk i k c B).map (itD figs aN))) σ):
  SK G aN [.If test [.AugAssign (.Name cnt p1) .Add (.Constant (.int 1) kk p2) p3,.Assign [.Subscript (.Name x p4) (.Name j p5) p6] (.Name (nm "NULL") p7) p8] [] p9] σ .next (F (QBe i (k+1) c B) ((blk i (k+1) c B).map (itD figs aN))):=by
 subst hp
 have hl:=(List.getElem?_eq_some_iff.mp ho).1
 refine QQk (a:=QBe i k c B) (p:=i+k) ht px pj pc hc ox gc gj gn (by rw [QEP];exact hl) (by rw [QEP];exact hB) (fun q=>?_) fun q=>?_
 ·have q:=of_decide_eq_true q
  subst q
  rw [QKE ho,if_pos rfl,QQA ho,List.map_set]
  exact hit _
 ·have q:=of_decide_eq_false q
  rw [QKE ho,if_neg q,QNT fun e=>q (Option.some.inj (ho.symm.trans e))]
  exact miss
end
noncomputable def s8(l:List (Str×D))(R T S:List D):PS:=⟨⟨QAa 8,l⟩,[(nm "result",R),(nm "t",T),(nm "s",S)]⟩
noncomputable def b8(aN:QW)(m n:Nat)(l:List (Str×D)):List (Str×D):=(nm "m",.int (m:Nat))::(nm "n",.int (n:Nat))::(nm "NULL",.obj aN)::l
noncomputable def F8:QC9:=tabOf [("_Mismatch",QQP)]
theorem QLO{E l:List Int}{c:Int}(h:some c∈ex E l):c∈l:=by
 refine oEA (Qw.mp h) fun x hx e=>?_
 by_cases q:x∈E
 ·rw [if_pos q] at e;exact QAV e
 ·rw [if_neg q] at e;cases e;exact hx
section
variable {prog:QV}{w:QX}{G:Gd prog w}{figs one two:List Int}{aN:QW}{SI TI:List (Option Int)}{R:List D}{c:Int}{i:Nat}
noncomputable abbrev iD(figs:List Int)(aN:QW)(l:List (Option Int)):List D:=l.map (itD figs aN)
theorem QTv(hS:SI.length=one.length)(hi:i≤one.length)(h1:one.length≤1000)(inj:∀c',some c'∈SI→QA8 .Eq (QAd figs c') (QAd figs c)=some (decide (c'=c)))⦃p1 p2 p3 p4 p5 p6:Pos⦄:
  SN G aN (.For (.Name (nm "j") p6) (.Call (.Name (nm "range") p1) [.Name (nm "i") p2,.Name (nm "m") p3] [] p4) (lp (lp (fnBody 8) 0).2 0).2 [] p5) (s8 (b8 aN one.length two.length [(nm "i",.int (i:Nat)),(nm "elem",QAd figs c),(nm "cnt_s",.int ((0:Nat):Int)),(nm "cnt_t",.int ((0:Nat):Int))]) R (iD figs aN TI) (iD figs aN SI))
   (s8 (b8 aN one.length two.length [(nm "i",.int (i:Nat)),(nm "elem",QAd figs c),(nm "cnt_s",.int (QBe i (one.length-i) c SI:Nat)),(nm "cnt_t",.int ((0:Nat):Int))]) R (iD figs aN TI) (iD figs aN (blk i (one.length-i) c SI))):=by
 have e0:QBe i 0 c SI=0:=QG1
 have e1:blk i 0 c SI=SI:=QGf
 have h:=QIZ (G:=G) (aN:=aN) (j:=nm "j") (f:=nm "range") (p:=p6) (pf:=p1) (pc:=p4) (pos:=p5) (ea:= .Name (nm "i") p2) (eb:= .Name (nm "m") p3) (i0:=i) (m0:=one.length) (body:=(lp (lp (fnBody 8) 0).2 0).2)
  (fun k=>s8 (b8 aN one.length two.length [(nm "i",.int (i:Nat)),(nm "elem",QAd figs c),(nm "cnt_s",.int (QBe i k c SI:Nat)),(nm "cnt_t",.int ((0:Nat):Int))]) R (iD figs aN TI) (iD figs aN (blk i k c SI)))
  (by decide) (by kernel_rfl) rfl (QBH (by decide) (by kernel_rfl) (by kernel_rfl)) (QBH (by decide) (by kernel_rfl) (by kernel_rfl)) hi h1 (by kernel_rfl) fun k hk=>?_
 ·rw [e0,e1] at h
  exact h
 ·have ho:SI[i+k]? =some SI[i+k]:=List.getElem?_eq_getElem (by omega)
  refine QIz (F:=fun a L=>s8 (b8 aN one.length two.length [(nm "i",.int (i:Nat)),(nm "elem",QAd figs c),(nm "cnt_s",.int (a:Nat)),(nm "cnt_t",.int ((0:Nat):Int))]) R (iD figs aN TI) L) (B:=SI) (x:=nm "s") (cnt:=nm "cnt_s") (j:=nm "j") rfl ho (hS▸h1)
   (QPB (fun A env g₀ s₀ oa g s Q E S k=>QNu S (x:=nm "s") (j:=nm "j") (ds:=iD figs aN (blk i _ c SI)) (i:=i+_) (by kernel_rfl) (by decide) (by decide) (by kernel_rfl) (by rw [Q7,QKk ho];rfl) (by rw [Qs,QEP,hS];exact h1) k) (by decide) (by kernel_rfl) (fun c' e=>inj c' (e▸List.getElem_mem _)))
   (by decide) (by decide) (by decide) (by kernel_rfl) (by kernel_rfl) (by kernel_rfl) (by kernel_rfl) (by kernel_rfl) (fun L=> .setOwn (by kernel_rfl) (es:=iD figs aN (blk i k c SI)) (by kernel_rfl)) (.by_ (by kernel_rfl))
theorem QT3(hT:TI.length=two.length)(h2:two.length≤1000)(inj:∀c',some c'∈TI→QA8 .Eq (QAd figs c') (QAd figs c)=some (decide (c'=c))){a:Nat}⦃p1 p2 p3 p4 p5 p6 p7:Pos⦄⦃k0:Nat⦄:
  SN G aN (.For (.Tuple [.Name (nm "j") p1,.Name (nm "other_elem") p2] k0 p3) (.Call (.Name (nm "enumerate") p4) [.Name (nm "t") p5] [] p6) (lp (lp (fnBody 8) 0).2 1).2 [] p7) (s8 (b8 aN one.length two.length [(nm "i",.int (i:Nat)),(nm "elem",QAd figs c),(nm "cnt_s",.int (a:Nat)),(nm "cnt_t",.int ((0:Nat):Int))]) R (iD figs aN TI) (iD figs aN SI))
   (s8 (b8 aN one.length two.length [(nm "i",.int (i:Nat)),(nm "elem",QAd figs c),(nm "cnt_s",.int (a:Nat)),(nm "cnt_t",.int (QBe 0 two.length c TI:Nat))]) R (iD figs aN (blk 0 two.length c TI)) (iD figs aN SI)):=by
 have e0:QBe 0 0 c TI=0:=QG1
 have e1:blk 0 0 c TI=TI:=QGf
 have h:=QGg (G:=G) (aN:=aN) (x:=nm "t") (f:=nm "enumerate") (a:=nm "j") (b:=nm "other_elem") (es:=[.Name (nm "j") p1,.Name (nm "other_elem") p2]) (kk:=k0) (p:=p3) (pf:=p4) (px:=p5) (pc:=p6) (pos:=p7) (body:=(lp (lp (fnBody 8) 0).2 1).2) (n:=two.length)
  (fun k=>s8 (b8 aN one.length two.length [(nm "i",.int (i:Nat)),(nm "elem",QAd figs c),(nm "cnt_s",.int (a:Nat)),(nm "cnt_t",.int (QBe 0 k c TI:Nat))]) R (iD figs aN (blk 0 k c TI)) (iD figs aN SI)) (fun k=>iD figs aN (blk 0 k c TI))
  (by decide) (by kernel_rfl) (by decide) rfl (by decide) (by kernel_rfl) (by kernel_rfl) (fun k=>⟨by kernel_rfl,by rw [Qs,QEP];exact hT⟩) fun k d hk hd=>?_
 ·rw [e0,e1] at h
  exact h
 ·have ho:TI[k]? =some TI[k]:=List.getElem?_eq_getElem (hT▸hk)
  have ho':TI[0+k]? =some TI[k]:=by rw [Qm];exact ho
  have hb:=QKk (c:=c) ho'
  rw [Qm] at hb
  rw [Q7,hb] at hd
  cases hd
  exact ⟨.next,.inl rfl,QIz (F:=fun a' L=>s8 (b8 aN one.length two.length [(nm "i",.int (i:Nat)),(nm "elem",QAd figs c),(nm "cnt_s",.int (a:Nat)),(nm "cnt_t",.int (a':Nat))]) R L (iD figs aN SI)) (B:=TI) (x:=nm "t") (cnt:=nm "cnt_t") (j:=nm "j") (Qm k).symm ho (hT▸h2)
   (QPB (fun A env g₀ s₀ oa g s Q E S k=>QBl S (by kernel_rfl) (by decide) k) (by decide) (by kernel_rfl) (fun c' e=>inj c' (e▸List.getElem_mem _)))
   (by decide) (by decide) (by decide) (by kernel_rfl) (by kernel_rfl) (by kernel_rfl) (by kernel_rfl) (by kernel_rfl) (fun L=> .setOwn (by kernel_rfl) (es:=iD figs aN (blk 0 k c TI)) (by kernel_rfl)) (.by_ (by kernel_rfl))⟩
theorem QTi(hT:TI.length=two.length)(hi:i≤two.length)(h2:two.length≤1000)(inj:∀c',some c'∈TI→QA8 .Eq (QAd figs c') (QAd figs c)=some (decide (c'=c)))⦃p1 p2 p3 p4 p5 p6:Pos⦄:
  SN G aN (.For (.Name (nm "j") p6) (.Call (.Name (nm "range") p1) [.Name (nm "i") p2,.Name (nm "n") p3] [] p4) (lp (lp (fnBody 8) 1).2 0).2 [] p5) (s8 (b8 aN one.length two.length [(nm "i",.int (i:Nat)),(nm "elem",QAd figs c),(nm "cnt_t",.int ((0:Nat):Int))]) R (iD figs aN TI) (iD figs aN SI))
   (s8 (b8 aN one.length two.length [(nm "i",.int (i:Nat)),(nm "elem",QAd figs c),(nm "cnt_t",.int (QBe i (two.length-i) c TI:Nat))]) R (iD figs aN (blk i (two.length-i) c TI)) (iD figs aN SI)):=by
 have e0:QBe i 0 c TI=0:=QG1
 have e1:blk i 0 c TI=TI:=QGf
 have h:=QIZ (G:=G) (aN:=aN) (j:=nm "j") (f:=nm "range") (p:=p6) (pf:=p1) (pc:=p4) (pos:=p5) (ea:= .Name (nm "i") p2) (eb:= .Name (nm "n") p3) (i0:=i) (m0:=two.length) (body:=(lp (lp (fnBody 8) 1).2 0).2)
  (fun k=>s8 (b8 aN one.length two.length [(nm "i",.int (i:Nat)),(nm "elem",QAd figs c),(nm "cnt_t",.int (QBe i k c TI:Nat))]) R (iD figs aN (blk i k c TI)) (iD figs aN SI))
  (by decide) (by kernel_rfl) rfl (QBH (by decide) (by kernel_rfl) (by kernel_rfl)) (QBH (by decide) (by kernel_rfl) (by kernel_rfl)) hi h2 (by kernel_rfl) fun k hk=>?_
 ·rw [e0,e1] at h
  exact h
 ·have ho:TI[i+k]? =some TI[i+k]:=List.getElem?_eq_getElem (by omega)
  exact QIz (F:=fun a L=>s8 (b8 aN one.length two.length [(nm "i",.int (i:Nat)),(nm "elem",QAd figs c),(nm "cnt_t",.int (a:Nat))]) R L (iD figs aN SI)) (B:=TI) (x:=nm "t") (cnt:=nm "cnt_t") (j:=nm "j") rfl ho (hT▸h2)
   (QPB (fun A env g₀ s₀ oa g s Q E S k=>QNu S (x:=nm "t") (j:=nm "j") (ds:=iD figs aN (blk i _ c TI)) (i:=i+_) (by kernel_rfl) (by decide) (by decide) (by kernel_rfl) (by rw [Q7,QKk ho];rfl) (by rw [Qs,QEP,hT];exact h2) k) (by decide) (by kernel_rfl) (fun c' e=>inj c' (e▸List.getElem_mem _)))
   (by decide) (by decide) (by decide) (by kernel_rfl) (by kernel_rfl) (by kernel_rfl) (by kernel_rfl) (by kernel_rfl) (fun L=> .setOwn (by kernel_rfl) (es:=iD figs aN (blk i k c TI)) (by kernel_rfl)) (.by_ (by kernel_rfl))
end
section
variable {prog:QV}{w:QX}{G:Gd prog w}{figs one two:List Int}{aN:QW}{SI TI:List (Option Int)}{R:List D}{c:Int}{i:Nat}
noncomputable def T1(figs one two:List Int)(aN:QW)(i:Nat):PS:=s8 (b8 aN one.length two.length []) ((QDp one two i).map (QDW figs)) (iD figs aN (ex (one.take i) two)) (iD figs aN (ex (one.take i) one))
noncomputable def T2(figs one two:List Int)(aN:QW)(i:Nat):PS:=s8 (b8 aN one.length two.length []) ((QDm one two i).map (QDW figs)) (iD figs aN (ex (one++two.take i) two)) (iD figs aN (ex (one.take one.length) one))
theorem exs{E l:List Int}{c:Int}(h:c∈E):ex (E++[c]) l=ex E l:=QPO fun x _=>⟨fun q=>(Q8.mp q).elim id fun q=>Qy.mp q▸h,fun q=>List.mem_append_left _ q⟩
theorem QOv(hF:FOk G 12 F8){a b:Int}{d:D}{e:Expr}{σ:PS}{v:D}(h:q G 12 F8 (fun _=>none) 100 (.ev e σ.ρ [.d v] fun d _=>d=v)=(QQP [.int a,.int b,d] [] v∧v=v))(hv:v= .inst 166 [.int a,.int b,d]):EvX G 12 e σ.ρ v:=by
 subst hv
 refine QB0 ((Ev.mk (F:=F8) (C:=fun _=>none) hF (fun _ _ h=>nomatch h) (by decide)).ok (QAZ (ai ⟨_,_,_,rfl,rfl,rfl⟩ rfl) h)) fun _ _ e ζ3=>?_
 subst ζ3
 exact e
theorem QL8(figs:List Int)(aN:QW):QA8 .Is (itD figs aN none) (.obj aN)=some true:=if_pos rfl
theorem QPX(figs:List Int)(aN:QW)(c:Int):QA8 .Is (itD figs aN (some c)) (.obj aN)=some false:=rfl
theorem QOx(a b:Nat):QA8 .NotEq (.int (a:Nat)) (.int (b:Nat))=some (decide (a≠b)):=(ned _ _).trans (congrArg some (decide_eq_decide.mpr (not_congr Int.ofNat_inj)))
theorem QSt(hF:FOk G 12 F8)(hi:one[i]? =some c)(h1:one.length≤1000)(h2:two.length≤1000)(inj:∀c'∈one++two,QA8 .Eq (QAd figs c') (QAd figs c)=some (decide (c'=c))):
  ∃f,(f= .next∨f= .cont)∧SK G aN (lp (fnBody 8) 0).2 ((T1 figs one two aN i).puts [(nm "i",.int (i:Nat)),(nm "elem",itD figs aN (if c∈one.take i then none else some c))]) f (T1 figs one two aN (i+1)):=by
 have hlt:=(List.getElem?_eq_some_iff.mp hi).1
 unfold T1
 rw [QGn hi]
 by_cases hc:c∈one.take i
 ·rw [if_pos hc,exs hc,exs hc,QNB hi hc]
  exact ⟨.cont,.inr rfl,QQ0 (QAl.tk (QJp (by decide) rfl (by decide) (by decide) (by kernel_rfl) (by kernel_rfl) (by kernel_rfl) (by kernel_rfl) (QL8 figs aN))) (QPM.weak (.by_ (by kernel_rfl)))⟩
 ·rw [if_neg hc,QNN hi hc]
  have hS:=QTv (G:=G) (figs:=figs) (aN:=aN) (one:=one) (two:=two) (SI:=ex (one.take i) one) (TI:=ex (one.take i) two) (R:=(QDp one two i).map (QDW figs)) (c:=c) (i:=i) QFO (Qo hlt) h1 fun c' h=>inj c' (List.mem_append_left _ (QLO h))
  have hT:=QT3 (G:=G) (figs:=figs) (aN:=aN) (one:=one) (two:=two) (TI:=ex (one.take i) two) (SI:=ex (one.take i++[c]) one) (R:=(QDp one two i).map (QDW figs)) (c:=c) (i:=i) (a:=one.count c) QFO h2 fun c' h=>inj c' (List.mem_append_right _ (QLO h))
  have n1:i+(one.length-i)=one.length:=Nat.add_sub_cancel' (Qo hlt)
  have n2:0+two.length=two.length:=Qm _
  rw [QLR n1 QGy,QLc hc n1 QGy] at hS
  rw [QLR n2 (fun p x h=>absurd h (Nat.not_lt_zero _)),QLc hc n2 (fun p x h=>absurd h (Nat.not_lt_zero _))] at hT
  refine ⟨.next,.inl rfl,QNH (QAl.tk (QJp (by decide) rfl (by decide) (by decide) (by kernel_rfl) (by kernel_rfl) (by kernel_rfl) (by kernel_rfl) (QPX figs aN c))) QEe (QJ5 (QSZ (d:= .int 0) (by kernel_rfl) (by kernel_rfl) (constOk rfl)) (SK.inn (QSU (@hS _ _ _ _ _ _) (QSU (@hT _ _ _ _ _ _ _ _) ?_)) (.by_ (by kernel_rfl))))⟩
  by_cases hq:one.count c=two.count c
  ·rw [if_neg fun h=>h hq,List.append_nil]
   exact QNH (QAl.tk (QJp (by decide) rfl (by decide) (by decide) (by kernel_rfl) (by kernel_rfl) (by kernel_rfl) (by kernel_rfl) ((QOx _ _).trans (congrArg some (decide_eq_false fun h=>h hq))))) QEe (QEe.weak (.by_ (by kernel_rfl)))
  ·rw [if_pos hq,Qv]
   refine QNH (QAl.tk (QJp (by decide) rfl (by decide) (by decide) (by kernel_rfl) (by kernel_rfl) (by kernel_rfl) (by kernel_rfl) ((QOx _ _).trans (congrArg some (decide_eq_true hq))))) (QJ5 (QFH (by kernel_rfl) rfl (QOv (d:=QAd figs c) (a:=(one.count c:Nat)) (b:=(two.count c:Nat)) hF (by kernel_rfl) rfl)) (QJ5 (QQe (d:=QDW figs ((one.count c:Nat),(two.count c:Nat),c)) (ds:=(QDp one two i).map (QDW figs)) (by decide) (by decide) rfl (by kernel_rfl) (by kernel_rfl) (by kernel_rfl) (by rw [Qs];exact Qd QKO h1)) QEe)) (QEe.weak ?_)
   exact .setOwn (es:=(QDp one two i).map (QDW figs)) (by kernel_rfl) (by kernel_rfl)
theorem QTf(hF:FOk G 12 F8)(hi:two[i]? =some c)(h1:one.length≤100)(h2:two.length≤100)(inj:∀c'∈two,QA8 .Eq (QAd figs c') (QAd figs c)=some (decide (c'=c))):
  ∃f,(f= .next∨f= .cont)∧SK G aN (lp (fnBody 8) 1).2 ((T2 figs one two aN i).puts [(nm "i",.int (i:Nat)),(nm "elem",itD figs aN (if c∈one++two.take i then none else some c))]) f (T2 figs one two aN (i+1)):=by
 have hlt:=(List.getElem?_eq_some_iff.mp hi).1
 unfold T2
 rw [QGn hi,←Q5]
 by_cases hc:c∈one++two.take i
 ·rw [if_pos hc,exs hc,QMV hi hc]
  exact ⟨.cont,.inr rfl,QQ0 (QAl.tk (QJp (by decide) rfl (by decide) (by decide) (by kernel_rfl) (by kernel_rfl) (by kernel_rfl) (by kernel_rfl) (QL8 figs aN))) (QPM.weak (.by_ (by kernel_rfl)))⟩
 ·rw [if_neg hc,QNd hi hc,Qv]
  have low:∀p x,p<i→two[p]? =some x→x∈one++two.take i:=fun p x hp h=>List.mem_append_right _ (QGy p x hp h)
  have hT:=QTi (G:=G) (figs:=figs) (aN:=aN) (one:=one) (two:=two) (TI:=ex (one++two.take i) two) (SI:=ex (one.take one.length) one) (R:=(QDm one two i).map (QDW figs)) (c:=c) (i:=i) QFO (Qo hlt) (Qd h2 (by decide)) fun c' h=>inj c' (QLO h)
  have n1:i+(two.length-i)=two.length:=Nat.add_sub_cancel' (Qo hlt)
  rw [QLR n1 low,QLc hc n1 low] at hT
  refine ⟨.next,.inl rfl,QNH (QAl.tk (QJp (by decide) rfl (by decide) (by decide) (by kernel_rfl) (by kernel_rfl) (by kernel_rfl) (by kernel_rfl) (QPX figs aN c))) QEe (QJ5 (QFH (d:= .int 0) (by kernel_rfl) rfl (.of rfl (constOk rfl))) (SK.inn (QSU (@hT _ _ _ _ _ _) ?_) (.by_ (by kernel_rfl))))⟩
  refine QJ5 (QFH (by kernel_rfl) rfl (QOv (d:=QAd figs c) (a:=0) (b:=(two.count c:Nat)) hF (by kernel_rfl) rfl)) (QJ5 (QQe (d:=QDW figs (0,(two.count c:Nat),c)) (ds:=(QDm one two i).map (QDW figs)) (by decide) (by decide) rfl (by kernel_rfl) (by kernel_rfl) (by kernel_rfl) (by rw [Qs];exact Qd QOz (Qd (Nat.add_le_add h1 h2) (by decide)))) (QEe.weak ?_))
  exact .setOwn (es:=(QDm one two i).map (QDW figs)) (by kernel_rfl) (by kernel_rfl)
end
noncomputable def C8:QCl:=QBU [("list",.typ "list"),("object",.typ "object")]
section
variable {prog:QV}{w:QX}{G:Gd prog w}
variable {A:QT}{g₀:Fz}{s₀:QR}{env:Env}{σ:PS}{oa:Str→QW}{g:Fz}{s:QR}{E:QS→QR→Prop}
theorem QRd{g' g'':Fz}{s s':QR}(x:Ext g' s g'' s')(fi:FIn g s.heap):Ext g s g s':=⟨x.heap,.refl _,fi.up x.heap,fun _ _ e=> .inl e,x.same⟩
theorem QNs{x:Str}{ds:List D}{p1 p2 p3:Pos}{Q:QS→QR→Prop}(R:Rm A 12)(S:Sv G A g₀ s₀ env σ oa g s)(hx:σ.os.lookup x=some ds)(px:plainName x=true)(kl:σ.ρ.kind (nm "len")=some .globalImplicit)(hl:ds.length≤1000)
  (k:∀s' t,Ext g s g s'→Q (.int (ds.length:Nat) t) s'):Qa (model prog w) A (eval (.Call (.Name (nm "len") p1) [.Name x p2] [] p3) env) Q E s:=by
 refine oA (S.own x ds hx) fun k1 _=>?_
 refine oEA (S.freezeOne x) fun g' S' _=>?_
 have hf:σ.freezeOne x=σ.put x (.list ds):=by unfold PS.freezeOne;rw [hx]
 rw [hf] at S'
 have hd:dCall (nm "len") [.list ds]=some (.int (ds.length:Nat)):=(if_pos rfl).trans (if_pos hl)
 refine QDJ (N:=12) (ρ:=(σ.put x (.list ds)).ρ) (by decide) kl rfl (.one (QBH px k1 (by rw [QCi,if_pos rfl]))) hd (by decide) A env g' s _ E R S'.vw fun g2 s2 v2 x2 d2=>?_
 refine oE d2.out fun t ζ1=>?_
 subst ζ1
 exact k s2 _ (QRd x2 S.vw.inn)
theorem QQt{α:Type}{b:Bool}{x y:α}(h:b=false):(if b=true then x else y)=y:=by rw [h];rfl
theorem QQu{x y:Str}{e1 e2:Expr}{p1 p2 p3 p4:Pos}{k1 k2:Nat}(hk:env.scope.kind= .function)(hx:env.kindOf x=some .local)(hy:env.kindOf y=some .local)(hxy:x≠y)(hl:(p1.line==p1.line)=true)(hl2:(p2.line==p1.line)=true)
  (hs:([e1,e2].any fun| .Starred .. =>true|_=>false)=false) (hf:[e1,e2].all (foldedForSure 8)=false) (hc:[e1,e2].all (constantsAlone 8)=false):swappedStores [.Tuple [.Name x p1,.Name y p2] k1 p3] (.Tuple [e1,e2] k2 p4) env=pure (some [x,y]):=by
 have hb:env.blockKind= .function:=by unfold Env.blockKind;rw [hk];rfl
 have e:([x,y].eraseDups)=[x,y]:=by
  rw [List.eraseDups_cons]
  have:(List.filter (fun b=> !b==x) [y])=[y]:=by
   rw [List.filter_cons,if_pos (by simpa using hxy.symm)];rfl
  rw [this];rfl
 skip
 skip
 refine (QQt (by rw [hb];rfl)).trans ?_
 refine (QQt hs).trans ?_
 simp only [List.filterMap_cons,List.filterMap_nil,hx,hy]
 have hh:(([Expr.Name x p1,Expr.Name y p2].head?.map (·.pos.line)).getD 0)=p1.line:=rfl
 rw [hh]
 simp only [hl,hl2,beq_self_eq_true,Bool.and_self,if_true]
 rw [e,hf,hc]
 rfl
end
section
variable {prog:QV}{w:QX}{G:Gd prog w}{figs one two:List Int}{A:QT}{g₀:Fz}{s₀:QR}{env:Env}{σ:PS}{oa:Str→QW}{g:Fz}{s:QR}{E:QS→QR→Prop}{Q:Flow→QR→Prop}{X Y:List D}
theorem QLp{aN:QW}{l:List Int}:(ex [] l).map (itD figs aN)=l.map (QAd figs):=by rw [QRK,Q3];rfl
noncomputable def st8(k:Nat):Stmt:=(fnBody 8).getD k (.Pass default)
noncomputable abbrev o8(X Y:List D):PS:=⟨⟨QAa 8,[(nm "actual",.list X),(nm "expected",.list Y)]⟩,[]⟩
theorem cd1(hC:COk G C8)(l1:X.length≤1000)(l2:Y.length≤1000)(hh:A.handled=none)(S1:Sv G A g₀ s₀ env (o8 X Y) oa g s)
  (k:∀oa' g' s',Sv G A g₀ s₀ env (((o8 X Y).setOwn (nm "t") Y).setOwn (nm "s") X) oa' g' s'→Q .next s'):Qa (model prog w) A (exec (st8 1) env) Q E s:=by
 generalize hb:st8 1=b
 conv at hb=>lhs;whnf
 subst hb
 have ks0:(o8 X Y).ρ.kind (nm "s")=some .local:=by kernel_rfl
 have kt0:(o8 X Y).ρ.kind (nm "t")=some .local:=by kernel_rfl
 refine (Assign_Tuple_swapped (names:=[nm "s",nm "t"]) ?_ rfl (QQu S1.vw.kind (by rw [S1.vw.kindOf];exact ks0) (by rw [S1.vw.kindOf];exact kt0) (by decide) rfl rfl rfl (by kernel_rfl) (by kernel_rfl)))
 refine wpAny_Tuple_spliced (QH (QH7 (ds:=X) S1 (by decide) (by kernel_rfl) hC (by kernel_rfl) (by decide) (by kernel_rfl) l1 fun h2 vs1 L1 S2 keep2 fr1 P1 D1=>?_) rfl)
 refine QH (QH7 (ds:=Y) S2 (by decide) (by kernel_rfl) hC (by kernel_rfl) (by decide) (by kernel_rfl) l2 fun h3 vs2 L2 S3 keep3 fr2 P2 D2=>QK ⟨Qd (by decide:2≤100000) QAb,?_⟩) rfl
 have o1:=S1.offNew fr1
 have o2:=S2.offNew fr2
 have ne12:L1≠L2:=fun e=>by (revert P1;refine rE fun n ho=>?_);rw [e,fr2] at ho;cases ho
 revert P1
 refine rE fun nP1 hP1=>?_
 revert P2
 refine rE fun nP2 hP2=>?_
 generalize hT:({cls:= .type "tuple",data:= .seq [Value.ref L1,Value.ref L2].toArray}:Obj)=oT
 have S4:=S3.up (Ext.grow (tk:=s.toks) S3.vw.inn (QAm h3 oT))
 have hIs:(h3.push oT).IsTuple h3.objs.size #[Value.ref L1,Value.ref L2]:=⟨oT,Heap.get?_push_size _ ((hT▸rfl)),(hT▸rfl),hT▸⟨_,rfl⟩⟩
 refine wpAny_unpackItems_tuple (items:= #[Value.ref L1,Value.ref L2]) hh hIs fun h5 hx5=>?_
 have le5:∀b o,(h3.push oT).get? b=some o→h5.get? b=some o:=fun b o e=>hx5 b o (Qi (Heap.lt_size e)) e
 have S5:=S4.up (Ext.grow (tk:=s.toks) S4.vw.inn (h:=h5) (.of le5))
 have P1':h5.PlainList L1 vs1:=⟨nP1,le5 _ _ (Heap.get?_push_of_some _ (keep3 _ _ hP1))⟩
 have P2':h5.PlainList L2 vs2:=⟨nP2,le5 _ _ (Heap.get?_push_of_some _ hP2)⟩
 skip
 refine QB (QF (wpAny_bindName (S5.bindOwn kt0 P2' D2 o2.fz o2.old o2.lo fun h6 tk6 S6 keep6=>?_)))
 have nl1:L1≠env.locals:=fun e=>o1.lo (.inl e)
 have P1'':h6.PlainList L1 vs1:=by (revert P1';refine rE fun n ho=>?_);exact ⟨n,keep6 _ _ nl1 ho⟩
 skip
 refine QB (QF (wpAny_bindName (S6.bindOwn ks0 P1'' D1 o1.fz o1.old ?_ fun h7 tk7 S7 keep7=>QC (k _ _ _ S7))))
 rintro (q|q|⟨x,dx,hx,e⟩)
 ·exact nl1 q
 ·exact o1.lo (.inr (.inl q))
 ·rcases QCH hx with ⟨rfl,_⟩|⟨hne,hx'⟩
  ·dsimp only at e
   rw [if_pos rfl] at e;exact ne12 e
  ·exact QAV hx'
noncomputable abbrev p8(X Y:List D):PS:=⟨⟨QAa 8,[]⟩,[(nm "t",Y),(nm "s",X)]⟩
theorem cd2(R:Rm A 12)(l1:X.length≤1000)(l2:Y.length≤1000)(S:Sv G A g₀ s₀ env (p8 X Y) oa g s)
  (k:∀oa' g' s',Sv G A g₀ s₀ env (((p8 X Y).put (nm "n") (.int (Y.length:Nat))).put (nm "m") (.int (X.length:Nat))) oa' g' s'→Q .next s'):Qa (model prog w) A (exec (st8 2) env) Q E s:=by
 generalize hb:st8 2=b
 conv at hb=>lhs;whnf
 subst hb
 have km0:(p8 X Y).ρ.kind (nm "m")=some .local:=by kernel_rfl
 have kn0:(p8 X Y).ρ.kind (nm "n")=some .local:=by kernel_rfl
 refine (Assign_Tuple_swapped (names:=[nm "m",nm "n"]) ?_ rfl (QQu S.vw.kind (by rw [S.vw.kindOf];exact km0) (by rw [S.vw.kindOf];exact kn0) (by decide) rfl rfl rfl (by kernel_rfl) (by kernel_rfl)))
 refine wpAny_Tuple_spliced (QH (QNs (ds:=X) R S (by kernel_rfl) (by decide) (by kernel_rfl) l1 fun s2 t1 x1=>?_) rfl)
 have S2:=S.up x1
 refine QH (QNs (ds:=Y) R S2 (by kernel_rfl) (by decide) (by kernel_rfl) l2 fun s3 t2 x2=>QK ⟨Qd (by decide:2≤100000) QAb,?_⟩) rfl
 have S3:=S2.up x2
 generalize hT:({cls:= .type "tuple",data:= .seq [Value.int (X.length:Nat) t1,Value.int (Y.length:Nat) t2].toArray}:Obj)=oT
 have S4:=S3.up (Ext.grow (tk:=s3.toks) S3.vw.inn (QAm s3.heap oT))
 have hIs:(s3.heap.push oT).IsTuple s3.heap.objs.size #[Value.int (X.length:Nat) t1,Value.int (Y.length:Nat) t2]:=⟨oT,Heap.get?_push_size _ ((hT▸rfl)),(hT▸rfl),hT▸⟨_,rfl⟩⟩
 refine wpAny_unpackItems_tuple (items:= #[Value.int (X.length:Nat) t1,Value.int (Y.length:Nat) t2]) (R.hnd (by decide)) hIs fun h5 hx5=>?_
 have le5:∀b o,(s3.heap.push oT).get? b=some o→h5.get? b=some o:=fun b o e=>hx5 b o (Qi (Heap.lt_size e)) e
 have S5:=S4.up (Ext.grow (tk:=s3.toks) S4.vw.inn (h:=h5) (.of le5))
 skip
 refine QB (QF (wpAny_bindName (S5.store (d:= .int (Y.length:Nat)) (by kernel_rfl) (.int _ _) fun h6 tk6 S6 _=>?_)))
 skip
 exact QB (QF (wpAny_bindName (S6.store (d:= .int (X.length:Nat)) (by kernel_rfl) (.int _ _) fun h7 tk7 S7 _=>QC (k _ _ _ S7))))
theorem cd3(hC:COk G C8)(kl0:σ.ρ.kind (nm "object")=some .globalImplicit)(kn0:storable σ (nm "NULL")=true)(S:Sv G A g₀ s₀ env σ oa g s)
  (k:∀aN oa' g' s',NL aN g'→Sv G A g₀ s₀ env (σ.put (nm "NULL") (.obj aN)) oa' g' s'→Q .next s'):Qa (model prog w) A (exec (st8 3) env) Q E s:=by
 generalize hb:st8 3=b
 conv at hb=>lhs;whnf
 subst hb
 refine QE0 (hC (nm "object") (.typ "object") (by kernel_rfl)) fun hdb v dv hv=>?_
 cases dv.out
 refine (wpAny_Assign_Name (wpAny_Call_Name_kw (QM (QAw S.vw kl0 hv ?_) hdb)) (QA6 rfl rfl _ _ _))
 refine QAf (fun a e=>by cases e) rfl (QK (QJ0 ?_))
 generalize hO:({cls:= .type "object",data:= .plain}:Obj)=oN
 have hget:(s.heap.push oN).get? s.heap.objs.size=some oN:=Heap.get?_push_size _ ((hO▸rfl))
 have xx:=Ext.add (tk:=s.toks) S.vw.inn (QAm s.heap oN) (QAp s.heap) hget
 exact (S.up xx).store (d:= .obj s.heap.objs.size) kn0 (.obj _) fun h' tk S' _=>k s.heap.objs.size _ _ _ ⟨oN,Fz.add_self _ _ _,(hO▸rfl),(hO▸rfl)⟩ S'
theorem QTn(hF:FOk G 12 F8)(hC:COk G C8)(h1:one.length≤100)(h2:two.length≤100)(inj:∀c∈one++two,∀d∈one++two,QA8 .Eq (QAd figs c) (QAd figs d)=some (decide (c=d))):
  QAu G 12 (QAa 8) (fnBody 8) [(nm "actual",.list (one.map (QAd figs))),(nm "expected",.list (two.map (QAd figs)))] (.list ((QE6 one two).map (QDW figs))):=by
 intro A env g₀ s₀ s Q E R hfm hfr S k
 have l1:(one.map (QAd figs)).length≤1000:=by rw [Qs];exact Qd h1 (by decide)
 have l2:(two.map (QAd figs)).length≤1000:=by rw [Qs];exact Qd h2 (by decide)
 refine QD (QCY A env g₀ s₀ _ g₀ s _ _ R S fun g1 s1 oa1 S1 M1=>?_)
 refine QD (cd1 hC l1 l2 (R.hnd (by decide)) S1 fun oa2 g2 s2 S2=>?_)
 have L2:SLe (p8 (one.map (QAd figs)) (two.map (QAd figs))) (((o8 (one.map (QAd figs)) (two.map (QAd figs))).setOwn (nm "t") (two.map (QAd figs))).setOwn (nm "s") (one.map (QAd figs))):=⟨.by_ (by kernel_rfl),fun z=>swp (by decide) z⟩
 refine QD (cd2 R l1 l2 (S2.weak L2) fun oa3 g3 s3 S3=>?_)
 refine QD (cd3 hC (by kernel_rfl) (by kernel_rfl) S3 fun aN oa4 g4 s4 nl S4=>?_)
 refine QD (ownStep (by kernel_rfl) A env g₀ s₀ oa4 g4 s4 _ _ R S4 fun g5 s5 oa5 S5 M5=>?_)
 have L5:SLe (T1 figs one two aN 0) (((((p8 (one.map (QAd figs)) (two.map (QAd figs))).put (nm "n") (.int ((two.map (QAd figs)).length:Nat))).put (nm "m") (.int ((one.map (QAd figs)).length:Nat))).put (nm "NULL") (.obj aN)).newOwn (nm "result")):=by
  unfold T1
  rw [List.take_zero,QM7,Qs,Qs,show iD figs aN (ex [] two)=two.map (QAd figs) from QLp,show iD figs aN (ex [] one)=one.map (QAd figs) from QLp]
  exact .by_ (by kernel_rfl)
 have hr:=fun {p1 p2 p3 p4 p5 p6 p7:Pos} {k0:Nat}=>QGg (G:=G) (aN:=aN) (x:=nm "s") (f:=nm "enumerate") (a:=nm "i") (b:=nm "elem") (es:=[.Name (nm "i") p1,.Name (nm "elem") p2]) (kk:=k0) (p:=p3) (pf:=p4) (px:=p5) (pc:=p6) (pos:=p7) (body:=(lp (fnBody 8) 0).2) (n:=one.length)
  (T1 figs one two aN) (fun i=>iD figs aN (ex (one.take i) one)) (by decide) (by kernel_rfl) (by decide) rfl (by decide) (by kernel_rfl) (by kernel_rfl) (fun i=>⟨by kernel_rfl,by rw [Qs,QFO]⟩) fun i d hi hd=>by
   have hi:=List.getElem?_eq_getElem hi
   rw [Q7,QIe,hi] at hd
   cases hd
   exact QSt hF hi (Qd h1 (by decide)) (Qd h2 (by decide)) fun c' hc'=>inj c' hc' _ (List.mem_append_left _ (List.mem_of_getElem? hi))
 have hs:=fun {p1 p2 p3 p4 p5 p6 p7:Pos} {k0:Nat}=>QGg (G:=G) (aN:=aN) (x:=nm "t") (f:=nm "enumerate") (a:=nm "i") (b:=nm "elem") (es:=[.Name (nm "i") p1,.Name (nm "elem") p2]) (kk:=k0) (p:=p3) (pf:=p4) (px:=p5) (pc:=p6) (pos:=p7) (body:=(lp (fnBody 8) 1).2) (n:=two.length)
  (T2 figs one two aN) (fun i=>iD figs aN (ex (one++two.take i) two)) (by decide) (by kernel_rfl) (by decide) rfl (by decide) (by kernel_rfl) (by kernel_rfl) (fun i=>⟨by kernel_rfl,by rw [Qs,QFO]⟩) fun i d hi hd=>by
   have hi:=List.getElem?_eq_getElem hi
   rw [Q7,QIe,hi] at hd
   cases hd
   exact QTf hF hi h1 h2 fun c' hc'=>inj c' (List.mem_append_right _ hc') _ (List.mem_append_right _ (List.mem_of_getElem? hi))
 refine QD (hr A env g₀ s₀ oa5 g5 s5 _ _ R (S5.weak L5) (nl.le M5.le) fun g6 s6 S6 M6=>?_)
 have L6:T1 figs one two aN one.length=T2 figs one two aN 0:=by
  unfold T1 T2
  rw [QMj,List.take_zero,List.append_nil,Q6 (Qf _)]
 rw [L6] at S6 M6
 refine QD (hs A env g₀ s₀ oa5 g6 s6 _ _ R S6 (nl.le (M5.le.trans M6.le)) fun g7 s7 S7 M7=>?_)
 refine QB0 ((Ev.mk (G:=G) (C:=fun _=>none) hF (fun _ _ h=>nomatch h) (by decide)).ok (c:= .sts ((fnBody 8).drop 7) (T2 figs one two aN two.length) [] (okR (.list ((QDm one two two.length).map (QDW figs))))) (n:=100) (QAZ (@rfl D (.list ((QDm one two two.length).map (QDW figs)))) (by kernel_rfl))) fun o _ e h=>?_
 cases o with
 |ret d=>cases h;rw [QOL] at e;exact e A env g₀ s₀ oa5 g7 s7 Q E R S7 k
 |_=>exact False.elim h
end
noncomputable def QA1(x:PySem.Str):Bool:=x.cps.toList.all (fun c=>decide (32≤c∧c<127))&&decide (x.cps.size≤1000)
noncomputable def codeN:Array Nat:= #[14,10,4,1,1,22,0,31,16,127,0,13,7,22,0,31,16,127,0,1]
noncomputable def codeV:Array Nat:= #[14,14,4,1,1,9,4294966783,0,0,2147483648,0,0,0,0,0,13,11,9,4294966783,0,0,2147483648,0,0,0,0,0,1]
theorem QTl{c:Nat}(h1:32≤c)(h2:c<127)(seen:Sre.Seen):∃seen',Sre.inSet codeN c 20 5 true seen= .ok (false,seen'):=by
 have e:Sre.inSet codeN c 20 5 true seen=(if (decide (0≤c)&&decide (c≤31))=true then .ok (true,seen.add 22) else if (c==127)=true then .ok (true,(seen.add 22).add 16) else .ok (false,((seen.add 22).add 16).add 0)):=by kernel_rfl
 refine ⟨((seen.add 22).add 16).add 0,?_⟩
 rw [e,if_neg (by simp;exact zn1 [_] 1 (.a (.n 31) (.n 1)) (.v 0) 1 (.n 32) (.v 0) rfl h1),if_neg (by simp;exact Qi (zn1 [_] 1 (.a (.v 0) (.n 1)) (.n 127) 1 (.a (.v 0) (.n 1)) (.n 127) rfl h2))]
theorem QRg{c:Nat}(h1:32≤c)(h2:c<127):(codeV.getD (5+(1+c/32)) 0).testBit (c%32)=false:=by
 have:∀k:Fin 127,32≤k.val→(codeV.getD (5+(1+k.val/32)) 0).testBit (k.val%32)=false:=by decide+kernel
 exact this ⟨c,h2⟩ h1
theorem QTk{c:Nat}(h1:32≤c)(h2:c<127)(seen:Sre.Seen):∃seen',Sre.inSet codeV c 28 5 true seen= .ok (false,seen'):=by
 have e:Sre.inSet codeV c 28 5 true seen=(if (decide (c<256)&&(codeV.getD (5+(1+c/32)) 0).testBit (c%32))=true then .ok (true,seen.add 9) else .ok (false,(seen.add 9).add 0)):=by kernel_rfl
 refine ⟨(seen.add 9).add 0,?_⟩
 rw [e,QRg h1 h2,Bool.and_false,if_neg (by decide)]
theorem QE9{m:Sre.M}(hs:∀c,32≤c→c<127→∀seen,∃seen',Sre.inSet m.code c m.code.size 5 true seen= .ok (false,seen'))(ht:∀i,i<m.lim→32≤m.text.getD i 0∧m.text.getD i 0<127):∀(fuel s:Nat) (seen:Sre.Seen),∃seen',Sre.M.admitted m fuel s seen= .ok (none,seen')
 |0,s,seen=>⟨seen,rfl⟩
 |fuel+1,s,seen=>by
  unfold Sre.M.admitted
  by_cases h:s≥m.lim
  ·exact ⟨seen,if_pos h⟩
  ·refine oA (ht s (by exact zn1 [_,_] 1 (.a (.v 0) (.n 1)) (.v 1) 1 (.a (.v 0) (.n 1)) (.v 1) rfl (Nat.lt_of_not_le h))) fun a b=>?_
   refine oE (hs _ a b seen) fun seen1 e=>?_
   refine oE (QE9 hs ht fuel (s+1) seen1) fun seen2 e2=>?_
   refine ⟨seen2,?_⟩
   rw [if_neg h,e]
   exact e2
section
variable {prog:QV}{w:QX}{A:QT}{E:QS→QR→Prop}{s:QR}
theorem QGc{c:Nat→Bool}{f:Nat→String}:∀{l:List Nat} {Q:PUnit→QR→Prop},Q () s→Qa (model prog w) A (forIn l PUnit.unit fun i _=>if c i=true then (do rule (f i);pure (ForInStep.yield PUnit.unit)) else pure (ForInStep.yield PUnit.unit)) Q E s
 |[],Q,h=>QC h
 |i::r,Q,h=>by
  rw [List.forIn_cons]
  cases c i with
  |true=>exact QB (QB (QQ (QC (QGc h))))
  |false=>exact QB (QC (QGc h))
theorem QMk{m:Sre.M}{Q:Option Sre.M→QR→Prop}(ha:m.answer=some false)(hf:m.frames=[])(ho:m.outcome=none)(h:Q none s):Qa (model prog w) A (Re.reRunToEnd m) Q E s:=by
 unfold Re.reRunToEnd
 have hst:m.step={m with outcome:=some .failed}:=by
  unfold Sre.M.step
  rw [ho,ha,hf];rfl
 have hrun:m.runFor Re.reTurnSteps={m with outcome:=some .failed}:=by
  show Sre.M.runFor (3+1) m=_
  unfold Sre.M.runFor
  rw [ho]
  show Sre.M.runFor 3 m.step=_
  rw [hst]
  rfl
 have hd:Re.reDrive (2^64) m=pure {m with outcome:=some .failed}:=by
  show Re.reDrive (18446744073709551615+1) m=_
  unfold Re.reDrive
  rw [hrun];rfl
 rw [hd]
 refine QB (QC (QB (QGc ?_)))
 exact QC h
end
theorem QKZ{code text:Array Nat}(hinfo:(match Sre.ops[code.getD 0 0]? with|some .INFO=>true|_=>false)=true)(h4:(code.getD 2 0==4)=true)
  (hs:∀c,32≤c→c<127→∀seen,∃seen',Sre.inSet code c code.size 5 true seen= .ok (false,seen')) (ht:∀i,i<text.size→32≤text.getD i 0∧text.getD i 0<127):
  (Sre.forSearch code text 0 0 text.size false).answer=some false∧(Sre.forSearch code text 0 0 text.size false).frames=[]∧(Sre.forSearch code text 0 0 text.size false).outcome=none:=by
 unfold Sre.forSearch
 dsimp only
 split
 ·exact ⟨rfl,rfl,rfl⟩
 ·unfold Sre.M.attemptFrom
  rw [if_neg (by
   intro h
   have:∀b:Bool,b=true→(!b)=true→False:=by decide
   exact this _ (by unfold Sre.M.hasFirstSet;exact Bool.and_eq_true_iff.mpr ⟨hinfo,h4⟩) h)]
  generalize hm:Sre.M.admitted _ _ _ _=r
  have:∃seen',r= .ok (none,seen'):=by
   rw [←hm]
   exact QE9 hs ht _ _ _
  revert this
  refine rE fun seen' ζ1=>?_
  subst ζ1
  exact ⟨rfl,rfl,rfl⟩
theorem QNO{x:PySem.Str}(h:QA1 x=true):∀i,i<x.cps.size→32≤x.cps.getD i 0∧x.cps.getD i 0<127:=by
 intro i hi
 unfold QA1 at h
 rw [QAT] at h
 have:=List.all_eq_true.mp h.1 (x.cps[i]) (by exact List.getElem_mem _)
 have e:x.cps.getD i 0=x.cps[i]:=by simp [Array.getD,hi]
 rw [e]
 exact of_decide_eq_true this
theorem QHY:PlainAttrs "re.Pattern":=
 ⟨⟨"object.__getattribute__",by rw [typeLookup_type,builtinLookup_eq_fast];kernel_rfl,by decide+kernel⟩,by rw [typeLookup_type,builtinLookup_eq_fast];kernel_rfl⟩
theorem QFv:Slot "re.Pattern" "search" "re.Pattern.search":=
 .of (owner:="re.Pattern") (n:="search") (by rw [typeLookup_type,builtinLookup_eq_fast];kernel_rfl) (by decide+kernel) (by decide+kernel) (by decide+kernel)
  (by first|exact .inl (by decide+kernel)|exact .inr (by decide+kernel)) (by rw [isSubtype_type];kernel_rfl)
theorem QJl:typeOf (.builtin "re.Pattern.search")=pure (.type "method_descriptor"):=by show builtinType _=_;rw [builtinType_eq_fast];kernel_rfl
theorem QI4:entryFor table "re.Pattern.search"=some Builtin.«re.Pattern.search»:=entryFor_of_tree (by kernel_rfl)
theorem QJ8(a b:QS):argsOk "re.Pattern.search" ⟨[a,b],[]⟩:=by unfold argsOk;kernel_rfl
section
variable {prog:QV}{w:QX}{A:QT}{E:QS→QR→Prop}{s:QR}
theorem QLE{p c:QW}{o oc:Obj}{fs items:Array QS}{n:Nat}{code:Array Nat}{x:PySem.Str}{t:Tok}{Q:QS→QR→Prop}(hp:s.heap.get? p=some o)(hcl:o.cls= .type "re.Pattern")(hd:o.data= .fields fs)(h5:fs.getD 5 .none= .ref c)(h6:Re.reRawNat (fs.getD 6 .none)=0)(h2:Re.reRawNat (fs.getD 2 .none)=0)
  (hc:s.heap.get? c=some oc) (hcd:oc.data= .seq items n) (hcode:(items.map Re.reRawOf).map (·.toNat)=code)
  (hinfo:(match Sre.ops[code.getD 0 0]? with|some .INFO=>true|_=>false)=true) (h4:(code.getD 2 0==4)=true)
  (hs:∀c,32≤c→c<127→∀seen,∃seen',Sre.inSet code c code.size 5 true seen= .ok (false,seen')) (hx:QA1 x=true) (h:Q .none s):
  Qa (model prog w) A (call (.builtin "re.Pattern.search") [.ref p,.str x t]) Q E s:=by
 have hT:s.TypeIs (.ref p) "re.Pattern":=⟨_,hp,hcl⟩
 refine QJ QFv hT QI4 ?_ (QJ8 _ _)
 skip
 have hn:Re.reNamed "re.Pattern.search" "search" ["string","pos","endpos"] 1 [Value.str x t] []=pure [some (.str x t),none,none]:=by kernel_rfl
 refine QB ?_
 unfold Re.reTarget
 dsimp only
 rw [hn]
 refine QB (QC ?_)
 skip
 refine QB (QC (QB (QC (QB (wpAny_fieldsOf hp hd ?_)))))
 have ht:Re.reTextOf (.str x t)=pure (x.cps,0):=rfl
 rw [ht]
 refine QB (QC ?_)
 dsimp only
 rw [h6,h5,h2]
 have hz:Qa (model prog w) A.in1 (Re.reRawItems (.ref c)) (fun r s'=>s'=s∧r=items.map Re.reRawOf) (fun e s'=>E e s') s:=by
  unfold Re.reRawItems
  exact QB (wpAny_seqItems hc hcd (QC ⟨rfl,rfl⟩))
 have hnc:Re.reNoCollectionInside (.str x t) 0=pure ():=rfl
 rw [if_neg (by decide),if_neg (by decide),hnc]
 refine QB (QC ?_)
 refine QB (QL hz (fun r s' hr=>?_) fun _ _ e=>e)
 revert hr
 refine rA fun ζ0 ζ1=>?_
 subst ζ0
 subst ζ1
 refine QC ?_
 rw [hcode]
 have hl:x.cps.size≤1000:=by
  unfold QA1 at hx
  rw [QAT] at hx
  exact of_decide_eq_true hx.2
 have e0:min (Int.toNat 0) x.cps.size=0:=rfl
 have e1:min (Int.toNat (2^63-1)) x.cps.size=x.cps.size:=by
  have:Int.toNat (2^63-1)=9223372036854775807:=by decide
  rw [this];omega
 rw [e0,e1]
 refine oAA (QKZ hinfo h4 hs (QNO hx)) fun f1 f2 f3=>?_
 skip
 exact QB (QMk f1 f2 f3 (QC ⟨_,rfl,h⟩))
end
noncomputable def QCf(c:Nat):Nat:=if 65≤c∧c≤90 then c+32 else c
noncomputable def QA3(x:PySem.Str):PySem.Str:=⟨x.cps.map QCf⟩
theorem QKU{c:Nat}(h:c<127):Unicode.lowerOf c=[QCf c]:=by
 have:∀k:Fin 127,Unicode.lowerOf k.val=[QCf k.val]:=by decide+kernel
 exact this ⟨c,h⟩
theorem QKK{x:PySem.Str}(h:QA1 x=true){c:Nat}(hc:c∈x.cps.toList):32≤c∧c<127:=by
 unfold QA1 at h
 rw [QAT] at h
 exact of_decide_eq_true (List.all_eq_true.mp h.1 c hc)
theorem QGq{x:PySem.Str}(h:QA1 x=true):x.cps.size≤1000:=by
 unfold QA1 at h
 rw [QAT] at h
 exact of_decide_eq_true h.2
theorem QHG{x:PySem.Str}(h:QA1 x=true):Txt.lower x=QA3 x:=by
 unfold Txt.lower QA3 placed
 congr 1
 have e:(x.cps.mapIdx fun i c=>(Unicode.lowerAt x.cps i).toArray)=x.cps.map fun c=> #[QCf c]:=by
  refine Array.ext (by simp) fun i h1 h2=>?_
  simp only [Array.getElem_mapIdx,Array.getElem_map]
  have hi:i<x.cps.size:=by simpa using h2
  unfold Unicode.lowerAt
  rw [Array.getElem?_eq_getElem hi]
  refine oA (QKK h (c:=x.cps[i]) (by simp)) fun _ hc=>?_
  dsimp only
  rw [if_neg (by intro q;have:=eq_of_beq (Bool.and_eq_true_iff.mp q).1;exact QTw (zn2 [_] 1 (.n 1) (.n 0) 1 (.a (.v 0) (.n 1)) (.n 127) 1 (.n 931) (.v 0) rfl hc (Qe this.symm))),QKU hc]
 rw [e]
 have:∀l:List Nat,((l.map fun c=> #[QCf c]).toArray).flatten=(l.map QCf).toArray:=fun l=>by
  rw [←Array.toList_inj]
  simp only [Array.toList_flatten,Q3]
  induction l with
  |nil=>rfl
  |cons a r ih=>simpa using ih
 have h2:=this x.cps.toList
 rw [←List.map_toArray,←List.map_toArray] at h2
 simpa using h2
theorem QM4{c:Nat}(h:32≤c∧c<127):32≤QCf c∧QCf c<127:=by unfold QCf;split<;>omega
theorem QH3{x:PySem.Str}(h:QA1 x=true):QA1 (QA3 x)=true:=by
 unfold QA1 QA3
 rw [QAT]
 refine ⟨List.all_eq_true.mpr fun c hc=>?_,decide_eq_true (by simpa using QGq h)⟩
 refine oEA (Qw.mp (by simpa using hc:c∈x.cps.toList.map QCf)) fun d hd ζ2=>?_
 subst ζ2
 exact decide_eq_true (QM4 (QKK h hd))
section
variable {prog:QV}{w:QX}{G:Gd prog w}{N:Nat}
theorem QON(X:(KF w.params).In G.h){r v:Str}{rp vp ap p:Pos}{ρ:PE}{x:PySem.Str}{a:QW}(ha:a=281∨a=286)(hr:ρ.get r=some (.obj a))(hv:ρ.get v=some (.str x))(pr:plainName r=true)(pv:plainName v=true)(hline:(ap.endLine==p.line)=true)(hx:QA1 x=true):
  QAW G N (.Call (.Attribute (.Name r rp) (Qc "search") ap) [.Name v vp] [] p) ρ .none:=by
 intro A env g s Q E R V k
 have XK:=V.kin X
 unfold plainName at pr pv
 simp only [QAT,beq_iff_eq] at pr pv
 refine wpAny_Call_method_lateS (by unfold attributeBase;rfl) rfl hline (QM (QBP V hr pr.2 fun rv drv=>?_) pr.1)
 cases drv
 have fin:∀{o oc:Obj} {fs items:Array QS} {n:Nat} {c:QW} {code:Array Nat},s.heap.get? a=some o→o.cls= .type "re.Pattern"→o.dict=none→o.data= .fields fs→fs.getD 5 .none= .ref c→Re.reRawNat (fs.getD 6 .none)=0→Re.reRawNat (fs.getD 2 .none)=0→
   s.heap.get? c=some oc→oc.data= .seq items n→(items.map Re.reRawOf).map (·.toNat)=code→(match Sre.ops[code.getD 0 0]? with|some .INFO=>true|_=>false)=true→(code.getD 2 0==4)=true→
   (∀c,32≤c→c<127→∀seen,∃seen',Sre.inSet code c code.size 5 true seen= .ok (false,seen'))→
   MethodOnS prog w A E (Qc "search") (.ref a) p (backTo p (starEach [.Name v vp] env)) Q s:=by
  intro o oc fs items n c code h1 h2 hdd h3 h4 h5 h6 h7 h8 h9 h10 h11 h12
  refine ⟨"re.Pattern","re.Pattern.search",QHY,QFv,QJl,⟨_,h1,h2⟩,fun a' ea=>by cases ea;exact ⟨_,h1,hdd⟩,?_⟩
  refine QAf (first:=[.ref a]) (fun a e=>by cases e) rfl (QH (QM (QBP V hv pv.2 fun u du=>?_) pv.1) rfl)
  cases du
  exact QK (QLE h1 h2 h3 h4 h5 h6 h7 h8 h9 h10 h11 h12 hx (k g s .none (.refl V.inn) .none))
 rcases ha with rfl|rfl
 ·exact fin (XK 281 _ rfl) rfl rfl rfl rfl rfl rfl (XK 280 _ rfl) rfl (code:=codeN) (by decide+kernel) (by decide+kernel) (by decide+kernel) fun c h1 h2 seen=>QTl h1 h2 seen
 ·exact fin (XK 286 _ rfl) rfl rfl rfl rfl rfl rfl (XK 285 _ rfl) rfl (code:=codeV) (by decide+kernel) (by decide+kernel) (by decide+kernel) fun c h1 h2 seen=>QTk h1 h2 seen
end
noncomputable def C9:QCl:=QBU [("str",.typ "str"),("_name_disallowed_re",.obj 281),("_value_disallowed_re",.obj 286)]
section
variable {prog:QV}{w:QX}{G:Gd prog w}
theorem QMb(X:(KF w.params).In G.h)(hC:COk G C9){d0:D}{x:PySem.Str}{b:Bool}(hx:QA1 x=true):QAu G 10 (mS 33 2).names (mB 33 2) [(nm "self",d0),(nm "value",.str x),(nm "name",.bool b)] (.str x):=by
 have R:Ev G 10 (fun _=>none) C9:=⟨(fun _ _ h=>nomatch h),hC,Qf _⟩
 refine QIm (QBZ QCY (QFK (QI5 (teq R (c:=true) [] (QAZ (@rfl Bool true) (by kernel_rfl))) ?_)))
 rw [if_pos rfl]
 have e1:∀p1 p2 p3 p4,EvX G 10 (.IfExp (.Name (nm "name") p1) (.Name (nm "_name_disallowed_re") p2) (.Name (nm "_value_disallowed_re") p3) p4) (⟨(mS 33 2).names,[(nm "self",d0),(nm "value",.str x),(nm "name",.bool b)]⟩:PE) (.obj (if b then 281 else 286)):=fun p1 p2 p3 p4=>by
  cases b
  ·exact evq R [] (QAZ (@rfl D (.obj 286)) (by kernel_rfl))
  ·exact evq R [] (QAZ (@rfl D (.obj 281)) (by kernel_rfl))
 refine QBZ (QCJ (by kernel_rfl) rfl (e1 _ _ _ _)) (QBZ (QI5 (c:=false) (QIR (b:=false) (QON X (a:=if b then 281 else 286) (by cases b<;>simp) (by kernel_rfl) (by kernel_rfl) (by decide) (by decide) rfl hx) rfl (fun env whole=>rfl)) QEu) (QFK (QE4 (QBH (by decide) (by kernel_rfl) (by kernel_rfl)))))
end
noncomputable def QDS(h:Heap)(L:QW):Heap:=h.update L fun _=>{cls:= .none,data:= .freed}
theorem hide_self{h:Heap}{L:QW}:(QDS h L).get? L=none:=by
 obtain ⟨objs,l⟩:=h
 unfold QDS Heap.update Heap.get?
 rw [Array.getElem?_modify,if_pos rfl]
 cases objs[L]? <;>rfl
theorem hide_ne{h:Heap}{L b:QW}(q:b≠L):(QDS h L).get? b=h.get? b:=Heap.get?_update_ne _ _ _ _ q
theorem QLz{h:Heap}{L b:QW}{o:Obj}(e:(QDS h L).get? b=some o):h.get? b=some o:=by
 by_cases q:b=L
 ·subst q;rw [hide_self] at e;cases e
 ·rw [hide_ne q] at e;exact e
theorem QDX{h:Heap}{L b:QW}(e:h.get? b=none):(QDS h L).get? b=none:=by
 by_cases q:b=L
 ·subst q;exact hide_self
 ·rw [hide_ne q];exact e
noncomputable def QDk(s:QR)(L:QW):QR:={s with heap:=QDS s.heap L}
section
variable {prog:QV}{w:QX}{G:Gd prog w}{N:Nat}
variable {A:QT}{g₀:Fz}{s₀:QR}{env:Env}{σ:PS}{oa:Str→QW}{g:Fz}{s:QR}{E:QS→QR→Prop}
theorem Sv.rebase(S:Sv G A g₀ s₀ env σ oa g s)(L:QW):Sv G A g₀ (QDk s₀ L) env σ oa g s where
 ext:=by
  refine oEE S.ext.same fun h1 t1 e1=>?_
  exact ⟨fun b o e=>S.ext.heap b o (QLz e),S.ext.le,S.ext.inn,fun a o e=>(S.ext.new a o e).imp_right QDX,⟨h1,t1,by rw [e1];rfl⟩⟩
 vw:=S.vw
 locg:=S.locg
 loc0:=QDX S.loc0
 ns:=S.ns
 cell:=fun x c h=>by refine oAA (S.cell x c h) fun h1 h2 h3=>?_;exact ⟨h1,QDX h2,h3⟩
 apart:=S.apart
 own:=fun x ds h=>by refine QSC (S.own x ds h) fun h1 h2 h3 h4=>?_;exact ⟨h1,h2,QDX h3,h4⟩
 ownA:=S.ownA
theorem Sv.upW(S:Sv G A g₀ s₀ env σ oa g s){L:QW}{oL:Obj}(o:Off env σ oa g s₀ L)(hL:s.heap.get? L=some oL)(nd:∀es ep,oL.data≠ .dict es ep){g':Fz}{s':QR}(x:Ext g (QDk s L) g' s'):Sv G A g₀ s₀ env σ oa g' s':=
 (S.poke0 (h':=QDS s.heap L) o hL nd fun b o q e=>by rw [hide_ne q];exact e).up x
end
noncomputable abbrev n_name:Str:=Qc "name"
noncomputable def QCc:QBR:=fun ds ks d=>∃a x b,ds=[a,.str x]∧ks=[(n_name,.bool b)]∧QA1 x=true∧d= .str x
noncomputable def QK4(ds:List D)(kds:List (Str×D)):Option (List (Str×D)):=match ds,kds with
 |[a,x],[(n,b)]=>if n=n_name then some [(Qc "self",a),(Qc "value",x),(n_name,b)] else none
 |_,_=>none
theorem QFV(a x b:D)(n:Str):QK4 [a,x] [(n,b)]=if n=n_name then some [(Qc "self",a),(Qc "value",x),(n_name,b)] else none:=rfl
theorem QMw{ds:List D}{kds bs:List (Str×D)}(h:QK4 ds kds=some bs):∃a x b,ds=[a,x]∧kds=[(n_name,b)]∧bs=[(nm "self",a),(nm "value",x),(n_name,b)]:=by
 cases ds with
 |nil=>exact QAV h
 |cons a t=>cases t with
  |nil=>exact QAV h
  |cons x t=>cases t with
   |cons=>exact QAV h
   |nil=>cases kds with
    |nil=>exact QAV h
    |cons p t=>cases t with
     |cons=>exact QAV h
     |nil=>
      obtain ⟨n,b⟩:=p
      by_cases hn:n=n_name
      ·subst hn;rw [QFV,if_pos rfl] at h;exact ⟨a,x,b,rfl,rfl,(Option.some.inj h).symm⟩
      ·rw [QFV,if_neg hn] at h;exact QAV h
noncomputable def PL(h:Heap)(g:Fz)(L:QW)(xs:List D):Prop:=∃vs,h.PlainList L vs∧DenL g vs.toList xs
section
variable {prog:QV}{w:QX}{G:Gd prog w}{N:Nat}
theorem QND(X:(KF w.params).In G.h)(hC:COk G C9):QBB G 11 316 QCc:=by
 refine oE (QDa (G:=G) (a:=316) (fd:=fd316) (body:=mB 33 2) X (by kernel_rfl) rfl (by kernel_rfl)) fun o T=>?_
 refine QDt T (bd:=QK4) ?_ ?_
 ·intro ds kds d
  refine QCB fun a x b ζ3 ζ4=>rA fun hx ζ6=>?_
  cases ζ3
  cases ζ4
  cases ζ6
  exact ⟨[(nm "self",a),(nm "value",.str x),(nm "name",.bool b)],(QFV ..).trans (if_pos rfl),QMb X hC hx⟩
 ·intro g s vs kvs ds kds bs h fi base dvs dkvs
  refine QGw (QMw h) fun a x b ζ3 ζ4 ζ5=>?_
  subst ζ3
  subst ζ4
  subst ζ5
  refine QBO dvs.two fun w1 w2 ζ2 a1 a2=>?_
  subst ζ2
  refine oEA (DenL.one dkvs) fun w3 ζ1 b1=>?_
  subst ζ1
  exact ⟨by kernel_rfl,[(nm "self",w1),(nm "value",w2),(n_name,w3)],.of_eq (by kernel_rfl),rfl,.cons a1 (.cons a2 (.cons b1 .nil)),show [nm "self",nm "value",nm "name"].Nodup by decide⟩
noncomputable def QNx(G:Gd prog w)(N:Nat)(names:List (Str×NameKind))(body:List Stmt)(bs:List (Str×D))(a:QW)(xs xs':List D):Prop:=
 ∀(A:QT) (env:Env) (g₀:Fz) (s₀ s:QR) (L:QW) (Q:Flow→QR→Prop) (E:QS→QR→Prop),Rm A N→env.frame=some env.locals→(∃fr,A.frames=some (env::fr))→Sv G A g₀ s₀ env {ρ:={sc:=names,vs:=bs},os:=[]} (fun _=>0) g₀ s→
  Off env {ρ:={sc:=names,vs:=bs},os:=[]} (fun _=>0) g₀ s₀ L→QCq g₀ a L→PL s.heap g₀ L xs→
  (∀g' s',Ext g₀ s₀ g' s'→g' L=none→PL s'.heap g' L xs'→Q (.ret .none) s'∧Q .next s')→Qa (model prog w) A (execs body env) Q E s
noncomputable def QLx(G:Gd prog w)(N:Nat)(f:QW)(ds:List D)(a:QW)(xs xs':List D):Prop:=
 ∀(A:QT) (g:Fz) (s:QR) (vs:List QS) (L:QW) (Q E:QS→QR→Prop),Rm A N→QCr A s.heap→FIn g s.heap→FLe G.h.get? g→DenL g vs ds→QCq g a L→g L=none→PL s.heap g L xs→
  (∀g' s',Ext g (QDk s L) g' s'→g' L=none→PL s'.heap g' L xs'→Q .none s')→Qa (model prog w) A (call (.ref f) vs []) Q E s
theorem QGi{A:QT}{env:Env}{bs:List (Str×D)}{names:List (Str×NameKind)}{g:Fz}{s s₁:QR}{L:QW}{o:Obj}(S:Sv G A g s env {ρ:={sc:=names,vs:=bs},os:=[]} (fun _=>0) g s₁)(hl:s.heap.get? L=some o)(gL:g L=none):
  Off env {ρ:={sc:=names,vs:=bs},os:=[]} (fun _=>0) g (QDk s L) L:=by
 refine ⟨?_,gL,hide_self⟩
 rintro (q|⟨y,q⟩|⟨y,dy,q,_⟩)
 ·have:=S.loc0
  rw [←q,hl] at this;cases this
 ·refine oAA (S.cell y L q) fun _ h2 _=>?_
  rw [hl] at h2;cases h2
 ·cases q
theorem QMB{f:QW}{o:Obj}{fd:QZ}{body:List Stmt}(T:MAt G f o fd body){ps:List Str}{ds:List D}{a:QW}{xs xs':List D}(hbody:QNx G N fd.scope.names body (ps.zip ds) a xs xs')(hlen:ds.length=ps.length)(hn:ps.Nodup)(hk:QBQ fd.scope.names ps=true)
  (hbind:∀vs:List QS,vs.length=ps.length→bindArgs fd ⟨vs,[]⟩=pure (ps.zip vs)):QLx G (N+1) f ds a xs xs':=by
 intro A g s vs L Q E R fro fi base dvs hi gL hP k
 refine QE0 (QCu (fd:=fd) (prog:=prog) (w:=w) (G:=G) hn hk hbind g s vs [] ds [] (ps.zip ds) (by unfold QEU;rw [if_pos ⟨hlen,rfl⟩]) fi base dvs .nil) fun hk' binds hbinds hbd=>?_
 revert hP
 refine rEA fun vl ζ1 hd=>?_
 obtain ⟨n,hl⟩:=ζ1
 refine enter T R fro fi base hk' hbinds hbd fun A' env s₁ Q' E' R' hf hfr S k1 k2=>?_
 have keepL:=S.ext.heap.exact hl fun _ _ q=>nomatch q
 exact hbody A' env g (QDk s L) s₁ L Q' E' R' hf hfr (S.rebase L) (QGi S hl gL) hi ⟨vl,⟨n,keepL⟩,hd⟩ fun g' s' x' gl' pl'=>⟨k1 _ _ (k _ _ x' gl' pl'),k2 _ (k _ _ x' gl' pl')⟩
end
section
variable {prog:QV}{w:QX}{G:Gd prog w}{N:Nat}
variable {A:QT}{env:Env}{ρ:PE}{g:Fz}{s:QR}{E:QS→QR→Prop}
theorem QFN(V:Vw G A env ρ g s.heap){a L:QW}(hi:QCq g a L):∃o od es n hh t,InstAt s.heap a o 415 (some od)∧od.data= .dict es n∧es.toList=[⟨hh,.str (Qc "_headers") t,.ref L⟩]:=by
 revert hi
 refine QJU fun o dd od es n=>QCO fun hh t h1 h2 h3=>rA fun h4 ζ11=>?_
 obtain ⟨h5,h6,h7⟩:=ζ11
 have ho:s.heap.get? a=some o:=V.inn.exact h1 fun _ _ q=>by rw [h4] at q;cases q
 refine oEA (V.inn dd od h5) fun od' ho' sm=>?_
 exact ⟨o,od',es,n,hh,t,⟨ho,h2,by unfold notCls;rw [h4],by rw [h3];exact ho'⟩,sm.data.trans h6,h7⟩
theorem QP8{m:Str}{od:Obj}{es:Array DictEntry}{n:Nat}{hh:Int}{t:Tok}{v:QS}(hd:od.data= .dict es n)(he:es.toList=[⟨hh,.str (Qc "_headers") t,v⟩])(hm:(Qc "_headers"==m)=false):lookIn m od=some none:=by
 unfold lookIn
 rw [hd]
 dsimp only
 rw [he]
 have e1:(Value.str (Qc "_headers") t).isStr m=false:=hm
 rw [List.find?_cons_of_neg (by rw [e1];decide)]
 rfl
theorem QES(X:(KF w.params).In G.h)(V:Vw G A env ρ g s.heap){a L f:QW}{m:Str}{pl:Sem Bool}{Q:QS×List QS→QR→Prop}(hi:QCq g a L)(hf:findIn (KF w.params) (.ref 415) m=some (some (.ref f)))(ht:typeIn (KF w.params) (.ref f)=some (.type "function"))
  (hm:(Qc "_headers"==m)=false) (h:Q (.ref f,[.ref a]) s):Qa (model prog w) A (getMethod (.ref a) m pl) Q E s:=by
 refine QBh (QFN V hi) fun o od es n hh=>QCm fun t I hd he=>?_
 exact method_fn (V.kin X) I (by kernel_rfl) (by kernel_rfl) hf ht (by show Option.map _ (lookIn m od)=_;rw [QP8 hd he hm];rfl) h
noncomputable def QD0(o:Expr)(name:Str)(apos pos:Pos)(args:List Expr)(kws:List Keyword):Prop:=∀env,∃pl,eval (.Call (.Attribute o name apos) args kws pos) env=(do
   let ov←eval o env
   standAt apos.atName
   let (f,first)←holding [ov] (getMethod ov name pl)
   callWith pos f first (backTo pos (starEach args env)) (backToKw pos (keywordEach kws env)))
theorem QGK(X:(KF w.params).In G.h){a:QW}{fd:QZ}(h:QKG (KF w.params) a=some fd):QGl G a:=by
 refine QJW (QFt h) fun oc od sl hl=>?_
 exact QOl (X _ _ hl) rfl
theorem QRA(X:(KF w.params).In G.h)(hcv:QBB G 11 316 QCc)(R:Rm A 11)(V:Vw G A env ρ g s.heap){d0:D}{e:Expr}{x:PySem.Str}{b:Bool}{p1 ap cp p2 p3:Pos}{kk:Nat}{Q:QS→QR→Prop}(gself:ρ.get (Qc "self")=some d0)(hself:∀v,Den g v d0→∃a L,v= .ref a∧QCq g a L)
  (he:QAW G 11 e ρ (.str x)) (hx:QA1 x=true) (hs:QAh [e]=true) (hev:QD0 (.Name (Qc "self") p1) (Qc "_convert_string_type") ap cp [e] [⟨some n_name,.Constant (.bool b) kk p2,p3⟩]) (k:∀g' s' v,Ext g s g' s'→Den g' v (.str x)→Q v s'):
  Qa (model prog w) A (eval (.Call (.Attribute (.Name (Qc "self") p1) (Qc "_convert_string_type") ap) [e] [⟨some n_name,.Constant (.bool b) kk p2,p3⟩] cp) env) Q E s:=by
 refine oE (hev env) fun pl hpl=>?_
 refine methodCall_KW (name:=Qc "_convert_string_type") (pl:=pl) (he:=hpl) (QM (QBP V gself (by decide) fun v dv=>?_) (by decide))
 refine QB0 (hself v dv) fun a L ζ2 hi=>?_
 subst ζ2
 refine QES X V hi (f:=316) (by kernel_rfl) (by kernel_rfl) (by decide) ?_
 have n2:(backToKw cp (keywordEach [⟨some n_name,.Constant (.bool b) kk p2,p3⟩] env)).all (·.1.isSome)=true:=rfl
 refine callWith_of (P:=fun h=>HLe G.h h) (first:=[.ref a]) (QCo hs n2) (QGK X (a:=316) (fd:=fd316) (by kernel_rfl)) (QBo hs n2 (QBf (.one he) hs R V fun g1 s1 vs x1 dvs=>QKc (ds:=[.bool b]) (.one (constOk rfl)) R (V.up x1) fun g2 s2 kvs x2 dks=>⟨?_,?_⟩))
 ·exact (V.up x1|>.up x2).hle
 ·have V2:=(V.up x1).up x2
  exact hcv A g2 s2 (.ref a::vs) kvs [d0,.str x] [(n_name,.bool b)] (.str x) Q E ⟨d0,x,b,rfl,rfl,hx,rfl⟩ R V2.fr x2.inn V2.base (.cons ((dv.mono x1.le).mono x2.le) (dvs.mono x2.le)) dks fun g3 s3 v3 x3 d3=>k _ _ _ ((x1.trans x2).trans x3) d3
theorem QJP{g:Fz}{xs:List D}:∀v,Den g v (.hdr xs)→∃a L,v= .ref a∧QCq g a L:=by
 intro v h
 cases h with
 |hdr hi hl=>exact ⟨_,_,rfl,hi⟩
theorem QRD(X:(KF w.params).In G.h)(hcv:QBB G 11 316 QCc){xs:List D}{e:Expr}{x:PySem.Str}{b:Bool}{p1 ap cp p2 p3:Pos}{kk:Nat}(gself:ρ.get (Qc "self")=some (.hdr xs))(he:QAW G 11 e ρ (.str x))(hx:QA1 x=true)(hs:QAh [e]=true)(hev:QD0 (.Name (Qc "self") p1) (Qc "_convert_string_type") ap cp [e] [⟨some n_name,.Constant (.bool b) kk p2,p3⟩]):
  QAW G 11 (.Call (.Attribute (.Name (Qc "self") p1) (Qc "_convert_string_type") ap) [e] [⟨some n_name,.Constant (.bool b) kk p2,p3⟩] cp) ρ (.str x):=
 fun A env g s Q E R V k=>QRA X hcv R V gself QJP he hx hs hev k
theorem QJD{e:Expr}{x:PySem.Str}{ap p:Pos}(he:QAW G N e ρ (.str x))(hx:QA1 x=true)(hline:(ap.endLine==p.line)=true)(hb:QFM e=true):QAW G N (.Call (.Attribute e (Qc "lower") ap) [] [] p) ρ (.str (QA3 x)):=by
 intro A env g s Q E R V k
 refine wpAny_Call_method_lateS (QEa hb _ _) rfl hline (he A env g s _ E R V fun g1 s1 v x1 d1=>?_)
 cases d1 with
 |str _ t=>
  refine SB.lower ?_ ?_
  ·have e:(Txt.lower x).length≤1000:=by
    rw [QHG hx]
    have:=QGq hx
    unfold PySem.Str.length QA3
    simpa using this
   have:=QAb
   unfold Builtin.Str.tooLong
   simp;exact zn2 [_,_] 1 (.v 0) (.v 1) 1 (.v 0) (.n 1000) 1 (.n 100000) (.v 1) rfl e this
  ·rw [QHG hx]
   exact k _ _ _ (x1.trans (.tok x1.inn)) (.str _ _)
theorem QNV(X:(KF w.params).In G.h){xs:List D}{p1 p:Pos}(gself:ρ.get (Qc "self")=some (.hdr xs)):QAW G N (.Attribute (.Name (Qc "self") p1) (Qc "_headers") p) ρ (.list xs):=by
 intro A env g s Q E R V k
 refine Attribute_name (QM (QBP V gself (by decide) fun v dv=>?_) (by decide))
 cases dv with
 |hdr hi hl=>
  refine QBh (QFN V hi) fun o od es n hh=>QCm fun t I hd he=>?_
  refine get_value (K:=KF w.params) (C:=415) (od:=some od) (V.kin X) I (by kernel_rfl) (findObj_own (attr:=none) (by kernel_rfl) (by kernel_rfl) rfl ?_) rfl (k _ _ _ (.tok V.inn) hl)
  unfold lookIn
  rw [hd]
  dsimp only
  rw [he]
  rfl
end
noncomputable def prD(p:PySem.Str×PySem.Str):D:= .tup [.str p.1,.str p.2]
noncomputable def QDr(ps:List (PySem.Str×PySem.Str)):Prop:=∀p∈ps,QA1 p.1=true
section
variable {prog:QV}{w:QX}{G:Gd prog w}{N:Nat}
variable {A:QT}{env:Env}{ρ:PE}{g:Fz}{s:QR}{E:QS→QR→Prop}
theorem QQ8{scope:Scope}{p:Pos}(kn:ρ.kind (Qc "name")=some .cell)(h1:scope.kind= .function)(h2:scope.names=[(Qc ".0",.local),(Qc "kv",.local),(Qc "name",.free)]):QEm ρ scope (.Name (Qc "kv") p):=by
 refine ⟨h1,?_,?_,?_,?_⟩
 ·rw [h2];decide
 ·rw [h2];decide
 ·intro q hq hfr
  rw [h2] at hq
  rcases Qx.mp hq with rfl|hq
  ·cases hfr
  rcases Qx.mp hq with rfl|hq
  ·cases hfr
  rw [Qy.mp hq]
  exact .inl kn
 ·intro x hx
  rw [show x=Qc "kv" from Qy.mp hx,h2];rfl
theorem QIy{x:Str}{p:Pos}{d:D}(hp:plainName x=true)(h:(if ρ.kind x=some .globalImplicit then none else ρ.get x)=some d):QAW G N (.Name x p) ρ d:=QG5 (C:=fun _=>none) (fun _ _ h=>nomatch h) hp h
theorem QGL{x:Str}{p:Pos}{d:D}(hp:plainName x=true)(hk:ρ.kind x≠some .globalImplicit)(h:ρ.get x=some d):QAW G N (.Name x p) ρ d:=QG5 (C:=fun _=>none) (fun _ _ h=>nomatch h) hp (by rw [if_neg hk];exact h)
theorem QL1(X:(KF w.params).In G.h){ps:List (PySem.Str×PySem.Str)}{nn:PySem.Str}{op:CmpOp}{elt:Expr}{scope:Scope}{cmp:PySem.Str→Bool}{res:PySem.Str×PySem.Str→D}{p1 p2 p3 p4 p5 p6 p7 p8 p9 p10:Pos}{kk:Nat}(hf:QDr ps)(hl:ps.length≤1000)
  (gself:ρ.get (Qc "self")=some (.hdr (ps.map prD))) (gname:ρ.get (Qc "name")=some (.str nn)) (K:QEm ρ scope (.Name (Qc "kv") p1))
  (hkv:scope.names.lookup (Qc "kv")=some .local) (hnm:scope.names.lookup (Qc "name")=some .free) (hcmp:∀a,QA8 op (.str a) (.str nn)=some (cmp a)) (hop:behindInMarks op (.Name (Qc "name") p9)=false)
  (hline:(p7.endLine==p8.line)=true)
  (helt:∀p:PySem.Str×PySem.Str,QAW G 11 elt (QBL ρ scope [(Qc "kv",prD p)]) (res p)):
  QFY G 11 elt (.Name (Qc "kv") p1) (.Attribute (.Name (Qc "self") p2) (Qc "_headers") p3) [.Compare (.Call (.Attribute (.Subscript (.Name (Qc "kv") p4) (.Constant (.int 0) kk p5) p6) (Qc "lower") p7) [] [] p8) [op] [.Name (Qc "name") p9] p10] scope ρ ((ps.filter fun p=>cmp (QA3 p.1)).map res):=by
 refine ⟨ps.map prD,K,fun env x=>rfl,QLu (by decide) (QNV X gself),QN5 (x:=prD) (p:=fun p=>cmp (QA3 p.1)) (bs:=fun p=>[(Qc "kv",prD p)]) ps fun p hp=>⟨rfl,?_,fun _=>helt p⟩,by rw [Qs];exact hl⟩
 obtain ⟨a,b'⟩:=p
 have gk:(QBL ρ scope [(Qc "kv",prD (a,b'))]).get (Qc "kv")=some (prD (a,b')):=by rw [QI8];rfl
 have gn:(QBL ρ scope [(Qc "kv",prD (a,b'))]).get (Qc "name")=some (.str nn):=by
  rw [QI8,show List.lookup (Qc "name") [(Qc "kv",prD (a,b'))]=none from rfl]
  dsimp only
  rw [if_pos hnm];exact gname
 have kk1:(QBL ρ scope [(Qc "kv",prD (a,b'))]).kind (Qc "kv")≠some .globalImplicit:=by
  rw [QGJ,hkv];exact fun h=>nomatch h
 have kk2:(QBL ρ scope [(Qc "kv",prD (a,b'))]).kind (Qc "name")≠some .globalImplicit:=by
  rw [QGJ,hnm];simp only [Option.map_some,ne_eq,Option.some.injEq];split<;>decide
 refine QDi (b:=cmp (QA3 a)) (fun A env g s Q E R V k=>?_) (by cases cmp (QA3 a)<;>first|exact QEJ|rfl)
 have e1:QAW G 11 (.Call (.Attribute (.Subscript (.Name (Qc "kv") p4) (.Constant (.int 0) kk p5) p6) (Qc "lower") p7) [] [] p8) (QBL ρ scope [(Qc "kv",prD (a,b'))]) (.str (QA3 a)):=
  QJD (QMH (QGL (by decide) kk1 gk) (constOk (d:= .int 0) rfl) rfl) (hf _ hp) hline rfl
 refine wpAny_isTrue_Compare1 (e1 A env g s _ _ R V fun g1 s1 v1 x1 d1=>QGL (N:=11) (by decide) kk2 gn A env g1 s1 _ _ R (V.up x1) fun g2 s2 v2 x2 d2=>?_) hop
 exact QKb (hcmp _) (d1.mono x2.le) d2 x2.inn (R8 (by decide) R) (wpAny_truthy_bool (k _ _ (x1.trans x2)))
end
noncomputable def QIM(ps:List (PySem.Str×PySem.Str)):List D:=ps.map fun p=> .str p.2
noncomputable def QGE(ps:List (PySem.Str×PySem.Str)):QBR:=fun ds ks d=>∃n,ds=[.hdr (ps.map prD),.str n]∧ks=[]∧QA1 n=true∧d= .list (QIM (ps.filter fun p=>QA3 p.1==QA3 n))
noncomputable def QO1:QBR:=fun ds ks d=>∃xs,ds=[.hdr xs]∧ks=[]∧xs.length≤1000∧d= .list xs
section
variable {prog:QV}{w:QX}{G:Gd prog w}
theorem QJx(X:(KF w.params).In G.h)(hcv:QBB G 11 316 QCc){ps:List (PySem.Str×PySem.Str)}{n:PySem.Str}(hf:QDr ps)(hl:ps.length≤1000)(hn:QA1 n=true):
  QAu G 11 (mS 33 8).names (mB 33 8) [(Qc "self",.hdr (ps.map prD)),(Qc "name",.str n)] (.list (QIM (ps.filter fun p=>QA3 p.1==QA3 n))):=by
 refine QIm (QBZ QCY (QBZ (QCJ (by kernel_rfl) rfl (.of rfl (QRD (xs:=ps.map prD) X hcv (by kernel_rfl) (QJD (QIy (by decide) (by kernel_rfl)) hn rfl rfl) (QH3 hn) rfl fun env=>⟨_,rfl⟩))) (QFK (QE4 (QGY (QL1 X (ps:=ps) (nn:=QA3 n) (op:= .Eq) (cmp:=fun a=>a==QA3 n) (res:=fun p=> .str p.2) hf hl (by kernel_rfl) (by kernel_rfl) (QQ8 (by kernel_rfl) ?_ ?_) ?_ ?_ (fun a=>rfl) ?_ ?_ fun p=>?_))))))
 ·rfl
 ·kernel_rfl
 ·kernel_rfl
 ·kernel_rfl
 ·exact bi_not rfl
 ·rfl
 ·exact QMH (QGL (by decide) (by rw [QGJ,show List.lookup (Qc "kv") _=some NameKind.local from by kernel_rfl];exact fun h=>nomatch h) (by rw [QI8];rfl)) (constOk (d:= .int 1) rfl) rfl
theorem QJj(X:(KF w.params).In G.h)(hcv:QBB G 11 316 QCc){ps:List (PySem.Str×PySem.Str)}(hf:QDr ps)(hl:ps.length≤1000):QBB G 12 354 (QGE ps):=by
 refine oE (QDa (G:=G) (a:=354) (fd:=fd354) (body:=mB 33 8) X (by kernel_rfl) rfl (by kernel_rfl)) fun o T=>?_
 refine QDt T (bd:=QEU [Qc "self",Qc "name"]) ?_ (QCu (by decide) (by kernel_rfl) ?_)
 ·intro ds kds d
  refine QDl fun n ζ1 ζ2 hn ζ4=>?_
  cases ζ1
  cases ζ2
  cases ζ4
  exact ⟨_,rfl,QJx X hcv hf hl hn⟩
 ·exact QC8 fun a=>all1 fun b=>by kernel_rfl
theorem QKn(X:(KF w.params).In G.h){xs:List D}(hl:xs.length≤1000):QAu G 11 (mS 33 12).names (mB 33 12) [(Qc "self",.hdr xs)] (.list xs):=by
 exact QIm (QBZ QCY (QFK (QE4 (QGk (lo:=none) (hi:=none) (st:=none) (t:= .none) (u:= .none) (l:= .none) (QNV (xs:=xs) X (by kernel_rfl)) rfl rfl rfl (show (if xs.length≤1000 then some (D.list xs) else none)=_ from if_pos hl)))))
theorem QLX(X:(KF w.params).In G.h):QBB G 12 379 QO1:=by
 refine oE (QDa (G:=G) (a:=379) (fd:=fd379) (body:=mB 33 12) X (by kernel_rfl) rfl (by kernel_rfl)) fun o T=>?_
 refine QDt T (bd:=QEU [Qc "self"]) ?_ (QCu (by decide) (by kernel_rfl) ?_)
 ·intro ds kds d
  refine QDl fun xs ζ1 ζ2 hl ζ4=>?_
  cases ζ1
  cases ζ2
  cases ζ4
  exact ⟨_,rfl,QKn X hl⟩
 ·exact all1 fun a=>by kernel_rfl
end
section
variable {prog:QV}{w:QX}{G:Gd prog w}{N:Nat}
section
variable {A:QT}{E:QS→QR→Prop}{s:QR}
theorem QOf{l sl v:QW}{items ws:Array QS}{n:Nat}{Q:Unit→QR→Prop}(hne:l≠v)(ho:s.heap.get? l=some {cls:= .type "list",data:= .seq items n})(hs:s.heap.IsSliceOf sl .none .none .none)(hv:s.heap.IsList v ws)(h1:items.size≤1000)(h2:ws.size≤1000)
  (h:∀h',h'.PlainList l ws→Heap.SameBut l s.heap h'→Q () {s with heap:=h'}):Qa (model prog w) A (setItem (.ref l) (.ref sl) (.ref v)) Q E s:=by
 have hT:s.TypeIs (.ref l) "list":=⟨_,ho,rfl⟩
 refine QFZ (id hs) fun os hos hcs hds=>?_
 have hTs:s.TypeIs (.ref sl) "slice":=⟨os,hos,hcs⟩
 have hg:=Heap.get?_update_self (Obj.mapSeq fun xs=>xs.extract 0 (Int.toNat 0)++ws++xs.extract (max 0 (items.size:Int)).toNat xs.size) ho (by rw [Obj.mapSeq];rfl)
 rw [Obj.mapSeq] at hg
 have e1:items.extract 0 (Int.toNat 0)++ws++items.extract (max 0 (items.size:Int)).toNat items.size=ws:=by
  rw [Int.max_eq_right (QAC _),QAD,show Int.toNat 0=0 from rfl,Array.extract_empty_of_stop_le_start (Qf 0),Array.extract_empty_of_stop_le_start (Qf _),Array.empty_append,Array.append_empty]
 have hpl:(s.heap.update l (Obj.mapSeq fun xs=>xs.extract 0 (Int.toNat 0)++ws++xs.extract (max 0 (items.size:Int)).toNat xs.size)).PlainList l (items.extract 0 (Int.toNat 0)++ws++items.extract (max 0 (items.size:Int)).toNat items.size):=⟨_,hg⟩
 rw [e1] at hpl
 have fin:=h _ hpl (Heap.SameBut.update ..)
 refine QFw (id hv) fun ov hov hcv nv hdv=>?_
 have hd:({cls:= .type "list",data:= .seq items n}:Obj).data= .seq items n:=rfl
 revert fin
 generalize ({cls:= .type "list",data:= .seq items n}:Obj)=o at ho hd
 intro fin
 unfold setItem
 try with_reducible refine QF ?_
 first|refine QB (QC ?_)|skip
 refine QB (wpAny_sequenceKey hT (by decide) ?_)
 refine QB (wpAny_callSpecial?_slot (name:=Qc "__setitem__") hT slot_list_setitem
  (QJ slot_list_setitem hT entry_list_setitem ?_ (args_list_setitem _ _ _)))
 show Qa _ _ (Builtin.List.listSubscript? (.ref sl)>>=_) _ _ s
 refine QB ?_
 unfold Builtin.List.listSubscript?
 refine QB (wpAny_specialOf hTs slice_no_index ?_)
 rw [if_pos Option.isNone_none]
 refine QC ?_
 skip
 refine QB (wpAny_typeOf hTs ?_)
 rw [if_neg (by decide)]
 refine QB ?_
 rw [listSliceParts_eq]
 refine QB (wpAny_field hos hds (x:= .none) rfl (QB (wpAny_listPart .none ?_)))
 rw [if_neg (by decide)]
 refine QB (wpAny_field hos hds (x:= .none) rfl (QB (wpAny_listPart .none ?_)))
 refine QB (wpAny_field hos hds (x:= .none) rfl (QB (wpAny_listPart .none ?_)))
 refine QC ?_
 dsimp only
 have hsr:Builtin.List.listSameRef (.ref l) (.ref v)=false:=by
  unfold Builtin.List.listSameRef
  simpa using hne
 rw [hsr]
 rw [if_neg QAS]
 refine QB ?_
 skip
 refine QB (wpAny_typeOf ⟨ov,hov,hcv⟩ ?_)
 rw [if_pos (by decide)]
 skip
 refine QB (wpAny_seqItems hov hdv (QC ?_))
 refine QB (QB (wpAny_seqItems ho hd (QC ?_)))
 have hsi:sliceIndices (rawPart none) (rawPart none) (rawPart none) items.size=pure (0,(items.size:Int),1):=rfl
 rw [hsi]
 refine QB (QC ?_)
 dsimp only
 rw [if_pos (by decide)]
 refine QB (QQ ?_)
 have htl:Builtin.List.listTooLong (items.size+ws.size)=false:=by
  have:=QAb
  unfold Builtin.List.listTooLong
  simp;exact zn3 [_,_,_] 1 (.a (.v 0) (.v 1)) (.v 2) 1 (.v 0) (.n 1000) 1 (.v 1) (.n 1000) 1 (.n 100000) (.v 2) rfl h1 h2 this
 rw [htl]
 rw [if_neg QAS]
 skip
 refine QB (wpAny_updateSeq ho hd ?_ (Qd h1 (Qd (by decide) QAb)) (by
  skip
  rw [e1];exact Nat.le_succ_of_le (Qd h2 (Qd (by decide) QAb))))
 refine QB (wpAny_letGo ?_)
 exact QC ⟨.none,rfl,QC fin⟩
end
end
section
variable {prog:QV}{w:QX}{G:Gd prog w}{N:Nat}
variable {A:QT}{g₀:Fz}{s₀:QR}{env:Env}{σ:PS}{oa:Str→QW}{g:Fz}{s:QR}{E:QS→QR→Prop}
structure HS (G:Gd prog w)(A:QT)(g₀:Fz)(s₀:QR)(env:Env)(σ:PS)(oa:Str→QW)(g:Fz)(s:QR)(a L:QW)(xs:List D):Prop where
 S:Sv G A g₀ s₀ env σ oa g s
 o:Off env σ oa g s₀ L
 hi:QCq g a L
 pl:PL s.heap g L xs
theorem HS.mv{a L:QW}{xs:List D}(H:HS G A g₀ s₀ env σ oa g s a L xs){σ':PS}{oa':Str→QW}{g':Fz}{s':QR}(S':Sv G A g₀ s₀ env σ' oa' g' s')(M:Mv env σ oa σ' oa' g s g' s'):HS G A g₀ s₀ env σ' oa' g' s' a L xs:=by
 refine oEA H.pl fun vs ζ1 hd=>?_
 obtain ⟨n,ho⟩:=ζ1
 exact ⟨S',H.o.move ho M,H.hi.mono M.le,vs,⟨n,H.o.keep ho M fun _ _ q=>nomatch q⟩,hd.mono M.le⟩
theorem HS.up{a L:QW}{xs:List D}(H:HS G A g₀ s₀ env σ oa g s a L xs){g':Fz}{s':QR}(x:Ext g s g' s'):HS G A g₀ s₀ env σ oa g' s' a L xs:=H.mv (H.S.up x) (.ofExt x)
noncomputable def EvW(prog:QV)(w:QX)(A:QT)(env:Env)(g:Fz)(s:QR)(e:Expr)(d:D):Prop:=
 ∀(g1:Fz) (s1:QR) (Q E:QS→QR→Prop),Ext g s g1 s1→(∀g' s' v,Ext g1 s1 g' s'→Den g' v d→Q v s')→Qa (model prog w) A (eval e env) Q E s1
theorem EvW.of{e:Expr}{d:D}(h:QAW G N e σ.ρ d)(R:Rm A N)(S:Sv G A g₀ s₀ env σ oa g s):EvW prog w A env g s e d:=fun g1 s1 Q E x k=>h A env g1 s1 Q E R (S.vw.up x) k
theorem EvW.tup2{e1 e2:Expr}{d1 d2:D}{k:Nat}{p:Pos}(h1:EvW prog w A env g s e1 d1)(h2:EvW prog w A env g s e2 d2)(hs:QAh [e1,e2]=true)(fi:FIn g s.heap):EvW prog w A env g s (.Tuple [e1,e2] k p) (.tup [d1,d2]):=by
 intro g1 s1 Q E x kk
 have hse:=(QAt hs).2 env
 have hse':=(QAt (QAt hs).1).2 env
 refine wpAny_Tuple_spliced (QH (h1 g1 s1 _ _ x fun g2 s2 v2 x2 dv2=>?_) hse)
 refine QH (h2 g2 s2 _ _ (x.trans x2) fun g3 s3 v3 x3 dv3=>?_) hse'
 refine QK ⟨by have:=QAb;simp;exact zn1 [_] 1 (.n 2) (.v 0) 1 (.n 100000) (.v 0) rfl this,?_⟩
 have hn:=QAp s3.heap
 have hg:(s3.heap.push {cls:= .type "tuple",data:= .seq [v2,v3].toArray}).get? s3.heap.objs.size=some {cls:= .type "tuple",data:= .seq [v2,v3].toArray}:=Heap.get?_push_size _ rfl
 have xa:=Ext.add (g:=g3) (tk:=s3.toks) x3.inn (QAm s3.heap _) hn hg
 exact kk _ _ _ ((x2.trans x3).trans xa) (.tup (Fz.add_self _ _ _) (.cons ((dv2.mono x3.le).mono xa.le) (.cons (dv3.mono xa.le) .nil)))
theorem HS.self{a L:QW}{xs:List D}(H:HS G A g₀ s₀ env σ oa g s a L xs):∀v,Den g v (.obj a)→∃a L,v= .ref a∧QCq g a L:=fun v h=>by cases h;exact ⟨_,_,rfl,H.hi⟩
theorem HS.conv{a L:QW}{xs:List D}(X:(KF w.params).In G.h)(hcv:QBB G 11 316 QCc)(R:Rm A 11)(H:HS G A g₀ s₀ env σ oa g s a L xs)(gself:σ.ρ.get (Qc "self")=some (.obj a)){e:Expr}{x:PySem.Str}{b:Bool}{p1 ap cp p2 p3:Pos}{kk:Nat}
  (he:QAW G 11 e σ.ρ (.str x)) (hx:QA1 x=true) (hs:QAh [e]=true) (hev:QD0 (.Name (Qc "self") p1) (Qc "_convert_string_type") ap cp [e] [⟨some n_name,.Constant (.bool b) kk p2,p3⟩]):
  EvW prog w A env g s (.Call (.Attribute (.Name (Qc "self") p1) (Qc "_convert_string_type") ap) [e] [⟨some n_name,.Constant (.bool b) kk p2,p3⟩] cp) (.str x):=
 fun g1 s1 Q E x1 k=>QRA X hcv R (H.S.vw.up x1) gself (H.up x1).self he hx hs hev k
theorem HS.assign{a L:QW}{xs:List D}(H:HS G A g₀ s₀ env σ oa g s a L xs){x:Str}{p pos:Pos}{e:Expr}{d:D}{Q:Flow→QR→Prop}(hk:storable σ x=true)(hc:QFT e=false)(hsd:QFe e=false)(h:EvW prog w A env g s e d)
  (k:∀g' s',HS G A g₀ s₀ env (σ.put x d) oa g' s' a L xs→Q .next s'):Qa (model prog w) A (exec (.Assign [.Name x p] e pos) env) Q E s:=by
 refine wpAny_Assign_Name (h g s _ _ (.refl H.S.vw.inn) fun g1 s1 v1 x1 d1=>?_) (QA6 hc hsd _ _ _)
 have H1:=H.up x1
 exact H1.S.store hk d1 fun h' tk S' M'=>k _ _ (H1.mv S' M')
theorem HS.load{a L:QW}{xs:List D}(X:(KF w.params).In G.h)(H:HS G A g₀ s₀ env σ oa g s a L xs)(gself:σ.ρ.get (Qc "self")=some (.obj a)){p1 p:Pos}{Q:QS→QR→Prop}
  (k:∀s',Ext g s g s'→Q (.ref L) s'):Qa (model prog w) A (eval (.Attribute (.Name (Qc "self") p1) (Qc "_headers") p) env) Q E s:=by
 refine Attribute_name (QBl H.S gself (by decide) fun v dv=>?_)
 cases dv
 refine QBh (QFN H.S.vw H.hi) fun o od es n hh=>QCm fun t I hd he=>?_
 refine get_value (K:=KF w.params) (C:=415) (od:=some od) (H.S.vw.kin X) I (by kernel_rfl) (findObj_own (attr:=none) (by kernel_rfl) (by kernel_rfl) rfl ?_) rfl (k _ (.tok H.S.vw.inn))
 unfold lookIn
 rw [hd]
 dsimp only
 rw [he]
 rfl
theorem HS.turn{a L:QW}{xs ys:List D}(H:HS G A g₀ s₀ env σ oa g s a L xs){h':Heap}{vs':Array QS}(hp:h'.PlainList L vs')(hs:Heap.SameBut L s.heap h')(hd:DenL g vs'.toList ys):HS G A g₀ s₀ env σ oa g {s with heap:=h'} a L ys:=by
 refine oEA H.pl fun vs ζ1 _=>?_
 obtain ⟨n,ho⟩:=ζ1
 exact ⟨H.S.poke0 H.o ho (fun _ _ q=>nomatch q) fun b o q e=>hs.extBut b o q e,H.o,H.hi,vs',hp,hd⟩
theorem HS.append{a L:QW}{xs:List D}(X:(KF w.params).In G.h)(H:HS G A g₀ s₀ env σ oa g s a L xs)(gself:σ.ρ.get (Qc "self")=some (.obj a)){e:Expr}{d:D}{p1 p2 ap cp pos:Pos}{Q:Flow→QR→Prop}(hs:QAh [e]=true)(hline:(ap.endLine==cp.line)=true)
  (he:EvW prog w A env g s e d) (hl:xs.length≤1000) (hfn:env.scope.kind= .function) (k:∀g' s',HS G A g₀ s₀ env σ oa g' s' a L (xs++[d])→Q .next s'):
  Qa (model prog w) A (exec (.Expr (.Call (.Attribute (.Attribute (.Name (Qc "self") p1) (Qc "_headers") p2) (Qc "append") ap) [e] [] cp) pos) env) Q E s:=by
 refine wpAny_Expr (wpAny_Call_method_lateS (by unfold attributeBase;rfl) ?_ hline (H.load X gself fun s1 x1=>?_)) (QCL hfn) (QA6 rfl rfl _ _ _)
 ·rw [(QAt hs).2 env];rfl
 ·have H1:=H.up x1
  refine oEA H1.pl fun vs ζ1 hd=>?_
  obtain ⟨n,ho⟩:=ζ1
  refine ⟨"list","list.append",PySem.F.plainAttrs_list,PySem.F.slot_list_append,PySem.F.type_list_append,⟨_,ho,rfl⟩,fun a ea=>by cases ea;exact ⟨_,ho,rfl⟩,?_⟩
  have hse:=(QAt hs).2 env
  refine QAf (first:=[.ref L]) (fun a ea=>by cases ea) hs (QH (he g s1 _ _ x1 fun g2 s2 v2 x2 d2=>QK ?_) hse)
  have H2:=H1.up x2
  refine oEA H2.pl fun vs2 hp2 hd2=>?_
  have hsz:vs2.size≤sizeLine:=by have h1:=hd2.length;have h2:=QAb;rw [Array.length_toList] at h1;exact zn3 [_,_,_] 1 (.v 0) (.v 1) 1 (.v 2) (.n 1000) 1 (.v 0) (.v 2) 1 (.n 100000) (.v 1) rfl hl (Qe h1) h2
  refine wpAny_list_append_plain (hsz:=hsz) hp2 fun h' hl' hs'=>k _ _ (H2.turn hl' hs' ?_)
  rw [Array.toList_push]
  exact hd2.append (.cons d2 .nil)
end
noncomputable def QMU{prog:QV}{w:QX}(G:Gd prog w)(N:Nat)(e:Expr)(ρ:PE)(ys:List D):Prop:=
 ∀(A:QT) (env:Env) (g:Fz) (s:QR) (Q E:QS→QR→Prop),Rm A N→Vw G A env ρ g s.heap→
  (∀g' s' D,Ext g s g' s'→s.heap.get? D=none→Den g' (.ref D) (.list ys)→Q (.ref D) s')→Qa (model prog w) A (eval e env) Q E s
section
variable {prog:QV}{w:QX}{G:Gd prog w}{N:Nat}
variable {A:QT}{g₀:Fz}{s₀:QR}{env:Env}{σ:PS}{oa:Str→QW}{g:Fz}{s:QR}{E:QS→QR→Prop}
theorem QHh{elt target iter:Expr}{ifs:List Expr}{scope:Scope}{pos:Pos}{ρ:PE}{ys:List D}(h:QFY G N elt target iter ifs scope ρ ys):QMU G N (.ListComp elt [⟨target,iter,ifs,0⟩] scope pos) ρ ys:=by
 intro A env g s Q E R V k
 revert h
 refine QDl fun ds K hfold hsrc=>rA fun hrun hlen=>?_
 rw [eval_ListComp]
 refine wpAny_comprehension_free (use:=none) rfl (hfold env) (QKl K V) K.kind K.loc (hsrc A env g s _ E R V fun g₂ s₂ I fp wr Bd St x₂ W=>?_)
 refine QHB (RR:=fun acc C=>compPost (model prog w) A E none Q acc C) K R V x₂ W.toSrc hrun hlen ?_
 intro gk D C h' tk m' kk yv hDC hD hC hn hl xk gD gC hd
 refine ⟨m',hn,fun h'' hs''=>?_⟩
 refine oEE x₂.same fun hs2 ts2 es2=>?_
 have fs:∀b,s₂.heap.get? b=none→s.heap.get? b=none:=fun b=>x₂.heap.none
 have hle:HLe s.heap h'':=xk.heap.to fun b o o' e e'=>hs''.extBut b o' (fun q=>by rw [q,fs C hC] at e;cases e) e'
 have hl'':h''.get? D=some {cls:= .type "list",data:= .seq yv kk}:=hs''.extBut _ _ hDC hl
 have inn'':FIn gk h'':=xk.inn.to fun b o o' e e'=>hs''.extBut b o' (fun q=>by rw [q,gC] at e;cases e) e'
 have addle:FLe gk (gk.add D {cls:= .type "list",data:= .seq yv kk}):=Fz.add_le gD
 refine k (gk.add D {cls:= .type "list",data:= .seq yv kk}) _ _ {heap:=hle,le:=xk.le.trans addle,inn:=?_,new:=?_,same:=?_} (fs D hD) (.list (Fz.add_self _ _ _) ⟨rfl,rfl,rfl⟩ rfl (hd.mono addle))
 ·intro b o e
  unfold Fz.add at e
  by_cases q:b=D
  ·subst q;rw [if_pos rfl] at e;cases e;exact ⟨_,hl'',.rfl'⟩
  ·rw [if_neg q] at e;exact inn'' b o e
 ·intro b o e
  unfold Fz.add at e
  by_cases q:b=D
  ·subst q;exact .inr (fs _ hD)
  ·rw [if_neg q] at e;exact xk.new b o e
 ·exact ⟨h'',tk,by rw [es2]⟩
theorem HS.view{a L:QW}{xs:List D}(H:HS G A g₀ s₀ env σ oa g s a L xs)(gself:σ.ρ.get (Qc "self")=some (.obj a)):
  ∃g':Fz,Vw G A env (σ.put (Qc "self") (.hdr xs)).ρ g' s.heap∧∀g'' s',Ext g' s g'' s'→Ext g s g s':=by
 refine oEA H.pl fun vs ζ1 hd=>?_
 obtain ⟨n,ho⟩:=ζ1
 have addle:FLe g (g.add L {cls:= .type "list",data:= .seq vs n}):=Fz.add_le H.o.fz
 have inn':FIn (g.add L {cls:= .type "list",data:= .seq vs n}) s.heap:=by
  intro b o e
  unfold Fz.add at e
  by_cases q:b=L
  ·subst q;rw [if_pos rfl] at e;cases e;exact ⟨_,ho,.rfl'⟩
  ·rw [if_neg q] at e;exact H.S.vw.inn b o e
 refine ⟨g.add L {cls:= .type "list",data:= .seq vs n},?_,fun g'' s' x=>QRd x H.S.vw.inn⟩
 refine {kind:=H.S.vw.kind,sc:=H.S.vw.sc,glo:=H.S.vw.glo,bui:=H.S.vw.bui,vars:=?_,cel:=H.S.vw.cel,inn:=inn',base:=H.S.vw.base.trans addle,fr:=H.S.vw.fr}
 intro y dy hy
 have hy':(σ.put (Qc "self") (.hdr xs)).ρ.get y=some dy:=hy
 rw [QRE] at hy'
 by_cases q:y=Qc "self"
 ·rw [if_pos q] at hy';cases hy'
  subst q
  refine oEA (H.S.vw.vars _ _ gself) fun v dv hc=>?_
  cases dv
  exact ⟨.ref a,.hdr (H.hi.mono addle) (.list (Fz.add_self _ _ _) ⟨rfl,rfl,rfl⟩ rfl (hd.mono addle)),hc⟩
 ·rw [if_neg q] at hy'
  exact (H.S.vw.vars y dy hy').up addle (.refl _)
set_option tactic.hygienic true in
theorem HS.clear{a L:QW}{xs:List D}(X:(KF w.params).In G.h)(R:Rm A 11)(H:HS G A g₀ s₀ env σ oa g s a L xs)(gself:σ.ρ.get (Qc "self")=some (.obj a)){e:Expr}{p1 p2 p3 p4 pos:Pos}{Q:Flow→QR→Prop}(he:QMU G 11 e (σ.put (Qc "self") (.hdr xs)).ρ [])(hl:xs.length≤1000)
  (hsw:swapsWith e (some (.Subscript (.Attribute (.Name (Qc "self") p1) (Qc "_headers") p2) (.Slice none none none p3) p4)) pos.line env=pure false)
  (k:∀s',HS G A g₀ s₀ env σ oa g s' a L []→Q .next s'):
  Qa (model prog w) A (exec (.Assign [.Subscript (.Attribute (.Name (Qc "self") p1) (Qc "_headers") p2) (.Slice none none none p3) p4] e pos) env) Q E s:=by
 refine oEA (H.view gself) fun g' V' thw=>?_
 refine wpAny_Assign_Subscript (he A env g' s _ _ R V' fun g1 s1 D x1 hD d1=>?_) hsw
 have H1:=H.up (thw _ _ x1)
 cases d1 with
 |list hoD hcD hdD hlD=>
  rename_i oD vsD nD
  have hgD:=x1.inn.sq hoD hdD
  have hne:L≠D:=fun q=>by
   refine oEA H.pl fun vs ζ1 _=>?_
   obtain ⟨n,ho⟩:=ζ1
   rw [q,hD] at ho;cases ho
  have hvs:vsD= #[]:=by
   have:=hlD.length
   have h0:vsD.toList=[]:=List.length_eq_zero_iff.mp this
   exact Array.toList_eq_nil_iff.mp h0
  subst hvs
  refine H1.load X gself fun s2 x2=>?_
  have H2:=H1.up x2
  rw [arm_eval_Slice]
  refine QB (QC (QB (QF (QC (QB (QF (QC ?_)))))))
  refine wpAny_newObj_type ?_ (by size_fits)
  generalize hO:({cls:= .type "slice",data:= .fields #[Value.none,Value.none,Value.none]}:Obj)=oS
  have x3:=Ext.grow (tk:=s2.toks) H2.S.vw.inn (QAm s2.heap oS)
  have H3:=H2.up x3
  refine oEA H3.pl fun vs ζ1 hd=>?_
  obtain ⟨n,ho⟩:=ζ1
  have hgD2:=x2.heap.exact hgD fun _ _ q=>by rw [hdD] at q;cases q
  refine QOf (n:=n) (ws:= #[]) hne ho (hO▸Heap.IsSliceOf.new ..) ⟨_,Heap.get?_push_of_some _ hgD2,hcD.1,nD,hdD⟩ (by have:=hd.length;rw [Array.length_toList] at this;exact zn2 [_,_] 1 (.v 0) (.n 1000) 1 (.v 1) (.n 1000) 1 (.v 0) (.v 1) rfl hl (Qe this)) (by decide) fun h' hp' hs'=>?_
  exact k _ (H3.turn hp' hs' .nil)
end
section
variable {prog:QV}{w:QX}{G:Gd prog w}{N:Nat}
section
variable {A:QT}{E:QS→QR→Prop}{s:QR}
theorem QIK(XK:(KF w.params).In s.heap){a:QW}{o:Obj}{od:Option Obj}{k:QS}{nm:Str}(I:InstAt s.heap a o 415 od){Q:QS→QR→Prop}(h:Q k s):Qa (model prog w) A (sequenceKey (.ref a) k nm) Q E s:=by
 have l1:Looks (model prog w) s.heap (seqItemTypes.anyM fun n=>isSubtype (.ref 415) (.type n)) false:=Looks.of_peek XK (by kernel_rfl)
 skip
 refine QB (I.type.here ?_)
 skip
 refine QB (l1.here ?_)
 skip
 exact QC h
end
theorem QNj(X:(KF w.params).In G.h)(hcv:QBB G 11 316 QCc){a:QW}{ps:List (PySem.Str×PySem.Str)}{n:PySem.Str}(hf:QDr ps)(hl:ps.length≤1000)(hn:QA1 n=true)(hall:∀p∈ps,QA3 p.1=QA3 n):
  QNx G 11 (mS 33 5).names (mB 33 5) [(Qc "self",.obj a),(Qc "name",.str n)] a (ps.map prD) []:=by
 intro A env g₀ s₀ s L Q E R hfm hfr S hoff hi hpl k
 refine QD (QCY A env g₀ s₀ _ g₀ s _ _ R S fun g1' sh1 oa1 S1 M1=>?_)
 have H1:=(HS.mk S hoff hi hpl).mv S1 M1
 refine QD (H1.assign (by kernel_rfl) rfl rfl (H1.conv X hcv R (by kernel_rfl) (QJD (x:=n) (QIy (by decide) (by kernel_rfl)) hn rfl rfl) (QH3 hn) rfl fun env=>⟨_,rfl⟩) fun g2' sh2 H2=>?_)
 have hnil:(ps.filter fun p=> !(QA3 p.1==QA3 n)).map prD=[]:=by
  rw [List.map_eq_nil_iff,List.filter_eq_nil_iff]
  intro p hp
  rw [hall p hp,beq_self_eq_true];exact QAS
 refine QD (H2.clear X R (by kernel_rfl) (hnil▸QHh (QL1 X (ps:=ps) (nn:=QA3 n) (op:= .NotEq) (cmp:=fun a=> !(a==QA3 n)) (res:=prD) hf hl (by kernel_rfl) (by kernel_rfl) (QQ8 (by kernel_rfl) ?_ ?_) ?_ ?_ (fun a=>rfl) ?_ ?_ fun p=>?_)) (by rw [Qs];exact hl) rfl fun s3 H3=>?_)
 ·rfl
 ·kernel_rfl
 ·kernel_rfl
 ·kernel_rfl
 ·exact bi_not rfl
 ·rfl
 ·exact QGL (by decide) (by rw [QGJ,show List.lookup (Qc "kv") _=some NameKind.local from by kernel_rfl];exact fun h=>nomatch h) (by rw [QI8];rfl)
 ·exact QG (k _ _ H3.S.ext H3.o.fz H3.pl).2
theorem QNW(X:(KF w.params).In G.h)(hcv:QBB G 11 316 QCc){a:QW}{ps:List (PySem.Str×PySem.Str)}{n:PySem.Str}(hf:QDr ps)(hl:ps.length≤1000)(hn:QA1 n=true)(hall:∀p∈ps,QA3 p.1=QA3 n):QLx G 12 335 [.obj a,.str n] a (ps.map prD) []:=by
 refine oE (QDa (G:=G) (a:=335) (fd:=fd335) (body:=mB 33 5) X (by kernel_rfl) rfl (by kernel_rfl)) fun o T=>?_
 exact QMB (ps:=[Qc "self",Qc "name"]) T (QNj X hcv hf hl hn hall) rfl (by decide) (by kernel_rfl) (QC8 fun a=>all1 fun b=>by kernel_rfl)
theorem QO7(X:(KF w.params).In G.h)(hcv:QBB G 11 316 QCc){a:QW}{ps:List (PySem.Str×PySem.Str)}{n v:PySem.Str}(hf:QDr ps)(hl:ps.length≤1000)(hn:QA1 n=true)(hv:QA1 v=true)(hall:∀p∈ps,QA3 p.1=QA3 n):
  QNx G 12 (mS 33 4).names (mB 33 4) [(Qc "self",.obj a),(Qc "name",.str n),(Qc "val",.str v)] a (ps.map prD) [prD (n,v)]:=by
 intro A env g₀ s₀ s L Q E R hfm hfr S hoff hi hpl k
 refine QD (QCY A env g₀ s₀ _ g₀ s _ _ R S fun g1' sh1 oa1 S1 M1=>?_)
 have H1:=(HS.mk S hoff hi hpl).mv S1 M1
 refine QD (wpAny_Delete (wpAny_deleteEach_cons (wpAny_delete_Subscript (QBl (d:= .obj a) S1 (by kernel_rfl) (by decide) fun sv dsv=>QBl (d:= .str n) S1 (by kernel_rfl) (by decide) fun nv dnv=>?_))))
 cases dsv.out
 refine QBh (QFN S1.vw H1.hi) fun o od es nn hh=>QCm fun t I hd he=>?_
 unfold delItem
 try with_reducible refine QF ?_
 refine QB (QIK (S1.vw.kin X) I ?_)
 refine QB (special_fn (K:=KF w.params) (f:=335) (S1.vw.kin X) I (by kernel_rfl) (by kernel_rfl) ?_)
 refine QNW X hcv hf hl hn hall A g1' sh1 [.ref a,nv] L _ _ R S1.vw.fr S1.vw.inn S1.vw.base (.cons (.obj a) (.cons dnv .nil)) H1.hi H1.o.fz H1.pl fun g2' sh2 x2 gl2 pl2=>?_
 have hlive:=H1.pl
 revert hlive
 refine rEA fun vl ζ1 _=>?_
 obtain ⟨nl,hol⟩:=ζ1
 have H2:HS G A g₀ s₀ env _ oa1 g2' sh2 a L []:=⟨S1.upW H1.o hol (fun _ _ q=>nomatch q) x2,⟨H1.o.lo,gl2,H1.o.old⟩,H1.hi.mono x2.le,pl2⟩
 refine QC (wpAny_deleteEach_nil ?_)
 have R11:Rm A 11:=R.less (by decide)
 refine QD (H2.append X (by kernel_rfl) rfl rfl (EvW.tup2 (H2.conv (x:=n) X hcv R11 (by kernel_rfl) (QIy (by decide) (by kernel_rfl)) hn rfl fun env=>⟨_,rfl⟩) (H2.conv (x:=v) X hcv R11 (by kernel_rfl) (QIy (by decide) (by kernel_rfl)) hv rfl fun env=>⟨_,rfl⟩) rfl H2.S.vw.inn) (by decide) S1.vw.kind fun g3' sh3 H3=>?_)
 exact QG (k _ _ H3.S.ext H3.o.fz H3.pl).2
theorem QOs(X:(KF w.params).In G.h)(hcv:QBB G 11 316 QCc){a:QW}{ps:List (PySem.Str×PySem.Str)}{n v:PySem.Str}(hf:QDr ps)(hl:ps.length≤1000)(hn:QA1 n=true)(hv:QA1 v=true)(hall:∀p∈ps,QA3 p.1=QA3 n):QLx G 13 330 [.obj a,.str n,.str v] a (ps.map prD) [prD (n,v)]:=by
 refine oE (QDa (G:=G) (a:=330) (fd:=fd330) (body:=mB 33 4) X (by kernel_rfl) rfl (by kernel_rfl)) fun o T=>?_
 exact QMB (ps:=[Qc "self",Qc "name",Qc "val"]) T (QO7 X hcv hf hl hn hv hall) rfl (by decide) (by kernel_rfl) (QC8 fun a=>QC8 fun b=>all1 fun c=>by kernel_rfl)
end
section
variable {prog:QV}{w:QX}{G:Gd prog w}{N:Nat}
section
variable {A:QT}{g₀:Fz}{s₀:QR}{env:Env}{σ:PS}{oa:Str→QW}{g:Fz}{s:QR}{E:QS→QR→Prop}
noncomputable def QCC(h:Heap)(d:QW)(n:Nat):Prop:=∃o,h.get? d=some o∧o.cls= .type "dict"∧o.data= .dict #[] n
theorem QCC.push{h:Heap}{d:QW}{n:Nat}(x:QCC h d n)(o:Obj):QCC (h.push o) d n:=by
 revert x
 refine rEA fun od h1 h2=>?_
 exact ⟨od,Heap.get?_push_of_some _ h1,h2⟩
theorem QKC{d:QW}{n:Nat}{Q:QS→QR→Prop}(hd:(d==sysModules)=false)(hm:QCC s.heap d n)(h:Q (.ref s.heap.objs.size) {s with heap:=s.heap.push {cls:= .type "dict_items",data:= .fields #[.ref d]}}):
  Qa (model prog w) A (call (.builtin "dict.items") [.ref d]) Q E s:=by
 revert hm
 refine QCm fun o h1 h2 h3=>?_
 have hT:s.TypeIs (.ref d) "dict":=⟨o,h1,h2⟩
 refine QJ PySem.F.slot_dict_items hT PySem.F.entry_dict_items ?_ (PySem.F.args_dict_items_1 _)
 skip
 refine QB (QB (wpAny_notOrdered_dict hT ?_))
 skip
 refine QC ?_
 skip
 unfold Builtin.Dict.showsAll
 rw [if_neg (by rw [hd];exact QAS)]
 exact QB (QC (QB (wpAny_newObj_type (QC ⟨_,rfl,h⟩))))
theorem QJ7{v d:QW}{n:Nat}{Q:QS→QR→Prop}(hv:s.heap.IsItemsView v d)(hm:QCC s.heap d n)
  (hQ:Q (.ref s.heap.objs.size) {s with heap:=s.heap.push {cls:= .type "dict_itemiterator",data:= .fields #[.none,.bool false,.ref d,.int 0 0,.int 0 0,.int n 0,.none,.none]}}):Qa (model prog w) A (pyIter (.ref v)) Q E s:=by
 refine QFZ (id hv) fun ov hov hcv hdv=>?_
 revert hm
 refine QCm fun o h1 h2 h3=>?_
 refine wpAny_pyIter_slot hv.typeIs F.slot_dict_items_iter (QJ F.slot_dict_items_iter hv.typeIs F.entry_dict_items_iter ?_ (F.args_dict_items_iter_1 _))
 skip
 refine QB (QC (QB (QB (wpAny_field hov hdv (x:= .ref d) rfl (QC (QB (QB (wpAny_dictEntries h1 h3 (QB (wpAny_dictEpoch h1 h3 ?_))))))))))
 have hown:Builtin.Dict_items.ownsTuple "dict_itemiterator"=true:=by decide
 dsimp only
 rw [if_pos hown]
 refine wpAny_newObj_type (QC ⟨_,rfl,"dict_itemiterator",_,⟨_,Heap.get?_push_size _ rfl,rfl⟩,F.slot_dict_itemiterator_next.lookup,?_⟩)
  (by simp only [sizeOk,Builtin.Dict_items.ownedTupleFields,List.size_toArray,Qu,Qz,List.length_nil,sizeLine_eq];exact zn0 [] 1 (.a (.a (.a (.a (.n 0) (.n 1)) (.n 1)) (.a (.a (.a (.a (.n 0) (.n 1)) (.n 1)) (.n 1)) (.n 1))) (.a (.a (.n 0) (.n 1)) (.n 1))) (.a (.n 16777216) (.n 2)) rfl)
 simpa [rawInt,Builtin.Dict_items.ownedTupleFields] using hQ
theorem QJn{it d:QW}{n:Nat}{Q:Option QS→QR→Prop}(hh:A.handled=none)(hit:IsItemIter s.heap it d 0 0 n .none .none)(hm:QCC s.heap d n)(hQ:∀h',Heap.ExtBut it s.heap h'→Q none {s with heap:=h'}):
  Qa (model prog w) A (pyNext (.ref it)) Q E s:=by
 revert hm
 refine QCm fun o h1 h2 h3=>?_
 have hT:s.TypeIs (.ref it) "dict_itemiterator":=⟨_,hit,rfl⟩
 skip
 refine QB (wpAny_attempt (wpAny_callSpecial?_slot (name:=Qc "__next__") hT F.slot_dict_itemiterator_next
  (QJ F.slot_dict_itemiterator_next hT F.entry_dict_itemiterator_next ?_ (F.args_dict_itemiterator_next_1 _))))
 refine QB (QC (QB (QB ?_)))
 first|refine QB (wpAny_typeNameOfWhole_itemiter hT (QC ?_))|refine QB (wpAny_typeNameOf_itemiter hT (QC ?_))
 refine QB (wpAny_fieldsOf hit rfl ?_)
 have hown:Builtin.Dict_items.ownsTuple "dict_itemiterator"=true:=by decide
 rw [if_pos hown]
 show Qa _ _ (if (Value.ref d==Value.none)=true then _ else _) _ _ s
 rw [if_neg (show¬((Value.ref d==Value.none)=true) from QAS)]
 refine QB (QC (QB (wpAny_dictEntries h1 h3 ?_)))
 rw [if_neg (by simp)]
 refine QB (QC (QB (wpAny_dictEpoch h1 h3 ?_)))
 rw [if_neg (by simp)]
 refine QC ?_
 dsimp only
 rw [if_neg (show¬(((0:Nat):Int)<0) by decide)]
 refine QB ?_
 first|refine QB (wpAny_typeNameOfWhole_itemiter hT (QC ?_))|refine QB (wpAny_typeNameOf_itemiter hT (QC ?_))
 show Qa _ _ (setField (.ref it) 2 .none>>=_) _ _ s
 refine QB (wpAny_setField hit rfl (by simp) ?_)
 skip
 refine QB ?_
 simp only [newExc,newTuple]
 refine QB (wpAny_newObj_type ?_ (by size_fits))
 refine QB (m:=firstArgMember _ _) (wpAny_of_eq (a:=Value.none) (by first|rfl|(simp only [firstArgMember];rfl)) ?_)
 refine wpAny_newObj_type ?_ (by size_fits)
 simp only [raiseNew]
 refine QB (wpAny_handled ?_)
 rw [show A.in1.handled=none from hh]
 refine QB (QC (wpAny_throw ?_))
 refine QB (wpAny_isInstance (T:="StopIteration") (b:=true) ⟨_,Heap.get?_push_size _ rfl,rfl⟩ isSubtype_stop ?_)
 exact QC (hQ _ (((Heap.SameBut.update ..).extBut.push _).push _))
theorem HS.noItems{a L d:QW}{xs:List D}{od:Obj}{n:Nat}{x:Str}{target:Expr}{body:List Stmt}{p1 ap cp pos:Pos}{Q:Flow→QR→Prop}(hh:A.handled=none)(H:HS G A g₀ s₀ env σ oa g s a L xs)(gx:σ.ρ.get x=some (.obj d))(px:plainName x=true)(hd:g d=some od)(hdc:od.cls= .type "dict")(hdd:od.data= .dict #[] n)(hdz:gsz≤d)(hdn:od.dict=none)
  (hline:(ap.endLine==cp.line)=true) (k:∀s',HS G A g₀ s₀ env σ oa g s' a L xs→Q .next s'):
  Qa (model prog w) A (exec (.For target (.Call (.Attribute (.Name x p1) (Qc "items") ap) [] [] cp) body [] pos) env) Q E s:=by
 have hsm:(d==sysModules)=false:=by
  have:d≠sysModules:=fun e=>by rw [e] at hdz;exact absurd hdz (by decide)
  simpa using this
 refine wpAny_For (wpAny_Call_method_lateS (by unfold attributeBase;rfl) rfl hline (QBl H.S gx px fun v dv=>?_)) (QEo env)
 cases dv
 refine oEA (H.S.vw.inn d od hd) fun od' ho' sm=>?_
 have hT:s.TypeIs (.ref d) "dict":=⟨od',ho',sm.cls.trans hdc⟩
 refine ⟨"dict","dict.items",PySem.F.plainAttrs_dict,PySem.F.slot_dict_items,PySem.F.type_dict_items,hT,fun a ea=>by cases ea;exact ⟨od',ho',sm.dict.trans hdn⟩,?_⟩
 refine QAf (first:=[.ref d]) (fun a ea=>by cases ea) rfl (QK ?_)
 have hm:QCC s.heap d n:=⟨od',ho',sm.cls.trans hdc,sm.data.trans hdd⟩
 refine QKC hsm hm ?_
 generalize hO1:({cls:= .type "dict_items",data:= .fields #[.ref d]}:Obj)=o1
 have x1:=Ext.grow (tk:=s.toks) H.S.vw.inn (QAm s.heap o1)
 have H1:=H.up x1
 have hm1:QCC (s.heap.push o1) d n:=hm.push o1
 refine QJ7 ⟨o1,Heap.get?_push_size _ (hO1▸rfl),hO1▸rfl,hO1▸rfl⟩ hm1 ?_
 generalize hO2:({cls:= .type "dict_itemiterator",data:= .fields #[.none,.bool false,.ref d,.int 0 0,.int 0 0,.int n 0,.none,.none]}:Obj)=o2
 have x2:=Ext.grow (tk:=s.toks) H1.S.vw.inn (QAm (s.heap.push o1) o2)
 have H2:=H1.up x2
 have offI:=H1.S.offNew (QAp (s.heap.push o1))
 have hit:((s.heap.push o1).push o2).get? (s.heap.push o1).objs.size=some o2:=Heap.get?_push_size _ (hO2▸rfl)
 refine codeAny_forLoop_any (fun m s'=>s'={s with heap:=(s.heap.push o1).push o2}) ?_ 0 rfl
 rintro m s' rfl
 refine QJn hh (hO2▸hit) (hm1.push o2) fun h' hx=>QG ?_
 have nd2:∀es ep,o2.data≠ .dict es ep:=fun _ _ q=>by rw [←hO2] at q;cases q
 refine oEA H2.pl fun vs ζ1 hdl=>?_
 obtain ⟨nl,hol⟩:=ζ1
 have hneL:L≠(s.heap.push o1).objs.size:=fun e=>by
  rw [e,hit,←hO2] at hol
  exact absurd (congrArg Obj.cls (Option.some.inj hol)) (show¬(Value.type "dict_itemiterator"=Value.type "list") by decide)
 exact k _ ⟨H2.S.poke0 offI hit nd2 fun b o q e=>hx b o q e,H2.o,H2.hi,vs,⟨nl,hx _ _ hneL hol⟩,hdl⟩
end
end
section
variable {prog:QV}{w:QX}{G:Gd prog w}{N:Nat}
theorem QMi{sep v:PySem.Str}:Txt.join sep [v]=v:=by
 rfl
set_option tactic.hygienic true in
theorem QPw{ρ:PE}{x:Str}{v sep:PySem.Str}{kk:Nat}{p1 p2 ap cp:Pos}(px:plainName x=true)(gx:ρ.get x=some (.list [.str v]))(hv:v.length≤1000)(hs:sep.length≤1000)(hline:(ap.endLine==cp.line)=true):
  QAW G N (.Call (.Attribute (.Constant (.str sep) kk p1) (Qc "join") ap) [.Name x p2] [] cp) ρ (.str v):=by
 intro A env g s Q E R V k
 unfold plainName at px
 simp only [QAT,beq_iff_eq] at px
 refine wpAny_Call_method_lateS (by unfold attributeBase;rfl) rfl hline (wpAny_Constant_str ?_)
 have x0:=Ext.tok (g:=g) (s:=s) V.inn (tk:=s.toks+1)
 refine ⟨"str","str.join",PySem.F.plainAttrs_str,PySem.F.slot_str_join,PySem.F.type_str_join,typeIs_str _ _ _,QHW,?_⟩
 refine QAf (first:=[.str sep s.toks]) (fun a ea=>by cases ea) rfl (QH (QM (QBP (V.up x0) gx px.2 fun u du=>?_) px.1) rfl)
 refine QK ?_
 cases du with
 |list ho hc hd hl=>
  rename_i a o vs n
  cases vs with|mk vl=>?_
  cases hl with|cons d1 r=>?_
  cases r
  cases d1 with|str _ t=>?_
  refine SC.join (l:=[(v,t)]) ⟨o,x0.inn.sq ho hd,hc.1,n,hd⟩ rfl ?_ fun t' tk=>?_
  ·unfold JoinOk Builtin.Str.tooLong
   have:=QAb
   simp
   exact zn3 [_,_,_] 1 (.a (.v 0) (.v 1)) (.v 2) 1 (.v 0) (.n 1000) 1 (.v 1) (.n 1000) 1 (.n 100000) (.v 2) rfl hv hs this
  ·show Q (.str (Txt.join sep [v]) t') _
   rw [QMi]
   exact k _ _ _ (x0.trans (.tok x0.inn)) (.str _ _)
theorem QNc(X:(KF w.params).In G.h)(hcv:QBB G 11 316 QCc){a d:QW}{xs:List D}{n v:PySem.Str}(hl:xs.length≤1000)(hn:QA1 n=true)(hv:QA1 v=true)
  (A:QT) (env:Env) (g₀:Fz) (s₀ s:QR) (L:QW) (Q:Flow→QR→Prop) (E:QS→QR→Prop) (R:Rm A 12) (S:Sv G A g₀ s₀ env {ρ:={sc:=(mS 33 17).names,vs:=[(Qc "self",.obj a),(Qc "_name",.str n),(Qc "_value",.str v),(Qc "_params",.obj d)]},os:=[]} (fun _=>0) g₀ s)
  (hoff:Off env {ρ:={sc:=(mS 33 17).names,vs:=[(Qc "self",.obj a),(Qc "_name",.str n),(Qc "_value",.str v),(Qc "_params",.obj d)]},os:=[]} (fun _=>0) g₀ s₀ L) (hi:QCq g₀ a L) (hpl:PL s.heap g₀ L xs)
  {od:Obj} {nd:Nat} (hd:g₀ d=some od) (hdc:od.cls= .type "dict") (hdd:od.data= .dict #[] nd) (hdz:gsz≤d) (hdn:od.dict=none)
  (k:∀g' s',Ext g₀ s₀ g' s'→g' L=none→PL s'.heap g' L (xs++[prD (n,v)])→Q .next s'):Qa (model prog w) A (execs (mB 33 17) env) Q E s:=by
 have T:Ev G 12 (fun _=>none) (fun _=>none):=⟨(fun _ _ h=>nomatch h),(fun _ _ h=>nomatch h),by decide⟩
 have R11:Rm A 11:=R.less (by decide)
 refine QD (QCY A env g₀ s₀ _ g₀ s _ _ R S fun g1' sh1 oa1 S1 M1=>?_)
 have H1:=(HS.mk S hoff hi hpl).mv S1 M1
 refine QD (ownStep (by kernel_rfl) A env g₀ s₀ oa1 g1' sh1 _ _ R S1 fun g2' sh2 oa2 S2 M2=>?_)
 have H2:=H1.mv S2 M2
 refine QD (wpAny_If (teq T (c:=true) [] (QAZ (@rfl Bool true) (by kernel_rfl)) A env _ _ _ _ R H2.S.vw fun g3' sh3 x3=>?_))
 rw [if_pos rfl]
 have H3:=H2.up x3
 refine QD (H3.assign (by kernel_rfl) rfl rfl (H3.conv (x:=v) X hcv R11 (by kernel_rfl) (QIy (by decide) (by kernel_rfl)) hv rfl fun env=>⟨_,rfl⟩) fun g4' sh4 H4=>?_)
 refine QD (QQe (N:=11) (d:= .str v) (ds:=[]) (by decide) (by decide) rfl (by kernel_rfl) (by kernel_rfl) (by kernel_rfl) (by decide) A env g₀ s₀ _ g4' sh4 _ _ R11 H4.S fun g5' sh5 S5 M5=>?_)
 have H5:=H4.mv S5 M5
 have hd5:g5' d=some od:=M5.le _ _ (H4.S.ext.le _ _ hd)
 refine QG (QD (H5.noItems (R.hnd (by decide)) (by kernel_rfl) (by decide) hd5 hdc hdd hdz hdn rfl fun sh6 H6=>?_))
 refine oEA H6.S.freeze fun g7 S7 M7=>?_
 have H7:=H6.mv S7 M7
 refine QD (H7.append X (by kernel_rfl) rfl rfl (EvW.tup2 (H7.conv (x:=n) X hcv R11 (by kernel_rfl) (QIy (by decide) (by kernel_rfl)) hn rfl fun env=>⟨_,rfl⟩) (EvW.of (N:=11) (QPw (v:=v) (by decide) (by kernel_rfl) (QGq hv) (by decide) rfl) R11 H7.S) rfl H7.S.vw.inn) hl H7.S.vw.kind fun g8 sh8 H8=>?_)
 exact QG (k _ _ H8.S.ext H8.o.fz H8.pl)
end
section
variable {prog:QV}{w:QX}{G:Gd prog w}{N:Nat}
theorem QPE{M:Model}{A:QT}{E:QS→QR→Prop}{s:QR}{a:QS}{Q:List (Str×QS)→QR→Prop}{o:Obj}{n:Nat}(ho:s.heap.get? 302=some o)(hd:o.data= .seq #[.none] n)
  (h:Q [(Qc "self",a),(Qc "headers",.none)] s):Qa M A (bindArgs fd309 ⟨[a],[]⟩) Q E s:=by
 show Qa M A (seqItems? (.ref 302)>>=_) Q E s
 refine QB (wpAny_seqItems ho hd ?_)
 exact wpAny_of_eq (by kernel_rfl) h
theorem Ext.hide{g g1:Fz}{s s1:QR}{L:QW}(x:Ext g s g1 s1)(hL:g1 L=none):Ext g (QDk s L) g1 (QDk s1 L) where
 heap:=fun b o e=>by
  have q:b≠L:=fun q=>by subst q;rw [show (QDk s b).heap.get? b=none from hide_self] at e;cases e
  refine oEA (x.heap b o (QLz e)) fun o' e' sm=>?_
  exact ⟨o',by show (QDS s1.heap L).get? b=_;rw [hide_ne q];exact e',sm⟩
 le:=x.le
 inn:=fun b o e=>by
  have q:b≠L:=fun q=>by subst q;rw [hL] at e;cases e
  refine oEA (x.inn b o e) fun o' e' sm=>?_
  exact ⟨o',by show (QDS s1.heap L).get? b=_;rw [hide_ne q];exact e',sm⟩
 new:=fun a o e=>(x.new a o e).imp_right QDX
 same:=by (refine oEE x.same fun h t ζ2=>?_;subst ζ2);exact ⟨_,_,rfl⟩
section
variable {A:QT}{E:QS→QR→Prop}{s:QR}
noncomputable def QIr(P:Params)(L:QW)(t:Nat)(sl:Array (Option QS)):Obj:={cls:= .type "dict",slots:=sl,data:= .dict #[⟨PyData.keyHash P (Qc "_headers"),.str (Qc "_headers") t,.ref L⟩] 1}
theorem QSH(XK:(KF w.params).In s.heap){a dd L:QW}{sl:Array (Option QS)}{o:Obj}{tk:Tok}{R:Result→QR→Prop}(ho:s.heap.get? a=some o)(hoc:o.cls= .ref 415)(hod:o.dict=some dd)(hop:o.data= .plain)(hdd:s.heap.get? dd=some {cls:= .type "dict",data:= .dict #[],slots:=sl})
  (h:∀h',h'.get? dd=some (QIr w.params L s.toks sl)→Heap.SameBut dd s.heap h'→R (.ok (.ret .none)) {s with heap:=h',toks:=s.toks+1}):
  codeAny (model prog w) A (.call (.builtin "object.__setattr__") ⟨[.ref a,.str (Qc "_headers") tk,.ref L],[]⟩) R s:=by
 have I:InstAt s.heap a o 415 (some {cls:= .type "dict",data:= .dict #[],slots:=sl}):=⟨ho,hoc,by unfold notCls;rw [hop],by rw [hod];exact hdd⟩
 refine osa_open (K:=KF w.params) (r:=none) XK I (by kernel_rfl) (by kernel_rfl) fun b=>?_
 refine oEA (any_some (x:=clsIn (KF w.params) 415) (p:=fun c=>c.hasDict) (by kernel_rfl)) fun cd hc hd'=>?_
 obtain ⟨oc,odi,oda,osl⟩:=o
 dsimp only at hoc hod hop
 subst hoc hod hop
 have e1:Obj.putName (Qc "_headers") (PyData.keyHash w.params (Qc "_headers")) (.str (Qc "_headers") s.toks) (.ref L) {cls:= .type "dict",data:= .dict #[],slots:=sl}=QIr w.params L s.toks sl:=by kernel_rfl
 have D':=Heap.get?_update_self (Obj.putName (Qc "_headers") (PyData.keyHash w.params (Qc "_headers")) (.str (Qc "_headers") s.toks) (.ref L)) hdd (by rw [e1];rfl)
 rw [e1] at D'
 refine QB (QC (QB (QB (wpAny_loadPart ho (QB ((looks_clsIn XK hc).here ?_))))))
 rw [hd']
 refine QC (a:=some dd) (QB (QC (QB ?_)))
 unfold nsSet
 refine QB (QB (wpAny_askSetting (QC (QB (wpAny_mkText (QB (wpAny_loadPart hdd ?_)))))))
 dsimp only
 have c:(!(#[]:Array DictEntry).any (·.key.isStr (Qc "_headers"))&&(#[]:Array DictEntry).any (·.refKey))=false:=by simp
 rw [aRefKeyMayBeTheName_at,c]
 refine wpAny_updatePart hdd ?_
 refine QB (wpAny_lookBehind D' (pastItsLine_dict (by show 1≤sizeLine+1;exact zn0 [_] 1 (.n 1) (.a (.v 0) (.n 1)) rfl)) ?_)
 exact QC (h _ D' (Heap.SameBut.update ..))
theorem QRt(XK:(KF w.params).In s.heap){a dd L:QW}{sl:Array (Option QS)}{o:Obj}(ho:s.heap.get? a=some o)(hoc:o.cls= .ref 415)(hod:o.dict=some dd)(hop:o.data= .plain)(hdd:s.heap.get? dd=some {cls:= .type "dict",data:= .dict #[],slots:=sl}){Q:Unit→QR→Prop}
  (h:∀h',h'.get? dd=some (QIr w.params L (s.toks+1) sl)→Heap.SameBut dd s.heap h'→Q () {s with heap:=h',toks:=s.toks+2}):Qa (model prog w) A (setAttr (.ref a) (Qc "_headers") (.ref L)) Q E s:=by
 have I:InstAt s.heap a o 415 (some {cls:= .type "dict",data:= .dict #[],slots:=sl}):=⟨ho,hoc,by unfold notCls;rw [hop],by rw [hod];exact hdd⟩
 exact set_plain (K:=KF w.params) XK I (by kernel_rfl) (QSH (s:={s with toks:=s.toks+1}) XK ho hoc hod hop hdd fun h' h1 h2=>h h' h1 h2)
end
end
section
variable {prog:QV}{w:QX}{G:Gd prog w}{N:Nat}
section
variable {A:QT}{g₀:Fz}{s₀:QR}{env:Env}{σ:PS}{oa:Str→QW}{g:Fz}{s:QR}{E:QS→QR→Prop}
theorem Sv.pokeD(S:Sv G A g₀ s₀ env σ oa g s){c:QW}{od:Obj}{es:Array DictEntry}{n:Nat}{h':Heap}{tk:Nat}(X:Off env σ oa g s₀ c)(hc:h'.get? c=some od)(hd:od.data= .dict es n)(keep:∀b o,b≠c→s.heap.get? b=some o→h'.get? b=some o):
  Sv G A g₀ s₀ env σ oa g {s with heap:=h',toks:=tk}:=by
 have nL:c≠env.locals:=fun q=>X.lo (.inl q)
 have nC:∀x d,env.cells.lookup x=some d→d≠c:=fun x d h q=>X.lo (.inr (.inl ⟨x,by rw [h,q]⟩))
 have nO:∀x ds,σ.os.lookup x=some ds→oa x≠c:=fun x ds h q=>X.lo (.inr (.inr ⟨x,ds,h,q.symm⟩))
 have kNs:∀m,s.heap.Ns env.locals m→h'.Ns env.locals m:=fun m h=>h.at' fun o e=>keep _ o (Ne.symm nL) e
 have kCell:∀x d,env.cells.lookup x=some d→∀v,s.heap.IsCell d v→h'.IsCell d v:=fun x d h v ⟨o,ho,hd⟩=>⟨o,keep _ _ (nC x d h) ho,hd⟩
 have kG:∀b o o',g b=some o→s.heap.get? b=some o'→h'.get? b=some o':=fun b o o' e e'=>keep b o' (fun q=>by rw [q,X.fz] at e;cases e) e'
 refine {ext:=?_,vw:=?_,locg:=S.locg,loc0:=S.loc0,ns:=(let ⟨m,h⟩:=S.ns;⟨m,kNs m h⟩),cell:=?_,apart:=S.apart,own:=?_,ownA:=S.ownA}
 ·refine oEE S.ext.same fun h1 t1 e1=>?_
  exact ⟨S.ext.heap.to fun b o o' e e'=>keep b o' (fun q=>by rw [q,X.old] at e;cases e) e',S.ext.le,S.ext.inn.to kG,S.ext.new,⟨h',tk,by rw [e1]⟩⟩
 ·refine {kind:=S.vw.kind,sc:=S.vw.sc,glo:=S.vw.glo,bui:=S.vw.bui,vars:=?_,cel:=S.vw.cel,inn:=S.vw.inn.to kG,base:=S.vw.base,fr:=?_}
  ·intro y dy hy
   refine oEA (S.vw.vars y dy hy) fun u hu hcc=>?_
   refine ⟨u,hu,?_⟩
   refine Or.elim hcc (QCx fun h1 m h2 h3=>?_) (QCx fun h1 d h2 h3=>?_)
   ·exact .inl ⟨h1,m,kNs m h2,h3⟩
   ·exact .inr ⟨h1,d,h2,kCell y d h2 _ h3⟩
  ·refine S.vw.fr.step fun b o es' ep e d=>?_
   by_cases q:b=c
   ·subst q;exact ⟨od,es,n,hc,hd⟩
   ·exact ⟨o,es',ep,keep b o q e,d⟩
 ·intro y d hd'
  refine QEV (S.cell y d hd') fun h1 h2 v h3=>?_
  exact ⟨h1,h2,v,kCell y d hd' v h3⟩
 ·intro y ds hy
  refine QBC (S.own y ds hy) fun h1 h2 h3 ζ3 vs ζ5 h7=>?_
  obtain ⟨m,h4,h5⟩:=ζ3
  obtain ⟨n',ho⟩:=ζ5
  exact ⟨h1,h2,h3,⟨m,kNs m h4,h5⟩,vs,⟨n',keep _ _ (nO y ds hy) ho⟩,h7⟩
noncomputable def QD3(h:Heap)(d:QW):Prop:=∃sl,h.get? d=some {cls:= .type "dict",data:= .dict #[],slots:=sl}
theorem QD3.up{h h':Heap}{d:QW}(x:QD3 h d)(k:HLe h h'):QD3 h' d:=by
 revert x
 refine rE fun sl e=>?_
 refine oEA (k _ _ e) fun o' e' sm=>?_
 rcases sm with rfl|⟨_,_,sl',_,_,rfl⟩
 ·exact ⟨_,e'⟩
 ·exact ⟨sl',e'⟩
theorem QQG{x:Str}{target:Expr}{body:List Stmt}{p pos:Pos}{Q:Flow→QR→Prop}(hh:A.handled=none)(S:Sv G A g₀ s₀ env σ oa g s)(hx:σ.os.lookup x=some [])(px:plainName x=true)
  (k:∀h',(∀b o,s.heap.get? b=some o→h'.get? b=some o)→Sv G A g₀ s₀ env σ oa g {s with heap:=h'}→Q .next {s with heap:=h'}):
  Qa (model prog w) A (exec (.For target (.Name x p) body [] pos) env) Q E s:=by
 refine wpAny_For (QEK S hx px ?_) (fun _=>rfl)
 refine QEf (S.ownList hx) fun vs hL hP hv hsz=>?_
 refine wpAny_pyIter_list hL ?_
 generalize hO:({cls:= .type "list_iterator",data:= .fields #[.ref (oa x),.int 0 0]}:Obj)=oI
 have xx:=Ext.grow (tk:=s.toks) S.vw.inn (QAm s.heap oI)
 have S1:=S.up xx
 have offI:=S.offNew (QAp s.heap)
 have hit:(s.heap.push oI).get? s.heap.objs.size=some oI:=Heap.get?_push_size _ ((hO▸rfl))
 refine codeAny_forLoop_any (fun m s'=>s'={s with heap:=s.heap.push oI}) ?_ 0 rfl
 rintro m s' rfl
 have hvs:vs= #[]:=Array.eq_empty_of_size_eq_zero hsz
 subst hvs
 refine wpAny_pyNext_list_end (i:=0) (l:=oa x) (items:= #[]) hh ⟨oI,hit,(hO▸rfl),(hO▸rfl)⟩ (hL.push oI) rfl fun h' hx'=>QG ?_
 refine k h' (fun b o e=>hx' b o (fun q=>by rw [q,QAp] at e;cases e) (Heap.get?_push_of_some _ e)) ?_
 exact S1.poke0 offI hit (fun _ _ q=>by subst hO;cases q) fun b o q e=>hx' b o q e
end
end
noncomputable def C7:QCl:=QBU [("list",.typ "list")]
section
variable {prog:QV}{w:QX}{G:Gd prog w}{N:Nat}
theorem QPi{A:QT}{E:QS→QR→Prop}{env:Env}{s:QR}{k:Nat}{p:Pos}{Q:Bool→QR→Prop}(h:Q true s):Qa (model prog w) A (isTrue (.Constant (.bool true) k p) env (eval (.Constant (.bool true) k p) env)) Q E s:=by
 show Qa _ A (do let v←eval (.Constant (.bool true) k p) env;standAt p;holding [v] (truthy v)) Q E s
 exact QB (wpAny_Constant_bool (QB (wpAny_standAt (QF (wpAny_truthy_bool h)))))
theorem QM3(X:(KF w.params).In G.h)(hC:COk G C7){A:QT}{env:Env}{g₀:Fz}{s₀ s:QR}{oa:Str→QW}{a dd:QW}{o:Obj}{Q:Flow→QR→Prop}{E:QS→QR→Prop}(R:Rm A 10)
  (S:Sv G A g₀ s₀ env {ρ:={sc:=(mS 33 1).names,vs:=[(Qc "self",.obj a),(Qc "headers",.none)]},os:=[]} oa g₀ s) (offD:Off env {ρ:={sc:=(mS 33 1).names,vs:=[(Qc "self",.obj a),(Qc "headers",.none)]},os:=[]} oa g₀ s₀ dd)
  (ha:g₀ a=some o) (hoc:o.cls= .ref 415) (hod:o.dict=some dd) (hop:o.data= .plain) (hdd:QD3 s.heap dd)
  (k:∀s' L od t,Ext g₀ s₀ g₀ s'→s'.heap.get? dd=some od→od.data= .dict #[⟨PyData.keyHash w.params (Qc "_headers"),.str (Qc "_headers") t,.ref L⟩] 1→g₀ L=none→s₀.heap.get? L=none→L≠dd→s'.heap.PlainList L #[]→Q .next s'):
  Qa (model prog w) A (execs (mB 33 1) env) Q E s:=by
 have T:Ev G 10 (fun _=>none) (fun _=>none):=⟨(fun _ _ h=>nomatch h),(fun _ _ h=>nomatch h),by decide⟩
 generalize hσ0:(⟨⟨(mS 33 1).names,[(nm "self",.obj a),(nm "headers",.none)]⟩,[]⟩:PS)=σ0 at S offD
 have kh:σ0.ρ.kind (nm "headers")=some .local:=(hσ0▸by kernel_rfl)
 have hh:A.handled=none:=R.hnd (by decide)
 have tt:∀p1 p2 kk p3,QAl G 10 (.Compare (.Name (nm "headers") p1) [.IsNot] [.Constant .none kk p2] p3) σ0.ρ false:=fun p1 p2 kk p3=>hσ0▸teq T [] (QAZ (@rfl Bool false) (by kernel_rfl))
 generalize hb:mB 33 1=body
 conv at hb=>lhs;whnf
 subst hb
 refine QD (wpAny_Assign_Name (wpAny_IfExp (tt _ _ _ _ A env g₀ s _ _ R S.vw fun g1' sh1 x1'=>?_)) (QA6 rfl rfl _ _ _))
 have x1:=QRd x1' S.vw.inn
 have S1:=S.up x1
 have hdd1:=hdd.up x1.heap
 rw [if_neg QAS]
 refine wpAny_List (QK ⟨Ql _,?_⟩)
 generalize hO:({cls:= .type "list",data:= .seq ([]:List QS).toArray}:Obj)=oL
 have xL:=Ext.grow (tk:=sh1.toks) S1.vw.inn (QAm sh1.heap oL)
 have S2:=S1.up xL
 have hgL:(sh1.heap.push oL).get? sh1.heap.objs.size=some oL:=Heap.get?_push_size _ ((hO▸rfl))
 have offL:=S1.offNew (QAp sh1.heap)
 refine S2.bindOwn (ds:=[]) (vs:= #[]) kh ⟨0,by rw [hgL];subst hO;rfl⟩ .nil offL.fz offL.old offL.lo fun h3 tk3 S3 keep3=>?_
 have nlD:dd≠env.locals:=fun e=>offD.lo (.inl e)
 have hneLD:sh1.heap.objs.size≠dd:=fun e=>by
  revert hdd1
  refine rE fun sl hs=>?_
  rw [←e,QAp] at hs;cases hs
 have hdd3:QD3 h3 dd:=by
  revert hdd1
  refine rE fun sl hs=>?_
  exact ⟨sl,keep3 _ _ nlD (Heap.get?_push_of_some _ hs)⟩
 generalize hσ3:σ0.setOwn (Qc "headers") []=σ3 at S3
 have oh3:σ3.os.lookup (nm "headers")=some []:=(hσ3▸hσ0▸by kernel_rfl)
 have gs3:σ3.ρ.get (nm "self")=some (.obj a):=(hσ3▸hσ0▸by kernel_rfl)
 have kt3:σ3.ρ.kind (nm "type")=some .globalImplicit:=(hσ3▸hσ0▸by kernel_rfl)
 have kl3:σ3.ρ.kind (nm "list")=some .globalImplicit:=(hσ3▸hσ0▸by kernel_rfl)
 have on3:∀y dy,σ3.os.lookup y=some dy→y=nm "headers":=fun y dy hy=>by
  subst hσ3 hσ0
  refine Or.elim (QCH hy) (rA fun q _=>?_) (rA fun _ q=>?_)
  ·exact q
  ·exact QAV q
 have offD3:Off env σ3 (fun y=>if y=Qc "headers" then sh1.heap.objs.size else oa y) g₀ s₀ dd:=by
  refine ⟨?_,offD.fz,offD.old⟩
  rintro (q|q|⟨y,dy,hy,e⟩)
  ·exact offD.lo (.inl q)
  ·exact offD.lo (.inr (.inl q))
  ·dsimp only at e
   rw [if_pos (on3 y dy hy)] at e;exact hneLD e.symm
 have hLown:(fun y=>if y=Qc "headers" then sh1.heap.objs.size else oa y) (Qc "headers")=sh1.heap.objs.size:=if_pos rfl
 revert S3 offD3 hLown
 generalize (fun y=>if y=Qc "headers" then sh1.heap.objs.size else oa y)=oa3
 intro S3 offD3 hLown
 revert S3
 generalize hsh3:({heap:=h3,gens:=_,drawn:=_,toks:=tk3,os:=_}:QR)=sh3
 intro S3
 have hdd3':QD3 sh3.heap dd:=hsh3▸hdd3
 refine QE0 (hC (nm "list") (.typ "list") (by kernel_rfl)) fun hdb vl dvl hvl=>?_
 cases dvl.out
 have hT3:sh3.TypeIs (.ref (oa3 (Qc "headers"))) "list":=by
  refine oEA (S3.ownList oh3) fun _ hL _=>?_
  exact hL.typeIs
 refine QD (wpAny_If (wpAny_isTrue_Compare1 (wpAny_Call_Name_kw (QM (QAw S3.vw kt3 (.inr (G.bn QFn (.type "type") rfl)) ?_) (by decide))) (bi_not rfl)))
 refine QAf (fun a e=>by cases e) rfl (QH (QEK S3 oh3 (by decide) (QK (call_type_of hT3 (by decide) ?_))) rfl)
 refine QM (QAw S3.vw kl3 hvl ?_) hdb
 refine isnot_type_same (wpAny_truthy_bool ?_)
 rw [if_neg QAS]
 refine QG ?_
 refine QD (plainObj_wpAny_Assign_Attribute (QEK S3 oh3 (by decide) (QBl S3 gs3 (by decide) fun sv dsv=>?_)) (QA6 rfl rfl _ _ _))
 cases dsv.out
 rw [hLown]
 have ho5:sh3.heap.get? a=some o:=S3.vw.inn.exact ha fun _ _ q=>by rw [hop] at q;cases q
 revert hdd3'
 refine rE fun sl hd5=>?_
 refine QRt (S3.vw.kin X) ho5 hoc hod hop hd5 fun h6 hd6 hs6=>?_
 have S6:=S3.pokeD (tk:=sh3.toks+2) offD3 hd6 rfl fun b o' q e=>hs6.extBut b o' q e
 refine QD (wpAny_If (QPi ?_))
 rw [if_pos rfl]
 refine QD (QQG hh S6 oh3 (by decide) fun h7 keep7 S7=>?_)
 refine QG (QG ?_)
 refine QEf (S7.ownList oh3) fun vs7 _ hP7 hv7 hsz7=>?_
 have hvs:vs7= #[]:=Array.eq_empty_of_size_eq_zero hsz7
 subst hvs
 rw [hLown] at hP7
 exact k _ _ _ _ S7.ext (keep7 _ _ hd6) rfl offL.fz offL.old hneLD hP7
end
section
variable {prog:QV}{w:QX}{G:Gd prog w}{N:Nat}
theorem QQa(a b c:QS):bindArgs fd412 ⟨[a,b,c],[]⟩=(alloc {cls:= .type "dict",data:= .dict #[]}>>=fun d=>pure [(Qc "self",a),(Qc "_name",b),(Qc "_value",c),(Qc "_params",.ref d)]):=by kernel_rfl
set_option tactic.hygienic true in
theorem QNP(X:(KF w.params).In G.h)(hcv:QBB G 11 316 QCc){a:QW}{xs:List D}{n v:PySem.Str}(hl:xs.length≤1000)(hn:QA1 n=true)(hv:QA1 v=true):QLx G 13 412 [.obj a,.str n,.str v] a xs (xs++[prD (n,v)]):=by
 refine oE (QDa (G:=G) (a:=412) (fd:=fd412) (body:=mB 33 17) X (by kernel_rfl) rfl (by kernel_rfl)) fun o T=>?_
 intro A g s vs L Q E R fro fi base dvs hi gL hP k
 cases dvs with|cons a1 r1=>?_
 cases r1 with|cons a2 r2=>?_
 cases r2 with|cons a3 r3=>?_
 cases r3
 rename_i w1 w2 w3
 have hle:HLe G.h s.heap:=fun b o e=>fi b o (base b o e)
 refine wpAny_call (codeAny_call_function (by have:=R.dep;exact zn1 [_,_] 1 (.a (.v 0) (.n 1)) (.v 1) 1 (.a (.a (.v 0) (.n 13)) (.n 1)) (.v 1) rfl this) (hle.exact T.ob fun _ _ q=>by rw [T.da] at q;cases q) T.da T.co T.ge T.bo (QFQ T.cd hle) ?_)
 rw [QQa]
 refine QB (wpAny_alloc (QC ?_))
 generalize hO:({cls:= .type "dict",data:= .dict #[]}:Obj)=od
 have hgd:(s.heap.push od).get? s.heap.objs.size=some od:=Heap.get?_push_size _ ((hO▸rfl))
 have x1:=Ext.add (tk:=s.toks) fi (QAm s.heap od) (QAp s.heap) hgd
 have hdz:gsz≤s.heap.objs.size:=QOe fi base
 revert hP
 refine rEA fun vl ζ1 hdl=>?_
 obtain ⟨nl,hol⟩:=ζ1
 have hne:L≠s.heap.objs.size:=fun e=>by rw [e,QAp] at hol;cases hol
 have gL1:(g.add s.heap.objs.size od) L=none:=by unfold Fz.add;rw [if_neg hne];exact gL
 have hol1:(s.heap.push od).get? L=some {cls:= .type "list",data:= .seq vl nl}:=Heap.get?_push_of_some _ hol
 have hbd:QDY (g.add s.heap.objs.size od) [(Qc "self",w1),(Qc "_name",w2),(Qc "_value",w3),(Qc "_params",.ref s.heap.objs.size)] [(Qc "self",.obj a),(Qc "_name",.str n),(Qc "_value",.str v),(Qc "_params",.obj s.heap.objs.size)]:=
  ⟨rfl,.cons (a1.mono x1.le) (.cons (a2.mono x1.le) (.cons (a3.mono x1.le) (.cons (.obj _) .nil))),show [Qc "self",Qc "_name",Qc "_value",Qc "_params"].Nodup by decide⟩
 have hk:QBQ fd412.scope.names ([(Qc "self",D.obj a),(Qc "_name",.str n),(Qc "_value",.str v),(Qc "_params",.obj s.heap.objs.size)].map (·.1))=true:=by kernel_rfl
 rw [T.cl]
 refine wpAny_newFunctionEnv_cells T.ki (QLH hk hbd.1) fun env he s₁ x=>?_
 subst he
 have hle1:HLe G.h (s.heap.push od):=hle.trans (QAm _ _)
 refine ⟨(hle1.nolim G.nolim).keeps x.toInCall.keep,codeAny_func ?_⟩
 have S:=QFU (G:=G) (a:=412) T.cl T.gl T.bu T.ki (fro.up (QAm _ _)) x1.inn (base.trans x1.le) hbd hk x
 revert fro
 refine rEA fun fr hfr _=>?_
 have keepL:=S.ext.heap.exact hol1 fun _ _ q=>nomatch q
 have offL:=QGi S hol1 gL1
 refine QNc X hcv hl hn hv _ _ _ _ _ L _ _ R.deeper (S.rebase L) offL (hi.mono x1.le) ⟨vl,⟨nl,keepL⟩,hdl.mono x1.le⟩ (Fz.add_self _ _ _) ((hO▸rfl)) (by rw [←hO]) hdz (by rw [←hO]) fun g' s' x' gl' pl'=>k _ _ ((x1.hide gL1).trans x') gl' pl'
theorem QOc(X:(KF w.params).In G.h)(hC:COk G C7){A:QT}{g:Fz}{s:QR}{Q E:QS→QR→Prop}(R:Rm A 13)(fro:QCr A s.heap)(fi:FIn g s.heap)(base:FLe G.h.get? g)
  (k:∀g' s' a L,Ext g s g' s'→s.heap.get? L=none→g' L=none→QCq g' a L→s'.heap.PlainList L #[]→Q (.ref a) s'):Qa (model prog w) A (call (.ref 415) []) Q E s:=by
 refine oE (QDa (G:=G) (a:=309) (fd:=fd309) (body:=mB 33 1) X (by kernel_rfl) rfl (by kernel_rfl)) fun o T=>?_
 have XK:=QOi fi base X
 have hle:HLe G.h s.heap:=fun b o e=>fi b o (base b o e)
 obtain ⟨h,gn,dr,t,os⟩:=s
 refine wpAny_call (make_core (init:= .ref 309) (makes_of (K:=KF w.params) XK (by kernel_rfl)) (looks_findIn XK (by kernel_rfl)) (fun self=>bind_fn XK self (by kernel_rfl)) (.inl rfl) ?_)
 generalize hO1:(emptyDict:Obj)=oD
 generalize hO2:instObj 415 h.objs.size=oI
 have hgD:(h.push oD).get? h.objs.size=some oD:=Heap.get?_push_size _ ((hO1▸rfl))
 have hgD2:((h.push oD).push oI).get? h.objs.size=some oD:=Heap.get?_push_of_some _ hgD
 have hgI:((h.push oD).push oI).get? (h.objs.size+1)=some oI:=by
  have:=Heap.get?_push_size (o:=oI) (h.push oD) ((hO2▸rfl))
  rw [Heap.size_push] at this;exact this
 have hnI:h.get? (h.objs.size+1)=none:=QBW (Nat.le_succ _)
 have hnD:h.get? h.objs.size=none:=QAp h
 have hle2:HLe h ((h.push oD).push oI):=(QAm _ _).trans (QAm _ _)
 have x1:=Ext.add (s:=⟨h,gn,dr,t,os⟩) (tk:=t) fi hle2 hnI hgI
 have hneDI:h.objs.size≠h.objs.size+1:=by exact Qi (zn0 [_] 1 (.a (.v 0) (.n 1)) (.a (.v 0) (.n 1)) rfl)
 have gD1:(g.add (h.objs.size+1) oI) h.objs.size=none:=by unfold Fz.add;rw [if_neg hneDI];exact fi.none hnD
 have base1:=base.trans x1.le
 have hle3:HLe G.h ((h.push oD).push oI):=hle.trans hle2
 refine codeAny_call_function (by have:=(Rm.tc (v:=415) (rest:=[]) R:Rm _ 12).dep;exact zn1 [_,_] 1 (.a (.v 0) (.n 1)) (.v 1) 1 (.a (.a (.v 0) (.n 12)) (.n 1)) (.v 1) rfl this) (hle3.exact T.ob fun _ _ q=>by rw [T.da] at q;cases q) T.da T.co T.ge T.bo (QFQ T.cd hle3) ?_
 have X302:((h.push oD).push oI).get? 302=some _:=hle3.exact (X 302 _ rfl) fun _ _ q=>nomatch q
 refine QPE X302 rfl ?_
 have hbd:QDY (g.add (h.objs.size+1) oI) [(Qc "self",.ref (h.objs.size+1)),(Qc "headers",.none)] [(Qc "self",.obj (h.objs.size+1)),(Qc "headers",.none)]:=
  ⟨rfl,.cons (.obj _) (.cons .none .nil),show [Qc "self",Qc "headers"].Nodup by decide⟩
 have hk:QBQ fd309.scope.names ([(Qc "self",D.obj (h.objs.size+1)),(Qc "headers",.none)].map (·.1))=true:=by kernel_rfl
 rw [T.cl]
 refine wpAny_newFunctionEnv_cells T.ki (QLH hk hbd.1) fun env he s₁ x=>?_
 subst he
 refine ⟨(hle3.nolim G.nolim).keeps x.toInCall.keep,codeAny_func ?_⟩
 have S:=QFU (G:=G) (a:=309) T.cl T.gl T.bu T.ki (QCr.tc (v:=415) (rest:=[]) (fro.up hle2)) x1.inn base1 hbd hk x
 have offD:=QGi S hgD2 gD1
 have eD:QD3 s₁.heap h.objs.size:=by
  have:QD3 ((h.push oD).push oI) h.objs.size:=⟨#[],by rw [hgD2];subst hO1;rfl⟩
  exact this.up S.ext.heap
 refine QM3 X hC (Rm.less (n:=11) (Rm.deeper (Rm.tc R)) (by decide)) (S.rebase h.objs.size) offD (Fz.add_self _ _ _) ((hO2▸rfl)) ((hO2▸rfl)) ((hO2▸rfl)) eD fun s' L od t' x' hd hdd gL sL hLD hP=>?_
 refine ⟨rfl,?_⟩
 have sL':h.get? L=none:=by
  cases q:h.get? L with
  |none=>rfl
  |some o'=>
   have e1:=Heap.get?_push_of_some oI (Heap.get?_push_of_some oD q)
   have:(QDS ((h.push oD).push oI) h.objs.size).get? L=some o':=by rw [hide_ne hLD];exact e1
   have e2:(QDS ((h.push oD).push oI) h.objs.size).get? L=none:=sL
   rw [e2] at this;cases this
 have addle:FLe (g.add (h.objs.size+1) oI) ((g.add (h.objs.size+1) oI).add h.objs.size od):=Fz.add_le gD1
 refine k ((g.add (h.objs.size+1) oI).add h.objs.size od) s' (h.objs.size+1) L ?_ sL' ?_ ?_ hP
 ·refine oEE x'.same fun hh tt e3=>?_
  refine ⟨fun b o' e=>?_,x1.le.trans addle,fun b o' e=>?_,fun b o' e=>?_,⟨hh,tt,by rw [e3];rfl⟩⟩
  ·have q:b≠h.objs.size:=fun q=>by rw [q] at e;exact absurd (e.symm.trans hnD) (nofun)
   have e1:=Heap.get?_push_of_some oI (Heap.get?_push_of_some oD e)
   exact x'.heap b o' (by show (QDS _ _).get? b=_;rw [hide_ne q];exact e1)
  ·unfold Fz.add at e
   by_cases q:b=h.objs.size
   ·rw [if_pos q] at e;cases e
    subst q;exact ⟨_,hd,.rfl'⟩
   ·rw [if_neg q] at e
    exact x'.inn b o' e
  ·unfold Fz.add at e
   by_cases q:b=h.objs.size
   ·subst q;exact .inr hnD
   ·rw [if_neg q] at e
    by_cases q2:b=h.objs.size+1
    ·subst q2;exact .inr hnI
    ·rw [if_neg q2] at e;exact .inl e
 ·unfold Fz.add;rw [if_neg hLD];exact gL
 ·refine ⟨oI,h.objs.size,od,_,1,_,t',?_,(hO2▸rfl),(hO2▸rfl),(hO2▸rfl),Fz.add_self _ _ _,hdd,rfl⟩
  exact addle _ _ (Fz.add_self _ _ _)
end
theorem reF{l:List Int}{x:Int}(h:∀f∈l++[x],0≤f∧f<64)(hL:LOk (l++[x]).length):QAX (QBI (l++[x]))=l++[x-x%QA9 (l++[x]).length]:=by
 refine QEf (QJs hL) fun t s0 t0 st=>rAA fun e4 em e64=>?_
 refine oAA (QGM _ h) fun b0 b1 _=>?_
 refine oAA (QGM l fun f hf=>h f (List.mem_append_left _ hf)) fun _ _ eN=>?_
 refine oA (h x (List.mem_append_right _ (.head _))) fun x0 x1=>?_
 have hs:QA9 (l++[x]).length*t=64:=Int.mul_comm .. ▸st
 rw [QDL,QHH,em,e4]
 have ev:numOf 0 (QBI (l++[x]))=QBJ 0 (l++[x])/QA9 (l++[x]).length:=by
  rw [QCU,QRi,e4]
  exact Int.emod_eq_of_lt (Int.ediv_nonneg b0 (Int.le_of_lt s0)) (Int.ediv_lt_of_lt_mul s0 (by rw [Int.mul_comm,←e64];exact b1))
 rw [ev]
 generalize hsp:QA9 (l++[x]).length=s at*
 rw [show (l++[x]).length=l.length+1 from Qu,QEt,dv (t:=t) s0 hs.symm,md (t:=t) s0 hs.symm,Int.ediv_ediv_of_nonneg (Int.le_of_lt s0),hs,QBz]
 have c:=cut (n:=QBJ 0 l) 1 (by decide) x0 x1
 rw [Int.ediv_one] at c
 have d:=cat (n:=QBJ 0 l) s t 1 s0 t0 (by decide) x0 (st.symm▸x1)
 rw [Int.one_mul,Int.emod_one,Int.zero_mul,Int.zero_add,st] at d
 rw [show (QBJ 0 l*64+x)/64=QBJ 0 l from c,eN,d]
 exact congrArg (fun z=>l++[z]) (by rw [Int.emod_def,Int.mul_comm,Int.sub_sub_self])
theorem QMs{os:List Int}(h1:1≤os.length)(h2:os.length≤5):∃init x,QAX os=init++[x]∧x%QA9 (QAX os).length=0:=by
 have:∃(t:Int) (k:Nat),QAs os.length=k+1∧0<QA9 (QAs os.length)∧t*QA9 (QAs os.length)=64∧(4:Int)^(3*QAs os.length-4*os.length)=QA9 (QAs os.length):=by
  generalize os.length=L at*
  rcases L with _|_|_|_|_|_|L
  ·exact absurd h1 (by decide)
  ·exact ⟨4,1,by decide⟩
  ·exact ⟨16,2,by decide⟩
  ·exact ⟨64,3,by decide⟩
  ·exact ⟨4,5,by decide⟩
  ·exact ⟨16,6,by decide⟩
  ·exact absurd h2 (Nat.not_le.mpr (Nat.le_add_left 6 L))
 revert this
 refine QCO fun t k ek s0 st e4=>?_
 rw [QDL,QIk,e4]
 generalize QA9 (QAs os.length)=s at*
 rw [ek]
 exact ⟨_,_,rfl,by rw [md (t:=t) s0 (by rw [Int.mul_comm];exact st.symm),Int.mul_emod_left]⟩
noncomputable def cl(f:Int):Int:=if f<52 then f%26 else f
theorem QSG(coat:Int)(hc:coat=0∨coat=1){f g:Int}(hf:0≤f∧f<64)(hg:0≤g∧g<64):QCf (sg coat f)=QCf (sg coat g)↔cl f=cl g:=by
 have h0:∀a b:Fin 64,(QCf (sg 0 (a.val:Int))=QCf (sg 0 (b.val:Int))↔cl (a.val:Int)=cl (b.val:Int))∧(QCf (sg 1 (a.val:Int))=QCf (sg 1 (b.val:Int))↔cl (a.val:Int)=cl (b.val:Int)):=by decide+kernel
 have e1:((f.toNat:Nat):Int)=f:=QAG hf.1
 have e2:((g.toNat:Nat):Int)=g:=QAG hg.1
 have:=h0 ⟨f.toNat,(Int.toNat_lt hf.1).mpr hf.2⟩ ⟨g.toNat,(Int.toNat_lt hg.1).mpr hg.2⟩
 dsimp only at this
 rw [e1,e2] at this
 rcases hc with rfl|rfl
 ·exact this.1
 ·exact this.2
theorem QQL(coat:Int)(hc:coat=0∨coat=1){f:Int}(hf:0≤f∧f<64):32≤sg coat f∧sg coat f<127:=by
 have h0:∀a:Fin 64,(32≤sg 0 (a.val:Int)∧sg 0 (a.val:Int)<127)∧(32≤sg 1 (a.val:Int)∧sg 1 (a.val:Int)<127):=by decide+kernel
 have e1:((f.toNat:Nat):Int)=f:=QAG hf.1
 have:=h0 ⟨f.toNat,(Int.toNat_lt hf.1).mpr hf.2⟩
 dsimp only at this
 rw [e1] at this
 rcases hc with rfl|rfl
 ·exact this.1
 ·exact this.2
theorem QLT{figs:List Int}{coat:Int}(hc:coat=0∨coat=1)(hf:∀f∈figs,0≤f∧f<64):∀k∈codes figs coat,32≤k∧k<127:=by
 intro k hk
 unfold codes at hk
 rcases Q8.mp hk with hk|hk
 ·refine oEA (Qw.mp hk) fun f hf' ζ2=>?_
  subst ζ2
  exact QQL coat hc (hf f hf')
 ·have:=(List.mem_replicate.mp hk).2
  exact ⟨zn1 [_] 1 (.n 32) (.v 0) 1 (.n 61) (.v 0) rfl (Qe this.symm),zn1 [_] 1 (.a (.v 0) (.n 1)) (.n 127) 1 (.v 0) (.n 61) rfl (Qe this)⟩
theorem QFR{figs:List Int}{coat:Int}(hc:coat=0∨coat=1)(hf:∀f∈figs,0≤f∧f<64)(hl:figs.length≤100):QA1 (QBF figs coat)=true:=by
 unfold QA1
 rw [QAT]
 refine ⟨List.all_eq_true.mpr fun k hk=>?_,decide_eq_true (by have:=QIV figs coat;exact zn2 [_,_] 1 (.v 0) (.n 1000) 1 (.v 1) (.n 100) 1 (.v 0) (.a (.v 1) (.n 3)) rfl hl this)⟩
 rw [QBV] at hk
 exact decide_eq_true (QLT hc hf k hk)
theorem QIB{figs:List Int}{coat:Int}:(QA3 (QBF figs coat)).cps.toList=figs.map (fun f=>QCf (sg coat f))++List.replicate ((-(figs.length:Int)).fmod 4).toNat 61:=by
 unfold QA3
 rw [Array.toList_map,QBV]
 unfold codes
 rw [Qv,Q3,List.map_replicate]
 rfl
theorem QJm{p q:List Int}{coat:Int}(hc:coat=0∨coat=1)(hp:∀f∈p,0≤f∧f<64)(hq:∀f∈q,0≤f∧f<64)(hl:p.length=q.length):QA3 (QBF p coat)=QA3 (QBF q coat)↔p.map cl=q.map cl:=by
 have e:QA3 (QBF p coat)=QA3 (QBF q coat)↔(QA3 (QBF p coat)).cps.toList=(QA3 (QBF q coat)).cps.toList:=⟨fun h=>by rw [h],fun h=>QJY h⟩
 rw [e,QIB,QIB,hl]
 have ec:(p.map (fun f=>QCf (sg coat f))++List.replicate ((-(q.length:Int)).fmod 4).toNat 61=q.map (fun f=>QCf (sg coat f))++List.replicate ((-(q.length:Int)).fmod 4).toNat 61)↔p.map (fun f=>QCf (sg coat f))=q.map (fun f=>QCf (sg coat f)):=List.append_left_inj _
 rw [ec]
 clear e ec
 induction p generalizing q with
 |nil=>cases q with
  |nil=>simp
  |cons _ _=>simp at hl
 |cons a p ih=>cases q with
  |nil=>simp at hl
  |cons b q=>
   simp only [Q0,List.cons.injEq]
   have hi:=ih (q:=q) (fun f h=>hp f (.tail _ h)) (fun f h=>hq f (.tail _ h)) (by simpa using hl)
   exact and_congr (QSG coat hc (hp a (.head _)) (hq b (.head _))) hi
noncomputable def QC0(c f:Int):Int:=if f<52 then f.fmod 26+26*c.fmod 2 else f
theorem QK5{c f:Int}{r:List Int}:∃init,QAi c [] (f::r)=init++[QC0 c f]:=by
 unfold QAi QC0
 by_cases h:f<52
 ·rw [if_pos h,if_pos h,QAy];exact ⟨_,rfl⟩
 ·rw [if_neg h,if_neg h,QAy];exact ⟨_,rfl⟩
theorem QSw{c f:Int}(hf:0≤f∧f<64):cl (QC0 c f)=cl f:=by
 unfold QC0 cl
 rw [fm _ _ (by decide),fm _ _ (by decide)]
 by_cases h:f<52
 ·rw [if_pos h,if_pos h]
  have:f%26+26*(c%2)<52:=by omega
  rw [if_pos this];omega
 ·rw [if_neg h,if_neg h]
theorem QKY:∀{rev:List Int} {c:Int},(∀f∈rev,0≤f∧f<64)→(QAi c [] rev).map cl=(rev.map cl).reverse
 |[],c,_=>rfl
 |f::r,c,h=>by
  have hf:=h f (.head _)
  have hr:∀g∈r,0≤g∧g<64:=fun g hg=>h g (.tail _ hg)
  rw [Q0,List.reverse_cons,←QKY (c:=if f<52 then c.fdiv 2 else c) hr,←QSw (c:=c) hf]
  unfold QC0
  by_cases q:f<52
  ·have e:QAi c [] (f::r)=QAi (c.fdiv 2) [f.fmod 26+26*c.fmod 2] r:=by rw [QAi];exact if_pos q
   rw [e,if_pos q,if_pos q,QAy,Qv];rfl
  ·have e:QAi c [] (f::r)=QAi c [f] r:=by rw [QAi];exact if_neg q
   rw [e,if_neg q,if_neg q,QAy,Qv];rfl
theorem QEI{figs:List Int}{c:Int}(h:∀f∈figs,0≤f∧f<64):(QA2 figs c).map cl=figs.map cl:=by
 unfold QA2
 rw [QKY fun f hf=>h f (List.mem_reverse.mp hf),List.map_reverse,List.reverse_reverse]
theorem QH0{figs:List Int}{coat c d:Int}(hc:coat=0∨coat=1)(h:∀f∈figs,0≤f∧f<64):QA3 (QA4 figs coat c)=QA3 (QA4 figs coat d):=by
 unfold QA4
 rw [QJm hc (QBA h) (QBA h) (by rw [QBN,QBN]),QEI h,QEI h]
noncomputable def spB(b f:Int):Int:=if f<52 then f.fmod 26+26*b else f
theorem QPh:∀k:Fin 64,∀b:Fin 2,∀s∈[(1:Int),4,16],(k.val:Int)%s=0→((s=1∨(k.val:Int)>51∨(b.val:Int)=(k.val:Int).fdiv 26)→spB b.val k.val%s=0)∧
  (¬(s=1∨(k.val:Int)>51∨(b.val:Int)=(k.val:Int).fdiv 26)→cl (spB b.val k.val-spB b.val k.val%s)≠cl (spB b.val k.val)):=by decide+kernel
theorem QRs{f b s:Int}(hf:0≤f∧f<64)(hb:0≤b∧b<2)(hs:s∈[(1:Int),4,16])(h:f%s=0):((s=1∨f>51∨b=f.fdiv 26)→spB b f%s=0)∧(¬(s=1∨f>51∨b=f.fdiv 26)→cl (spB b f-spB b f%s)≠cl (spB b f)):=by
 have e1:((f.toNat:Nat):Int)=f:=QAG hf.1
 have e2:((b.toNat:Nat):Int)=b:=QAG hb.1
 have:=QPh ⟨f.toNat,QAL.mp (e1.symm▸hf.2)⟩ ⟨b.toNat,QAL.mp (e2.symm▸hb.2)⟩ s hs
 dsimp only at this
 rw [e1,e2] at this
 exact this h
theorem QRm:∀L:Fin 6,1≤L.val→(QA9 (QAs L.val)∈[(1:Int),4,16]∧(QA9 (QAs L.val)=1↔L.val=3)):=by decide
theorem QKL{os:List Int}{coat c:Int}(hc:coat=0∨coat=1)(h1:1≤os.length)(h2:os.length≤5)(ho:∀o∈os,0≤o∧o<256):∃f,(QAX os).getLast? =some f∧0≤f∧f<64∧
  (if os.length=3∨f>51∨c.fmod 2=f.fdiv 26 then QBF (QAX (QBI (QA2 (QAX os) c))) coat=QA4 (QAX os) coat c
   else ∀d,QA3 (QBF (QAX (QBI (QA2 (QAX os) c))) coat)≠QA3 (QA4 (QAX os) coat d)):=by
 refine QB0 (QMs h1 h2) fun init f hf hsp=>?_
 have hfo:∀g∈QAX os,0≤g∧g<64:=QBX
 have hL:LOk (QAX os).length:=by rw [QBc];exact QCy h1 h2
 have hf64:0≤f∧f<64:=hfo f (by rw [hf];simp)
 have hlen:=QBc os
 refine ⟨f,by rw [hf];simp,hf64.1,hf64.2,?_⟩
 obtain ⟨pi,hpi⟩:∃pi,QA2 (QAX os) c=pi++[QC0 c f]:=by
  unfold QA2
  rw [hf,List.reverse_append]
  exact QK5
 have hx:0≤QC0 c f∧QC0 c f<64:=QBA (c:=c) hfo _ (by rw [hpi];simp)
 have hclr:QAX (QBI (QA2 (QAX os) c))=pi++[QC0 c f-QC0 c f%QA9 (QAX os).length]:=by
  have hq:=QBA (c:=c) hfo
  have hl:=QBN (figs:=QAX os) (c:=c)
  rw [hpi] at hq hl⊢
  rw [reF hq (by rw [hl];exact hL),hl]
 refine oA (QRm ⟨os.length,Nat.lt_succ_of_le h2⟩ h1) fun hs3 hn3=>?_
 dsimp only at hs3 hn3
 rw [←hlen] at hs3 hn3
 have law:=QRs (b:=c.fmod 2) hf64 ⟨Int.fmod_nonneg_of_pos c (by decide),Int.fmod_lt_of_pos c (by decide)⟩ hs3 hsp
 rw [hn3] at law
 by_cases hst:os.length=3∨f>51∨c.fmod 2=f.fdiv 26
 ·rw [if_pos hst]
  unfold QA4
  rw [hclr]
  conv=>rhs;rw [hpi]
  rw [show QC0 c f%QA9 (QAX os).length=0 from law.1 hst,Int.sub_zero]
 ·rw [if_neg hst]
  intro d hlow
  have hpok:∀g∈QAX (QBI (QA2 (QAX os) c)),0≤g∧g<64:=QBX
  have hplen:(QAX (QBI (QA2 (QAX os) c))).length=(QA2 (QAX os) d).length:=by
   rw [hclr,QBN,←QBN (figs:=QAX os) (c:=c),hpi,Qu,Qu];rfl
  have:=(QJm hc hpok (QBA (c:=d) hfo) hplen).mp hlow
  rw [hclr,QEI hfo,←QEI (c:=c) hfo,hpi,Qv,Qv] at this
  exact law.2 hst (List.cons.inj (List.append_cancel_left this)).1
section
variable {prog:QV}{w:QX}{G:Gd prog w}{N:Nat}
variable {A:QT}{g₀:Fz}{s₀:QR}{env:Env}{σ:PS}{oa:Str→QW}{g:Fz}{s:QR}{E:QS→QR→Prop}
structure HS2 (G:Gd prog w)(A:QT)(g₀:Fz)(s₀:QR)(env:Env)(σ:PS)(oa:Str→QW)(g:Fz)(s:QR)(a L:QW)(xs:List D)(b M:QW)(ys:List D):Prop where
 one:HS G A g₀ s₀ env σ oa g s a L xs
 two:HS G A g₀ s₀ env σ oa g s b M ys
 ne:L≠M
theorem HS2.mv{a L:QW}{xs:List D}{b M:QW}{ys:List D}(H:HS2 G A g₀ s₀ env σ oa g s a L xs b M ys){σ':PS}{oa':Str→QW}{g':Fz}{s':QR}(S':Sv G A g₀ s₀ env σ' oa' g' s')(Mm:Mv env σ oa σ' oa' g s g' s'):HS2 G A g₀ s₀ env σ' oa' g' s' a L xs b M ys:=
 ⟨H.one.mv S' Mm,H.two.mv S' Mm,H.ne⟩
theorem HS2.up{a L:QW}{xs:List D}{b M:QW}{ys:List D}(H:HS2 G A g₀ s₀ env σ oa g s a L xs b M ys){g':Fz}{s':QR}(x:Ext g s g' s'):HS2 G A g₀ s₀ env σ oa g' s' a L xs b M ys:=H.mv (H.one.S.up x) (.ofExt x)
theorem HS2.swap{a L:QW}{xs:List D}{b M:QW}{ys:List D}(H:HS2 G A g₀ s₀ env σ oa g s a L xs b M ys):HS2 G A g₀ s₀ env σ oa g s b M ys a L xs:=⟨H.two,H.one,H.ne.symm⟩
theorem Off.call{L M:QW}{o:Obj}(h:Off env σ oa g s₀ M)(ho:s.heap.get? M=some o)(hne:M≠L){g':Fz}{s':QR}(x:Ext g (QDk s L) g' s'):Off env σ oa g' s₀ M:=by
 refine ⟨h.lo,?_,h.old⟩
 cases q:g' M with
 |none=>rfl
 |some o'=>
  rcases x.new _ _ q with e|e
  ·rw [h.fz] at e;cases e
  ·have:(QDk s L).heap.get? M=s.heap.get? M:=hide_ne hne
   rw [this,ho] at e;cases e
theorem QOV{L b:QW}{o:Obj}(ho:s.heap.get? b=some o)(hne:b≠L)(nd:∀es ep,o.data≠ .dict es ep){g':Fz}{s':QR}(x:Ext g (QDk s L) g' s'):s'.heap.get? b=some o:=
 x.heap.exact (by show (QDS s.heap L).get? b=_;rw [hide_ne hne];exact ho) nd
theorem HS2.call{a L:QW}{xs xs':List D}{b M:QW}{ys:List D}(H:HS2 G A g₀ s₀ env σ oa g s a L xs b M ys){g':Fz}{s':QR}(x:Ext g (QDk s L) g' s')(gL:g' L=none)(pl:PL s'.heap g' L xs'):HS2 G A g₀ s₀ env σ oa g' s' a L xs' b M ys:=by
 refine oEA H.one.pl fun vl ζ1 _=>?_
 obtain ⟨nl,hol⟩:=ζ1
 refine oEA H.two.pl fun vm ζ1 hdm=>?_
 obtain ⟨nm,hom⟩:=ζ1
 have S':=H.one.S.upW H.one.o hol (fun _ _ q=>nomatch q) x
 refine ⟨⟨S',⟨H.one.o.lo,gL,H.one.o.old⟩,H.one.hi.mono x.le,pl⟩,⟨S',H.two.o.call hom H.ne.symm x,H.two.hi.mono x.le,vm,⟨nm,QOV hom H.ne.symm (fun _ _ q=>nomatch q) x⟩,hdm.mono x.le⟩,H.ne⟩
theorem QTo{target:Expr}{body:List Stmt}{ds:List D}{gi:Fz}{si:QR}{R:Result→QR→Prop}{I:QW}{fp wr:List QW}{Bd:Nat→List (Str×QS)→Prop}{St:Nat→Heap→Prop}
  (Inv:Nat→Fz→QR→Prop) (S:Sv G A g₀ s₀ env σ oa g s) (W:QRh prog w A target I fp wr ds Bd St s gi si) (hO:σ.os=[]) (hInv:∀i g' s',Inv i g' s'→Sv G A g₀ s₀ env σ oa g' s') (h0:Inv 0 gi si)
  (hl:∀x∈targetNames target,σ.ρ.kind x=some .local)
  (hb:∀i d dbs g' s' h₂ tk₂,i<ds.length→FLe gi g'→Inv i g' s'→ds[i]? =some d→QAe target d=some dbs→Sv G A g₀ s₀ env (σ.puts dbs) oa g' {s' with heap:=h₂,toks:=tk₂}→(∀b o,b≠env.locals→b∉wr→s'.heap.get? b=some o→h₂.get? b=some o)→
   ∀(Q:Flow→QR→Prop) (E':QS→QR→Prop),
   (∀g'' s'',Inv (i+1) g'' s''→FLe g' g''→(∀b∈wr,∀o,h₂.get? b=some o→(∀es ep,o.data≠ .dict es ep)→g' b=none→s''.heap.get? b=some o∧g'' b=none)→Q .next s'')→
   Qa (model prog w) A (execs body env) Q E' {s' with heap:=h₂,toks:=tk₂})
  (k:∀g' s' h₂ tk₂,Inv ds.length g' s'→FLe gi g'→Sv G A g₀ s₀ env σ oa g' {s' with heap:=h₂,toks:=tk₂}→(∀b o,b∉wr→s'.heap.get? b=some o→h₂.get? b=some o)→R (.ok .next) {s' with heap:=h₂,toks:=tk₂}):
  codeAny (model prog w) A (.forLoop target (.ref I) body [] env) R si:=by
 refine oE S.ns fun m₀ hm₀=>?_
 refine QLr (id hm₀) fun oL _ _ hoL _=>?_
 have Si:=hInv _ _ _ h0
 have hLf:env.locals∉fp:=fun hmem=>by
  refine Or.elim (W.frz _ hmem) (fun q=>?_) (rE fun o' q=>?_)
  ·rw [(W.off _ q).2] at hoL;cases hoL
  ·rw [Si.locg] at q;cases q
 have wr0:∀b∈wr,s₀.heap.get? b=none:=fun b hb=>S.ext.heap.none (W.off b hb).2
 have wrLC:∀b∈wr,b≠env.locals∧∀x,env.cells.lookup x≠some b:=by
  intro b hb
  constructor
  ·intro q
   rw [←q,(W.off b hb).2] at hoL;cases hoL
  ·intro x hx
   refine QEV (S.cell x b hx) fun _ _ _=>rEA fun o' ho' _=>?_
   rw [(W.off b hb).2] at ho';cases ho'
 refine codeAny_forLoop_any (fun j s'=>∃i g',j=ds.length+1-i∧i≤ds.length∧Inv i g' s'∧FLe gi g'∧St i s'.heap∧(∀b∈wr,g' b=none)) ?_ (ds.length+1)
  ⟨0,gi,rfl,Ql _,h0,.refl _,W.st,fun b hb=>(W.off b hb).1⟩
 intro j s'
 refine QCO fun i g' ζ2 hi hI=>rAA fun lg st' hw'=>?_
 cases ζ2
 have S':=hInv _ _ _ hI
 refine oE S'.ns fun m hm=>?_
 have hwL:∀b∈wr,g' b=none∧s₀.heap.get? b=none∧¬Loose env σ oa b:=by
  intro b hb
  refine ⟨hw' b hb,wr0 b hb,?_⟩
  rintro (q|⟨x,q⟩|⟨x,dx,q,_⟩)
  ·exact (wrLC b hb).1 q
  ·exact (wrLC b hb).2 x q
  ·rw [hO] at q;cases q
 by_cases hlt:i<ds.length
 ·refine W.lw.item i env m s' _ (fun _ s₂=>_) _ hlt st' hm hLf S'.vw.kind (fun x hx=>by rw [S.kindOf];exact hl x hx) fun bs h₂ tk₂ hbd st₂ hn₂ hk₂=>?_
  refine QBO (W.bd i bs hlt hbd) fun d dbs hdi hbt hbden=>?_
  have S₂:=S'.bound hm hwL (W.ndw st') (hbden.mono lg) (fun x hx=>by rw [S.sameKind S'];exact hl x (by rw [←bindNames hbt];exact hx)) hn₂ hk₂ (tk:=tk₂)
  have hnd:=hbden.2.2
  refine hb i d dbs g' s' h₂ tk₂ hlt lg hI hdi hbt S₂ hk₂ _ _ fun g3 s3 hI3 le3 kw=>?_
  have step:∃m',m'<ds.length+1-i∧∃i g',m'=ds.length+1-i∧i≤ds.length∧Inv i g' s3∧FLe gi g'∧St i s3.heap∧(∀b∈wr,g' b=none):=by
   refine ⟨ds.length+1-(i+1),by omega,i+1,g3,rfl,hlt,hI3,lg.trans le3,?_,fun b hb=>?_⟩
   ·refine W.lw.frame _ _ _ st₂ fun b hb o e=>?_
    refine oEA (W.nd _ _ st₂ b hb) fun on en nd=>?_
    rw [e] at en;cases en
    by_cases hbw:b∈wr
    ·exact (kw b hbw o e (nd.resolve_left fun h=>h.1 hbw) (hw' b hbw)).1
    ·refine Or.elim (W.frz b hb) (fun q=>?_) (rE fun o' q=>?_)
     ·exact absurd q hbw
     ·have e1:=lg _ _ q
      refine oEA (S₂.vw.inn _ _ e1) fun o2 e2 sm2=>?_
      rw [show ({s' with heap:=h₂,toks:=tk₂}:QR).heap=h₂ from rfl,e] at e2
      cases e2
      refine oEA ((hInv _ _ _ hI3).vw.inn _ _ (le3 _ _ e1)) fun o3 e3 sm3=>?_
      rw [QJ4 sm2 sm3 nd] at e3;exact e3
   ·refine oEA (W.ndw st₂ b hb) fun ob hob nd=>?_
    exact (kw b hb ob hob nd (hw' b hb)).2
  exact step
 ·have hin:i=ds.length:=by exact Qk (zn1 [_,_] 1 (.v 0) (.v 1) 1 (.v 0) (.v 1) rfl hi) (zn1 [_,_] 1 (.v 0) (.v 1) 1 (.v 0) (.v 1) rfl (Nat.le_of_not_lt hlt))
  subst hin
  refine W.lw.done _ _ _ st' fun h₂ tk₂ hk₂=>QG ?_
  have hn₂:h₂.Ns env.locals (ovr [] m):=hm.at' fun o e=>hk₂ _ o (fun q=>(hwL _ q).2.2 (.inl rfl)) e
  have S₂:=S'.bound hm hwL (W.ndw st') (bs:=[]) (dbs:=[]) ⟨rfl,.nil,by decide⟩ (fun x hx=>by simp at hx) hn₂ (fun b o _ hb e=>hk₂ b o hb e) (tk:=tk₂)
  exact k _ _ _ _ hI lg S₂ fun b o hb e=>hk₂ b o hb e
end
noncomputable def strN(j:Nat):PySem.Str:=PySem.Str.ofString (toString ((j:Nat):Int))
theorem QH8{j:Nat}(h:j<16):QA1 (strN j)=true:=by
 have:∀k:Fin 16,QA1 (strN k.val)=true:=by decide+kernel
 exact this ⟨j,h⟩
noncomputable def l42(os cs:List Int)(coat f:Int)(ns:List PySem.Str)(gs:List (Array UInt8))(l:List (Str×D)):PS:=
 ⟨⟨QAa 42,(nm "octets",.list (os.map .int))::(nm "coat",.int coat)::(nm "choices",.list (cs.map .int))::(nm "names",.list (ns.map .str))::(nm "got",.list (gs.map .bytes))::(nm "last",.int f)::l⟩,[]⟩
section
variable {prog:QV}{w:QX}{G:Gd prog w}{N:Nat}
variable {A:QT}{g₀:Fz}{s₀:QR}{env:Env}{σ:PS}{oa:Str→QW}{g:Fz}{s:QR}{E:QS→QR→Prop}
theorem QQ3{i:Int}(hb:0≤i∧i<1000):dCall (nm "str") [.int i]=some (.str (Qc (toString i))):=by
 unfold dCall
 rw [if_neg (by decide),if_neg (by decide),if_neg (by decide),if_neg (by decide),if_pos (by decide)]
 exact if_pos hb
theorem strAt{x:Str}{j:Nat}{p1 p2 p3:Pos}(ks:σ.ρ.kind (nm "str")=some .globalImplicit)(px:plainName x=true)(kx:σ.ρ.kind x=some .local)(ga:σ.ρ.get x=some (.int (j:Nat)))(hj:j<16):QAW G 16 (.Call (.Name (nm "str") p1) [.Name x p2] [] p3) σ.ρ (.str (strN j)):=by
 have hb:(0:Int)≤(j:Nat)∧((j:Nat):Int)<1000:=⟨QAC _,Int.lt_trans (QAL.mpr hj) (by decide)⟩
 exact QDJ (by decide) ks rfl (.one (QBH px kx ga)) (QQ3 hb) (by decide)
theorem QRk(X:(KF w.params).In G.h)(hcv:QBB G 11 316 QCc)(R:Rm A 16){a L:QW}{xs:List D}{b M:QW}{ps:List (PySem.Str×PySem.Str)}{n:PySem.Str}{j:Nat}{Q:Flow→QR→Prop}{os cs:List Int}{coat f:Int}{ns:List PySem.Str}{gs:List (Array UInt8)}
  (hσ:σ=(l42 os cs coat f ns gs [(nm "table",.obj a),(nm "alone",.obj b)]).puts [(nm "at",.int (j:Nat)),(nm "name",.str n)]) (H:HS2 G A g₀ s₀ env σ oa g s a L xs b M (ps.map prD)) (hj:j<16) (hl:xs.length≤1000) (hn:QA1 n=true)
  (hf:QDr ps) (hpl:ps.length≤1000) (hall:∀p∈ps,QA3 p.1=QA3 n)
  (k:∀g' s',HS2 G A g₀ s₀ env σ oa g' s' a L (xs++[prD (n,strN j)]) b M [prD (n,strN j)]→FLe g g'→(∀c o,s.heap.get? c=some o→(∀es ep,o.data≠ .dict es ep)→c≠L→c≠M→g c=none→s'.heap.get? c=some o∧g' c=none)→Q .next s'):
  Qa (model prog w) A (execs (lp (fnBody 42) 0).2 env) Q E s:=by
 have gt:σ.ρ.get (nm "table")=some (.obj a):=(hσ▸by kernel_rfl)
 have gal:σ.ρ.get (nm "alone")=some (.obj b):=(hσ▸by kernel_rfl)
 have gn:σ.ρ.get (nm "name")=some (.str n):=(hσ▸by kernel_rfl)
 have kn:σ.ρ.kind (nm "name")=some .local:=(hσ▸by kernel_rfl)
 have sa:∀p1 p2 p3,QAW G 16 (.Call (.Name (nm "str") p1) [.Name (nm "at") p2] [] p3) σ.ρ (.str (strN j)):=fun p1 p2 p3=>hσ▸strAt (by kernel_rfl) (by decide) (by kernel_rfl) (by kernel_rfl) hj
 clear hσ
 generalize hb:(lp (fnBody 42) 0).2=body
 conv at hb=>lhs;whnf
 subst hb
 refine QD (wpAny_Expr (methodCall_KW (name:=Qc "add_header") (QBl H.one.S gt (by decide) fun v dv=>?_)) (QCL H.one.S.vw.kind) (QA6 rfl rfl _ _ _))
 cases dv.out
 refine QES X H.one.S.vw H.one.hi (f:=412) (by kernel_rfl) (by kernel_rfl) (by decide) ?_
 refine callWith_of (P:=fun h=>HLe G.h h) (first:=[.ref a]) (QCo rfl rfl) (QGK X (a:=412) (fd:=fd412) (by kernel_rfl)) (QBo rfl rfl (QBf (N:=16) (ρ:=σ.ρ) (ds:=[.str n,.str (strN j)]) (.cons (QBH (by decide) kn gn) (.one (sa _ _ _))) rfl R H.one.S.vw fun g1 s1 vs x1 dvs=>wpAny_evalAll_nil ⟨?_,?_⟩))
 ·exact (H.one.S.vw.up x1).hle
 have H1:=H.up x1
 refine QNP X hcv hl hn (QH8 hj) A g1 s1 (.ref a::vs) L _ _ (R.less (by decide)) H1.one.S.vw.fr H1.one.S.vw.inn H1.one.S.vw.base (.cons (.obj a) dvs) H1.one.hi H1.one.o.fz H1.one.pl fun g2 s2 x2 gl2 pl2=>?_
 have H2:=H1.call x2 gl2 pl2
 refine QD (wpAny_Assign_Subscript (sa _ _ _ A env g2 s2 _ _ R H2.one.S.vw fun g3 s3 v3 x3 d3=>?_) (QA6 rfl rfl _ _ _))
 have H3:=H2.up x3
 refine QBl H3.one.S gal (by decide) fun v4 dv4=>QBl H3.one.S gn (by decide) fun v5 dv5=>?_
 cases dv4.out
 refine QBh (QFN H3.two.S.vw H3.two.hi) fun o od es nn hh=>QCm fun t I hd he=>?_
 unfold setItem
 try with_reducible refine QF ?_
 refine QB (QIK (H3.one.S.vw.kin X) I ?_)
 refine QB (special_fn (K:=KF w.params) (f:=330) (H3.one.S.vw.kin X) I (by kernel_rfl) (by kernel_rfl) ?_)
 refine QOs X hcv hf hpl hn (QH8 hj) hall A g3 s3 [.ref b,v5,v3] M _ _ (R.less (by decide)) H3.one.S.vw.fr H3.one.S.vw.inn H3.one.S.vw.base (.cons (.obj b) (.cons dv5 (.cons d3 .nil))) H3.two.hi H3.two.o.fz H3.two.pl fun g4 s4 x4 gm4 pl4=>?_
 have H4:=(H3.swap.call x4 gm4 pl4).swap
 refine QC (QG (k g4 s4 H4 (((x1.le.trans x2.le).trans x3.le).trans x4.le) fun c oc hc nd hcL hcM gc=>?_))
 have out:∀{g g':Fz} {s s':QR},Ext g s g' s'→s.heap.get? c=some oc→g c=none→s'.heap.get? c=some oc∧g' c=none:=fun {g g' s s'} x h n=>⟨x.heap.exact h nd,by
  cases q:g' c with
  |none=>rfl
  |some o'=>
   rcases x.new _ _ q with e|e
   ·rw [n] at e;cases e
   ·rw [h] at e;cases e⟩
 have c1:=out x1 hc gc
 have c2:=out x2 ((hide_ne hcL).trans c1.1) c1.2
 have c3:=out x3 c2.1 c2.2
 exact out x4 ((hide_ne hcM).trans c3.1) c3.2
end
section
variable {prog:QV}{w:QX}{G:Gd prog w}{N:Nat}{ρ:PE}
theorem QJo(X:(KF w.params).In G.h){t m:Str}{f:QW}{fd:QZ}{sem:QBR}(hc:QBB G 16 f sem)(hfd:QKG (KF w.params) f=some fd)(hf:findIn (KF w.params) (.ref 415) m=some (some (.ref f)))(ht:typeIn (KF w.params) (.ref f)=some (.type "function"))(hm:(Qc "_headers"==m)=false)
  {xs:List D} {e:Expr} {d r:D} {p1 ap cp:Pos} (pt:plainName t=true) (gt:ρ.get t=some (.hdr xs)) (he:QAW G 16 e ρ d) (hs:QAh [e]=true) (hev:QD0 (.Name t p1) m ap cp [e] []) (hsem:sem [.hdr xs,d] [] r):QAW G 16 (.Call (.Attribute (.Name t p1) m ap) [e] [] cp) ρ r:=by
 intro A env g s Q E R V k
 have pt:=QBD pt
 refine oE (hev env) fun pl hpl=>?_
 refine methodCall_KW (name:=m) (pl:=pl) (he:=hpl) (QM (QBP V gt pt.2 fun v dv=>?_) pt.1)
 refine QB0 (QJP v dv) fun a L ζ2 hi=>?_
 subst ζ2
 refine QES X V hi (f:=f) hf ht hm ?_
 refine callWith_of (P:=fun h=>HLe G.h h) (first:=[.ref a]) (QCo hs rfl) (QGK X hfd) (QBo hs rfl (QBf (.one he) hs R V fun g1 s1 vs x1 dvs=>wpAny_evalAll_nil ⟨?_,?_⟩))
 ·exact (V.up x1).hle
 ·have V1:=V.up x1
  exact hc A g1 s1 (.ref a::vs) [] [.hdr xs,d] [] r Q E hsem R V1.fr x1.inn V1.base (.cons (dv.mono x1.le) dvs) .nil fun g3 s3 v3 x3 d3=>k _ _ _ (x1.trans x3) d3
theorem QPc(X:(KF w.params).In G.h){t m:Str}{f:QW}{fd:QZ}{sem:QBR}(hc:QBB G 16 f sem)(hfd:QKG (KF w.params) f=some fd)(hf:findIn (KF w.params) (.ref 415) m=some (some (.ref f)))(ht:typeIn (KF w.params) (.ref f)=some (.type "function"))(hm:(Qc "_headers"==m)=false)
  {xs:List D} {r:D} {p1 ap cp:Pos} (pt:plainName t=true) (gt:ρ.get t=some (.hdr xs)) (hev:QD0 (.Name t p1) m ap cp [] []) (hsem:sem [.hdr xs] [] r):QAW G 16 (.Call (.Attribute (.Name t p1) m ap) [] [] cp) ρ r:=by
 intro A env g s Q E R V k
 have pt:=QBD pt
 refine oE (hev env) fun pl hpl=>?_
 refine methodCall_KW (name:=m) (pl:=pl) (he:=hpl) (QM (QBP V gt pt.2 fun v dv=>?_) pt.1)
 refine QB0 (QJP v dv) fun a L ζ2 hi=>?_
 subst ζ2
 refine QES X V hi (f:=f) hf ht hm ?_
 refine callWith_of (P:=fun h=>HLe G.h h) (first:=[.ref a]) (QCo rfl rfl) (QGK X hfd) (QBo rfl rfl (QBf (N:=16) (ρ:=ρ) (es:=[]) (ds:=[]) rfl rfl R V fun g1 s1 vs x1 dvs=>wpAny_evalAll_nil ⟨?_,?_⟩))
 ·exact (V.up x1).hle
 ·have V1:=V.up x1
  exact hc A g1 s1 (.ref a::vs) [] [.hdr xs] [] r Q E hsem R V1.fr x1.inn V1.base (.cons (dv.mono x1.le) dvs) .nil fun g3 s3 v3 x3 d3=>k _ _ _ (x1.trans x3) d3
theorem or3{x y z:Expr}{p:Pos}(h1:QAl G N x ρ false)(h2:QAl G N y ρ false)(h3:QAl G N z ρ false):QAl G N (.BoolOp .Or [x,y,z] p) ρ false:=by
 intro A env g s Q E R V k
 skip
 refine QB (h1 A env g s _ E R V fun g1 s1 x1=>?_)
 refine QB (h2 A env g1 s1 _ E R (V.up x1) fun g2 s2 x2=>?_)
 refine QB (h3 A env g2 s2 _ E R ((V.up x1).up x2) fun g3 s3 x3=>?_)
 exact QC (k _ _ ((x1.trans x2).trans x3))
theorem QRS{l r:Expr}{op:CmpOp}{pos:Pos}{a b:D}{c:Bool}(hm:lastMarks [op] [r]=false)(h1:QAW G N l ρ a)(h2:QAW G N r ρ b)(h:QA8 op a b=some c)(hN:1≤N):QAl G N (.Compare l [op] [r] pos) ρ c:=QF9 hm h1 (QGH hN h2 h)
theorem QNR{n:Nat}{l:List PySem.Str}:all2 (dEq (n+1)) (l.map .str) (l.map .str)=some true:=QCn fun x hx=>by (refine oEA (Qw.mp hx) fun s _ ζ2=>?_;subst ζ2);exact congrArg some (QE3 rfl)
theorem QMP{l:List PySem.Str}:QA8 .NotEq (.list (l.map .str)) (.list (l.map .str))=some false:=congrArg (Option.map fun r=> !r) ((if_pos rfl).trans (QNR (n:=6)))
theorem QM8{n:Nat}{ds:List D}(h:∀x∈ds,dEq n x x=some true):dEq (n+1) (.list ds) (.list ds)=some true:=(if_pos rfl).trans (QCn h)
theorem QQF{a b:PySem.Str}:QA8 .Eq (.list [prD (a,b)]) (.list [.tup [.str a,.str b]])=some true:=by
 refine QM8 (n:=7) (ds:=[.tup [.str a,.str b]]) fun x hx=>?_
 rw [Qy.mp hx]
 refine QGX (n:=6) (ds:=[.str a,.str b]) fun x hx=>?_
 cases hx with
 |head=>exact congrArg some (QE3 rfl)
 |tail _ hx=>rw [Qy.mp hx];exact congrArg some (QE3 rfl)
end
noncomputable def F42:QC9:=tabOf [("_law_figures",QJ6),("_law_written",QHr teA)]
noncomputable def QPH(os cs:List Int)(coat f:Int)(gs:List (Array UInt8))(P:List (PySem.Str×PySem.Str))(ev:List PySem.Str)(j:Nat)(n:PySem.Str):Prop:=
 ∃c row an st,cs[j]? =some c∧gs[j]? =some row∧QHr teA [.bytes row,.int coat] [] (.str an)∧QA1 n=true∧QA1 an=true∧st=(decide (os.length=3)||(decide (f>51)||decide (c.fmod 2=f.fdiv 26)))∧
  QIM (P.filter fun p=>QA3 p.1==QA3 n)=ev.map .str∧(an==n)=st∧QIM (P.filter fun p=>QA3 p.1==QA3 an)=(if st then ev else []).map .str
section
variable {prog:QV}{w:QX}{G:Gd prog w}{N:Nat}
variable {os cs:List Int}{coat f:Int}{ns:List PySem.Str}{gs:List (Array UInt8)}{P:List (PySem.Str×PySem.Str)}{al:List D}{ev:List PySem.Str}
theorem orV{x:Expr}{r:List Expr}{p:Pos}{a b:Bool}{ρ:PE}(h1:QAW G N x ρ (.bool a))(hr:r≠[])(h2:QAW G N (.BoolOp .Or r p) ρ (.bool b)):QAW G N (.BoolOp .Or (x::r) p) ρ (.bool (a||b)):=by
 intro A env g s Q E R V k
 cases r with
 |nil=>exact absurd rfl hr
 |cons y r=>
  show Qa _ A (do
   let v←eval x env
   standAt p
   let t←holding [v] (truthy v)
   match BoolOp.Or,t with
   | .And,false| .Or,true=>pure v
   |_,_=>boolOp p .Or (evalEach (y::r) env)) Q E s
  refine QB (h1 A env g s _ E R V fun g1 s1 v1 x1 d1=>?_)
  cases d1.out
  refine QB (wpAny_standAt (QB (QF (wpAny_truthy_bool ?_))))
  cases a with
  |true=>exact QC (k _ _ _ x1 (.bool _))
  |false=>exact h2 A env g1 s1 Q E R (V.up x1) fun g2 s2 v2 x2 d2=>k _ _ _ (x1.trans x2) d2
theorem orL{x:Expr}{p:Pos}{d:D}{ρ:PE}(h:QAW G N x ρ d):QAW G N (.BoolOp .Or [x] p) ρ d:=fun A env g s Q E R V k=>h A env g s Q E R V k
theorem QSL{t:Expr}{b:List Stmt}{σ:PS}:∀{ds:List D},(∀(j:Nat) d,ds[j]? =some d→∃bs ρ,QAe t d=some bs∧QCG G N b (σ.puts bs) (.next ρ)∧SLe σ ρ)→FLt G N t b ds σ (.next σ):=by
 intro ds
 induction ds with
 |nil=>exact fun _=> .nil .refl
 |cons d r ih=>
  intro h
  refine QBO (h 0 d rfl) fun bs ρ h1 h2 L=>?_
  exact .next h1 h2 ((ih fun j d e=>h (j+1) d e).inn L)
noncomputable def s42(os cs:List Int)(coat f:Int)(ns:List PySem.Str)(gs:List (Array UInt8))(P:List (PySem.Str×PySem.Str))(al:List D)(ev:List PySem.Str):PS:=
 l42 os cs coat f ns gs [(nm "table",.hdr (P.map prD)),(nm "alone",.hdr al),(nm "every",.list (ev.map .str))]
theorem QSy{l:List D}(h:l.length≤1000):dCall (nm "len") [.list l]=some (.int (l.length:Nat)):=(if_pos rfl).trans (if_pos h)
theorem QTp{l:List Int}(h:l.length≤1000):dCall (nm "len") [.list (l.map .int)]=some (.int (l.length:Nat)):=by
 have:=QSy (l:=l.map .int) (by rw [Qs];exact h)
 rw [Qs] at this;exact this
theorem eqd(a b:Int):QA8 .Eq (.int a) (.int b)=some (decide (a=b)):=by
 by_cases h:a=b
 ·rw [eq1 a b h,decide_eq_true h]
 ·rw [eq0 a b h,decide_eq_false h]
theorem eq3(n:Nat):QA8 .Eq (.int (n:Nat)) (.int 3)=some (decide (n=3)):=(eqd _ _).trans (congrArg some (decide_eq_decide.mpr Int.ofNat_inj))
theorem QSf{α:Type}{l:List α}{f:α→D}{j:Nat}{a:α}(h:l[j]? =some a)(hl:l.length≤1000):QBb (.list (l.map f)) (.int (j:Nat))=some (f a):=
 QGW (by rw [Qs];exact hl) (QAC _) (by rw [QAD,Q7,h];rfl)
theorem QRp(T:Ev G 16 F42 (fun _=>none))(X:(KF w.params).In G.h)(hcv:QBB G 11 316 QCc){j:Nat}{n:PySem.Str}(hcl:cs.length≤1000)(hgl:gs.length≤1000)(hol:os.length≤1000)(hf:0≤f∧f<64)(hP:QDr P)(hPl:P.length≤1000)(hr:QPH os cs coat f gs P ev j n):
  ∃ρ,QCG G 16 (lp (fnBody 42) 1).2 ((s42 os cs coat f ns gs P al ev).puts [(nm "at",.int (j:Nat)),(nm "name",.str n)]) (.next ρ)∧SLe (s42 os cs coat f ns gs P al ev) ρ:=by
 revert hr
 refine QID fun c row an st hc hg hw hn=>QEg fun ha hst h1 ζ11=>?_
 obtain ⟨h2,h3⟩:=ζ11
 have hcg:QBB G 16 354 (QGE P):=fun A g s vs kvs ds kds d Q E hs R=>QJj X hcv hP hPl A g s vs kvs ds kds d Q E hs (R.less (by decide))
 generalize hσ:(s42 os cs coat f ns gs P al ev).puts [(nm "at",.int (j:Nat)),(nm "name",.str n)]=σ
 have e1:∀p1 p2 p3 p4 p5 kk,QAW G 16 (.Compare (.Call (.Name (nm "len") p1) [.Name (nm "octets") p2] [] p3) [.Eq] [.Constant (.int 3) kk p4] p5) σ.ρ (.bool (decide (os.length=3))):=fun _ _ _ _ _ _=>hσ▸(evq T [.d (.int (os.length:Nat)),.b (decide (os.length=3))] (QAZ (ai (QTp hol)<|ai (eq3 os.length) (@rfl D (.bool (decide (os.length=3))))) (by kernel_rfl))).1
 have e2:∀p1 p2 p3 kk,QAW G 16 (.Compare (.Name (nm "last") p1) [.Gt] [.Constant (.int 51) kk p2] p3) σ.ρ (.bool (decide (f>51))):=fun _ _ _ _=>hσ▸(evq T [.b (decide (f>51))] (QAZ (ai (rfl (a:=some (decide (f>51)))) (@rfl D (.bool (decide (f>51))))) (by kernel_rfl))).1
 have e3:∀p1 p2 p3 p4 p5 p6 p7 p8 p9 k1 k2,QAW G 16 (.Compare (.BinOp (.Subscript (.Name (nm "choices") p1) (.Name (nm "at") p2) p3) .Mod (.Constant (.int 2) k1 p4) p5) [.Eq] [.BinOp (.Name (nm "last") p6) .FloorDiv (.Constant (.int 26) k2 p7) p8] p9) σ.ρ (.bool (decide (c.fmod 2=f.fdiv 26))):=fun _ _ _ _ _ _ _ _ _ _ _=>hσ▸(evq T [.d (.int c),.d (.int (c.fmod 2)),.d (.int (f.fdiv 26)),.b (decide (c.fmod 2=f.fdiv 26))] (QAZ (ai (QSf (f:= .int) hc hcl)<|ai (QDR c 2 (by decide))<|ai (QCz f 26 ⟨by decide,by decide,by decide⟩)<|ai (eqd (c.fmod 2) (f.fdiv 26)) (@rfl D (.bool (decide (c.fmod 2=f.fdiv 26))))) (by kernel_rfl))).1
 have e4:∀p1 p2 p3 p4 p5 p6,EvX G 16 (.Call (.Name (nm "_law_written") p1) [.Subscript (.Name (nm "got") p2) (.Name (nm "at") p3) p4,.Name (nm "coat") p5] [] p6) (σ.put (nm "stays") (.bool st)).ρ (.str an):=fun _ _ _ _ _ _=>hσ▸evq T [.d (.bytes row),.d (.str an)] (QAZ (ai (QSf (f:= .bytes) hg hgl)<|ai hw (@rfl D (.str an))) (by kernel_rfl))
 have e5:∀p1 p2 p3 p4,QAW G 16 (.IfExp (.Name (nm "stays") p1) (.Name (nm "every") p2) (.List [] p3) p4) ((σ.put (nm "stays") (.bool st)).put (nm "anew") (.str an)).ρ (.list ((if st then ev else []).map .str)):=fun _ _ _ _=>by
  rw [←hσ]
  cases st
  ·exact (evq T [] (QAZ (@rfl D (.list [])) (by kernel_rfl))).1
  ·exact (evq T [] (QAZ (@rfl D (.list (ev.map .str))) (by kernel_rfl))).1
 have q1:QGE P [.hdr (P.map prD),.str n] [] (.list (ev.map .str)):=⟨n,rfl,rfl,hn,by rw [h1]⟩
 have q2:QGE P [.hdr (P.map prD),.str an] [] (.list ((if st then ev else []).map .str)):=⟨an,rfl,rfl,ha,by rw [h3]⟩
 have qs:QA8 .NotEq (.bool (an==n)) (.bool st)=some false:=by rw [h2];cases st<;>rfl
 have k1:storable σ (nm "stays")=true:=hσ▸by kernel_rfl
 have L:SLe (s42 os cs coat f ns gs P al ev) ((σ.put (nm "stays") (.bool st)).put (nm "anew") (.str an)):=hσ▸ .by_ (by kernel_rfl)
 have k2:storable (σ.put (nm "stays") (.bool st)) (nm "anew")=true:=hσ▸by kernel_rfl
 have nv:∀x v,(if ((σ.put (nm "stays") (.bool st)).put (nm "anew") (.str an)).ρ.kind x=some .globalImplicit then none else ((σ.put (nm "stays") (.bool st)).put (nm "anew") (.str an)).ρ.get x)=some v→plainName x=true→∀p,QAW G 16 (.Name x p) ((σ.put (nm "stays") (.bool st)).put (nm "anew") (.str an)).ρ v:=fun x v h hp p=>QIy hp h
 have n1:=nv (nm "name") (.str n) (hσ▸by kernel_rfl) (by decide)
 have n2:=nv (nm "anew") (.str an) (hσ▸by kernel_rfl) (by decide)
 have n3:=nv (nm "stays") (.bool st) (hσ▸by kernel_rfl) (by decide)
 have n4:=nv (nm "every") (.list (ev.map .str)) (hσ▸by kernel_rfl) (by decide)
 have gt:((σ.put (nm "stays") (.bool st)).put (nm "anew") (.str an)).ρ.get (nm "table")=some (.hdr (P.map prD)):=hσ▸by kernel_rfl
 clear hσ nv
 refine ⟨_,QBZ (QCJ k1 rfl (.of rfl (hst▸orV (e1 _ _ _ _ _ _) (List.cons_ne_nil _ _) (orV (e2 _ _ _ _) (List.cons_ne_nil _ _) (orL (e3 _ _ _ _ _ _ _ _ _ _ _)))))) (QBZ (QCJ k2 rfl (e4 _ _ _ _ _ _)) (QBZ (QI5 (c:=false) (or3
  (QRS rfl (QJo X hcg (fd:=fd354) (by kernel_rfl) (by kernel_rfl) (by kernel_rfl) (by decide) (by decide) gt (n1 _) rfl (fun env=>⟨_,rfl⟩) q1) (n4 _) QMP (by decide))
  (QRS rfl (QK9 (bi_not rfl) (n2 _) (n1 _) (rfl:QA8 .Eq (.str an) (.str n)=some (an==n)) (by decide)) (n3 _) qs (by decide))
  (QRS rfl (QJo X hcg (fd:=fd354) (by kernel_rfl) (by kernel_rfl) (by kernel_rfl) (by decide) (by decide) gt (n2 _) rfl (fun env=>⟨_,rfl⟩) q2) (e5 _ _ _ _) QMP (by decide))) QEu) QEu)),L⟩
end
theorem QD8{l:List D}{d:D}(h:l.length≤1000)(hl:l.getLast? =some d):QBb (.list l) (.int (-1))=some d:=by
 have h0:l≠[]:=by rintro rfl;cases hl
 have hpos:=List.length_pos_iff.mpr h0
 have hp:place l.length (-1)=some (l.length-1):=by
  unfold place;rw [if_neg (by decide),if_pos (by exact zi1 [_] 1 (.n 0) (.a (.g (.n 1)) (.v 0)) 1 (.a (.n 0) (.n 1)) (.v 0) rfl (QAL.mpr hpos))]
  obtain ⟨k,hk⟩:=Nat.exists_eq_succ_of_ne_zero (Nat.ne_of_gt hpos)
  rw [hk,Int.natCast_succ,Int.add_comm,Int.add_neg_cancel_right];rfl
 show (if l.length≤1000 then (match place l.length (-1) with
  |some k=>l[k]?
  |none=>none) else none)=_
 rw [if_pos h,hp];dsimp only;rw [←List.getLast?_eq_getElem?];exact hl
noncomputable def QAv(ns:List PySem.Str):List (PySem.Str×PySem.Str):=ns.mapIdx fun j n=>(n,strN j)
theorem QIS{ns:List PySem.Str}{i:Nat}{n:PySem.Str}(h:ns[i]? =some n):(QAv ns)[i]? =some (n,strN i):=by
 unfold QAv;rw [List.getElem?_mapIdx,h];rfl
theorem QLi{ns:List PySem.Str}{i:Nat}{n:PySem.Str}(h:ns[i]? =some n):(QAv ns).take (i+1)=(QAv ns).take i++[(n,strN i)]:=by
 rw [List.take_add_one,QIS h];rfl
theorem QDT{ns:List PySem.Str}{p:PySem.Str×PySem.Str}(h:p∈QAv ns):p.1∈ns:=by
 refine oE (List.getElem?_of_mem h) fun i hi=>?_
 unfold QAv at hi
 rw [List.getElem?_mapIdx] at hi
 cases q:ns[i]? with
 |none=>rw [q] at hi;cases hi
 |some n=>rw [q] at hi;cases hi;exact List.mem_of_getElem? q
noncomputable def evN(n:Nat):List PySem.Str:=(List.range n).map strN
section
variable {prog:QV}{w:QX}{G:Gd prog w}{N:Nat}
variable {os cs:List Int}{coat f:Int}{ns:List PySem.Str}{gs:List (Array UInt8)}{P:List (PySem.Str×PySem.Str)}{al:List D}{ev:List PySem.Str}
theorem c42(T:Ev G 16 F42 (fun _=>none)){n:Nat}(hn:n≤16):CLt G 16 (cp (fnBody 42) 0).t (cp (fnBody 42) 0).ifs (cp (fnBody 42) 0).e (cp (fnBody 42) 0).sc ⟨QAa 42,[]⟩ (QCA 0 ((n:Nat):Int).toNat) ((evN n).map .str):=by
 rw [QAD,QIq,evN,Q3]
 exact QCV T (bs:=fun j=>[(nm "at",.int (j:Nat))]) (fun j=>[.d (.str (strN j))]) (List.range n) fun j hj=>⟨rfl,QAZ (ai (QQ3 (i:=(j:Nat)) ⟨QAC _,QAL.mpr (Qp (List.mem_range.mp hj) (Qd hn (by decide)))⟩) (@rfl D (.str (strN j)))) (by kernel_rfl)⟩
theorem QSS(T:Ev G 16 F42 (fun _=>none))(X:(KF w.params).In G.h)(hcv:QBB G 11 316 QCc)(hnl:ns.length≤16)(hcl:cs.length≤1000)(hgl:gs.length≤1000)(hol:os.length≤1000)(hf:0≤f∧f<64)(hP:QDr P)(hPl:P.length≤1000)(hrow:∀j n,ns[j]? =some n→QPH os cs coat f gs P (evN ns.length) j n)
  {nl:PySem.Str} (hl:ns.getLast? =some nl):QCG G 16 ((fnBody 42).drop 4) (l42 os cs coat f ns gs [(nm "table",.hdr (P.map prD)),(nm "alone",.hdr [prD (nl,strN (ns.length-1))])]) (.ret (.bool true)):=by
 have ln:(ns.map D.str).length≤1000:=by rw [Qs];exact Qd hnl (by decide)
 have le:dCall (nm "len") [.list (ns.map .str)]=some (.int (ns.length:Nat)):=by have:=QSy ln;rw [Qs] at this;exact this
 have hb:(-1000:Int)≤(ns.length:Nat)∧((ns.length:Nat):Int)≤1000:=⟨QAJ (by decide:(-1000:Int)≤0) (QAC _),QAE.mpr (Qd hnl (by decide))⟩
 have hci:QBB G 16 379 QO1:=fun A g s vs kvs ds kds d Q E hs R=>QLX X A g s vs kvs ds kds d Q E hs (R.less (by decide))
 refine QBZ (QCJ (d:= .list ((evN ns.length).map .str)) (by kernel_rfl) rfl (evq T [.d (.int (ns.length:Nat)),.s ⟨⟨QAa 42,[]⟩,[]⟩,.l ((evN ns.length).map .str)] (QAZ (ai le<|ai hb<|ai (oke ⟨⟨QAa 42,[]⟩,[]⟩)<|ai (c42 T hnl) (@rfl D (.list ((evN ns.length).map .str)))) (by kernel_rfl)))) ?_
 have L:SLe (s42 os cs coat f ns gs P [prD (nl,strN (ns.length-1))] (evN ns.length)) ((l42 os cs coat f ns gs [(nm "table",.hdr (P.map prD)),(nm "alone",.hdr [prD (nl,strN (ns.length-1))])]).put (nm "every") (.list ((evN ns.length).map .str))):= .by_ (by kernel_rfl)
 have fl:FLt G 16 (lp (fnBody 42) 1).1 (lp (fnBody 42) 1).2 (QCR 0 (ns.map .str)) (s42 os cs coat f ns gs P [prD (nl,strN (ns.length-1))] (evN ns.length)) (.next (s42 os cs coat f ns gs P [prD (nl,strN (ns.length-1))] (evN ns.length))):=QSL fun j d hd=>by
  have hj:j<ns.length:=by have:=(List.getElem?_eq_some_iff.mp hd).1;rw [QDM,Qs] at this;exact this
  have hn:=List.getElem?_eq_getElem hj
  rw [QEH (d:= .str ns[j]) (by rw [Q7,hn];rfl),Int.zero_add] at hd
  cases hd
  obtain ⟨ρ,h1,h2⟩:=QRp T X hcv hcl hgl hol hf hP hPl (hrow j _ hn)
  exact ⟨[(nm "at",.int (j:Nat)),(nm "name",.str ns[j])],ρ,by kernel_rfl,h1,h2⟩
 have hn0:0<ns.length:=List.length_pos_iff.mpr (fun e=>by rw [e] at hl;exact QAV hl)
 have hv:(evN ns.length).getLast? =some (strN (ns.length-1)):=by
  have e:(evN ns.length).length=ns.length:=by rw [evN,Qs,List.length_range]
  rw [List.getLast?_eq_getElem?,e,evN,Q7,List.getElem?_range (Nat.sub_lt hn0 Nat.one_pos)];rfl
 have i1:QBb (.list (ns.map .str)) (.int (-1))=some (.str nl):=QD8 ln (by rw [List.getLast?_map,hl];rfl)
 have i2:QBb (.list ((evN ns.length).map .str)) (.int (-1))=some (.str (strN (ns.length-1))):=QD8 (by rw [Qs,evN,Qs,List.length_range];exact Qd hnl (by decide)) (by rw [List.getLast?_map,hv];rfl)
 refine .inn L (QBZ (QMR (by kernel_rfl) (QIs (xs:=ns.map .str) (by decide) (by kernel_rfl) (by decide) (by kernel_rfl) rfl (QIy (by decide) (by kernel_rfl))) (fun _ _=>rfl) fl) (QFK (QE4 (QK9 (a:= .list [prD (nl,strN (ns.length-1))]) (bi_not rfl) (QPc X hci (fd:=fd379) (by kernel_rfl) (by kernel_rfl) (by kernel_rfl) (by decide) (by decide) (by kernel_rfl) (fun env=>⟨_,rfl⟩) ⟨_,rfl,rfl,by show 1≤1000;decide,rfl⟩)
  (evq T [.d (.str nl),.d (.str (strN (ns.length-1)))] (QAZ (ai i1<|ai i2 (@rfl D (.list [.tup [.str nl,.str (strN (ns.length-1))]]))) (by kernel_rfl))).1 QQF (by decide)))))
end
section
variable {prog:QV}{w:QX}{G:Gd prog w}{N:Nat}
variable {A:QT}{g₀:Fz}{s₀:QR}{env:Env}{σ:PS}{oa:Str→QW}{g:Fz}{s:QR}{E:QS→QR→Prop}
theorem HS.freeze{a L:QW}{xs:List D}{t:Str}(H:HS G A g₀ s₀ env σ oa g s a L xs)(gt:σ.ρ.get t=some (.obj a))(ho:∀y,σ.os.lookup y=none):∃g',FLe g g'∧Sv G A g₀ s₀ env (σ.put t (.hdr xs)) oa g' s∧∀b,b≠L→g' b=g b:=by
 refine oEA H.pl fun vs ζ1 hd=>?_
 obtain ⟨n,hol⟩:=ζ1
 have addle:FLe g (g.add L {cls:= .type "list",data:= .seq vs n}):=Fz.add_le H.o.fz
 have inn':FIn (g.add L {cls:= .type "list",data:= .seq vs n}) s.heap:=by
  intro b o e
  unfold Fz.add at e
  by_cases q:b=L
  ·subst q;rw [if_pos rfl] at e;cases e;exact ⟨_,hol,.rfl'⟩
  ·rw [if_neg q] at e;exact H.S.vw.inn b o e
 have addne:∀b,b≠L→(g.add L {cls:= .type "list",data:= .seq vs n}) b=g b:=fun b q=>by unfold Fz.add;rw [if_neg q]
 have nl:env.locals≠L:=fun e=>H.o.lo (.inl e.symm)
 refine ⟨_,addle,?_,addne⟩
 refine {ext:=?_,vw:=?_,locg:=by rw [addne _ nl];exact H.S.locg,loc0:=H.S.loc0,ns:=H.S.ns,cell:=?_,apart:=H.S.apart,own:=?_,ownA:=?_}
 ·refine ⟨H.S.ext.heap,H.S.ext.le.trans addle,inn',fun b o e=>?_,H.S.ext.same⟩
  by_cases q:b=L
  ·subst q;exact .inr H.o.old
  ·rw [addne _ q] at e;exact H.S.ext.new b o e
 ·refine {kind:=H.S.vw.kind,sc:=H.S.vw.sc,glo:=H.S.vw.glo,bui:=H.S.vw.bui,vars:=?_,cel:=H.S.vw.cel,inn:=inn',base:=H.S.vw.base.trans addle,fr:=H.S.vw.fr}
  intro y dy hy
  rw [QCi] at hy
  by_cases q:y=t
  ·rw [if_pos q] at hy;cases hy
   subst q
   refine oEA (H.S.vw.vars _ _ gt) fun v dv hc=>?_
   cases dv
   exact ⟨.ref a,.hdr (H.hi.mono addle) (.list (Fz.add_self _ _ _) ⟨rfl,rfl,rfl⟩ rfl (hd.mono addle)),hc⟩
  ·rw [if_neg q] at hy
   exact (H.S.vw.vars y dy hy).up addle (.refl _)
 ·intro y c hc
  refine QEV (H.S.cell y c hc) fun h1 h2 u h3=>?_
  refine ⟨?_,h2,u,h3⟩
  rw [addne _ (fun e=>H.o.lo (.inr (.inl ⟨y,by rw [hc,e]⟩)))];exact h1
 ·intro y dy hy
  have:=(QBa hy).2
  rw [ho y] at this;cases this
 ·intro y z dy dz hy hz e
  have:=(QBa hy).2
  rw [ho y] at this;cases this
theorem QOD(X:(KF w.params).In G.h):QGl G 415:=by
 intro h x
 obtain ⟨k,h1,h2⟩:=looks_keep (M:=model prog w) (K:=KF w.params) (f:= .ref 415) (h:=h) (by kernel_rfl) (fun a o e=>by
  refine oEA (x a o (X a o e)) fun o' e' s=>?_
  rw [s.low (QG7 _ _ _ e)] at e';exact e')
 exact ⟨k,h1.elim .inl fun e=> .inr (.inl e),h2⟩
theorem QOh(X:(KF w.params).In G.h)(hC:COk G C7)(hH:G.mg (Qc "Headers")=some (.ref 415))(R:Rm A 16)(kH:σ.ρ.kind (Qc "Headers")=some .globalImplicit)(S:Sv G A g₀ s₀ env σ oa g s){x:Str}{p1 p2 p3 pos:Pos}{Q:Flow→QR→Prop}(hk:σ.ρ.kind x=some .local)
  (k:∀g' s' a L,HS G A g₀ s₀ env (σ.put x (.obj a)) oa g' s' a L []→Mv env σ oa (σ.put x (.obj a)) oa g s g' s'→s.heap.get? L=none→Q .next s'):
  Qa (model prog w) A (exec (.Assign [.Name x p1] (.Call (.Name (Qc "Headers") p2) [] [] p3) pos) env) Q E s:=by
 refine wpAny_Assign_Name (wpAny_Call_Name_kw (QM (QAw S.vw kH (.inl hH) ?_) (by decide))) (QA6 rfl rfl _ _ _)
 refine callWith_of (P:=fun h=>HLe G.h h) (first:=[]) (QCo rfl rfl) (QOD X) (QBo rfl rfl (QK (wpAny_evalAll_nil ⟨S.vw.hle,?_⟩)))
 refine QOc X hC (R.less (by decide)) S.vw.fr S.vw.inn S.vw.base fun g1 s1 a L x1 sL gL hi hP=>?_
 have S1:=S.up x1
 have o0:=S.offNew sL
 have H1:HS G A g₀ s₀ env σ oa g1 s1 a L []:=⟨S1,⟨o0.lo,gL,o0.old⟩,hi,#[],hP,.nil⟩
 exact S1.store (by unfold storable;rw [hk];rfl) (.obj a) fun h' tk S' M'=>k _ _ a L (H1.mv S' M') ((Mv.ofExt x1).trans M') sL
end
section
variable {prog:QV}{w:QX}{G:Gd prog w}{N:Nat}
variable {A:QT}{g₀:Fz}{s₀:QR}{env:Env}{σ τ:PS}{oa:Str→QW}{g:Fz}{s:QR}{E:QS→QR→Prop}
variable {os cs:List Int}{coat f:Int}{ns:List PySem.Str}{gs:List (Array UInt8)}{a L b M:QW}{xs ys:List D}
theorem HS.weak(l:SLe τ σ)(H:HS G A g₀ s₀ env σ oa g s a L xs):HS G A g₀ s₀ env τ oa g s a L xs:=⟨H.S.weak l,H.o.weak l,H.hi,H.pl⟩
theorem HS2.weak(l:SLe τ σ)(H:HS2 G A g₀ s₀ env σ oa g s a L xs b M ys):HS2 G A g₀ s₀ env τ oa g s a L xs b M ys:=⟨H.one.weak l,H.two.weak l,H.ne⟩
noncomputable def t42(os cs:List Int)(coat f:Int)(ns:List PySem.Str)(gs:List (Array UInt8))(a b:QW):PS:=l42 os cs coat f ns gs [(nm "table",.obj a),(nm "alone",.obj b)]
theorem HS.bound(H:HS G A g₀ s₀ env σ oa g s a L xs){dbs:List (Str×D)}{h₂:Heap}{tk₂:Nat}{wr:List QW}(ho:(σ.puts dbs).os=[])(S₂:Sv G A g₀ s₀ env (σ.puts dbs) oa g {s with heap:=h₂,toks:=tk₂})(hw:L∉wr)(kp:∀b o,b≠env.locals→b∉wr→s.heap.get? b=some o→h₂.get? b=some o):
  HS G A g₀ s₀ env (σ.puts dbs) oa g {s with heap:=h₂,toks:=tk₂} a L xs:=by
 refine oEA H.pl fun v ζ1 d=>?_
 obtain ⟨n,e⟩:=ζ1
 refine ⟨S₂,⟨?_,H.o.fz,H.o.old⟩,H.hi,v,⟨n,kp _ _ (fun q=>H.o.lo (.inl q)) hw e⟩,d⟩
 rintro (q|q|⟨y,dy,hy,_⟩)
 ·exact H.o.lo (.inl q)
 ·exact H.o.lo (.inr (.inl q))
 ·rw [ho] at hy;cases hy
theorem QRe(X:(KF w.params).In G.h)(hcv:QBB G 11 316 QCc)(R:Rm A 16){pf px pc pos:Pos}{Q:Flow→QR→Prop}(H:HS2 G A g₀ s₀ env (t42 os cs coat f ns gs a b) oa g s a L [] b M [])(hl:ns.length≤16)(hf:∀n∈ns,QA1 n=true)(hall:∀m∈ns,∀n∈ns,QA3 m=QA3 n)
  (k:∀g' s',HS2 G A g₀ s₀ env (t42 os cs coat f ns gs a b) oa g' s' a L ((QAv ns).map prD) b M ((QAv ns).getLast?.toList.map prD)→Q .next s'):
  Qa (model prog w) A (exec (.For (lp (fnBody 42) 0).1 (.Call (.Name (nm "enumerate") pf) [.Name (nm "names") px] [] pc) (lp (fnBody 42) 0).2 [] pos) env) Q E s:=by
 refine wpAny_For (QIs (N:=16) (target:=(lp (fnBody 42) 0).1) (xs:=ns.map .str) (by decide) (by kernel_rfl) (by decide) (by kernel_rfl) rfl (QIy (by decide) (by kernel_rfl)) A env g s _ _ R H.one.S.vw fun g1 s1 I fp wr Bd St x1 W=>?_) (fun _=>rfl)
 have H1:=H.up x1
 have hlen:(QCR 0 (ns.map D.str)).length=ns.length:=by rw [QDM,Qs]
 have fP:QDr (QAv ns):=fun q hq=>hf _ (QDT hq)
 have offW:∀{c:QW} {o:Obj},s.heap.get? c=some o→c∉wr:=fun h hm=>by rw [(W.off _ hm).2] at h;cases h
 refine oEA H.one.pl fun vl ζ1 _=>?_
 obtain ⟨nl,hol⟩:=ζ1
 refine oEA H.two.pl fun vm ζ1 _=>?_
 obtain ⟨nm',hom⟩:=ζ1
 have hLw:=offW hol
 have hMw:=offW hom
 refine QTo (ds:=QCR 0 (ns.map D.str)) (fun i g' s'=>HS2 G A g₀ s₀ env (t42 os cs coat f ns gs a b) oa g' s' a L (((QAv ns).take i).map prD) b M (((QAv ns).take i).getLast?.toList.map prD)) H.one.S W (by kernel_rfl) (fun i g' s' h=>h.one.S) H1 ?_ ?_ ?_
 ·intro y hy
  have:(targetNames (lp (fnBody 42) 0).1).all (fun y=>decide ((t42 os cs coat f ns gs a b).ρ.kind y=some .local))=true:=by kernel_rfl
  exact of_decide_eq_true (List.all_eq_true.mp this y hy)
 ·intro i d dbs g' s' h₂ tk₂ hi lg hI hd hbt S₂ hk₂ Q' E' kf
  rw [hlen] at hi
  have hn:ns[i]? =some ns[i]:=List.getElem?_eq_getElem hi
  rw [QEH (d:= .str ns[i]) (by rw [Q7,hn];rfl),Int.zero_add] at hd
  cases hd
  have hbt':QAe (lp (fnBody 42) 0).1 (.tup [.int (i:Nat),.str ns[i]])=some [(nm "at",.int (i:Nat)),(nm "name",.str ns[i])]:=by kernel_rfl
  cases hbt'.symm.trans hbt
  have hlast:∀q∈((QAv ns).take i).getLast?.toList,q∈QAv ns:=fun q hq=>by
   cases e:((QAv ns).take i).getLast? with
   |none=>rw [e] at hq;cases hq
   |some r=>
    rw [e] at hq
    rw [Qy.mp hq]
    exact List.mem_of_mem_take (List.mem_of_getLast? e)
  have lt:∀{l:List (PySem.Str×PySem.Str)},(l.getLast?.toList).length≤1000:=fun {l}=>by cases l.getLast? with
   |none=>exact Ql _
   |some r=>show 1≤1000;decide
  refine QRk X hcv R (ps:=((QAv ns).take i).getLast?.toList) (n:=ns[i]) (j:=i) rfl ⟨hI.one.bound (by kernel_rfl) S₂ hLw hk₂,hI.two.bound (by kernel_rfl) S₂ hMw hk₂,hI.ne⟩ (Qp hi hl) ?_ (hf _ (List.getElem_mem _)) (fun q hq=>fP q (hlast q hq)) lt
   (fun q hq=>hall _ (QDT (hlast q hq)) _ (List.getElem_mem _)) fun g3 s3 H3 le3 kw=>?_
  ·rw [Qs,List.length_take];exact Qd (Nat.min_le_left _ _) (Qd (Qo hi) (Qd hl (by decide)))
  ·refine kf g3 s3 ?_ le3 fun c hc o ho nd gc=>kw c o ho nd (fun e=>hLw (e▸hc)) (fun e=>hMw (e▸hc)) gc
   rw [QLi hn,Qv,List.getLast?_append]
   exact H3.weak (.by_ (by kernel_rfl))
 ·intro g' s' h₂ tk₂ hI lg S2 kp
  have hPl:(QAv ns).length=ns.length:=by unfold QAv;rw [List.length_mapIdx]
  rw [hlen,Q6 (Qe hPl)] at hI
  exact k g' _ ⟨hI.one.bound (dbs:=[]) (by kernel_rfl) S2 hLw fun c o _ hw e=>kp c o hw e,hI.two.bound (dbs:=[]) (by kernel_rfl) S2 hMw fun c o _ hw e=>kp c o hw e,hI.ne⟩
end
theorem QGS{ns:List PySem.Str}:QIM (QAv ns)=(evN ns.length).map .str:=by
 unfold QIM QAv evN
 refine List.ext_getElem? fun i=>?_
 rw [Q7,List.getElem?_mapIdx,Q7,Q7]
 by_cases h:i<ns.length
 ·rw [List.getElem?_eq_getElem h,List.getElem?_range h];rfl
 ·rw [List.getElem?_eq_none (by exact zn1 [_,_] 1 (.v 0) (.v 1) 1 (.v 0) (.v 1) rfl (Nat.le_of_not_lt h)),List.getElem?_eq_none (by simp;exact zn1 [_,_] 1 (.v 0) (.v 1) 1 (.v 0) (.v 1) rfl (Nat.le_of_not_lt h))];rfl
theorem filter_all{ns:List PySem.Str}{n:PySem.Str}(h:∀m∈ns,QA3 m=QA3 n):((QAv ns).filter fun p=>QA3 p.1==QA3 n)=QAv ns:=
 List.filter_eq_self.mpr fun p hp=>by rw [h _ (QDT hp)];simp
theorem QM6{ns:List PySem.Str}{n:PySem.Str}(h:∀m∈ns,QA3 m≠QA3 n):((QAv ns).filter fun p=>QA3 p.1==QA3 n)=[]:=
 List.filter_eq_nil_iff.mpr fun p hp=>by have:=h _ (QDT hp);simpa using this
theorem QQU{m:Nat}(h:LOk m):1≤QCF m∧QCF m≤5:=by rcases h with rfl|rfl|rfl|rfl|rfl<;>decide
theorem QMZ{n:Nat}(h:n≤5):QAs n≤100:=Qd (Nat.div_le_div_right (Nat.add_le_add_right (Nat.mul_le_mul_left 4 h) 2)) (by decide)
theorem QKs{n:Nat}(h:1≤n):0<QAs n:=Nat.div_pos (Qd (by decide) (Nat.add_le_add_right (Nat.mul_le_mul_left 4 h) 2)) (by decide)
theorem QQI{os cs:List Int}{coat f:Int}(hc:coat=0∨coat=1)(h1:1≤os.length)(h2:os.length≤5)(ho:∀o∈os,0≤o∧o<256)(hf:(QAX os).getLast? =some f):
  ∀j n,(cs.map (QA4 (QAX os) coat))[j]? =some n→QPH os cs coat f (cs.map (QAz (QAX os))) (QAv (cs.map (QA4 (QAX os) coat))) (evN (cs.map (QA4 (QAX os) coat)).length) j n:=by
 intro j n hn
 rw [Q7] at hn
 cases hcj:cs[j]? with
 |none=>rw [hcj] at hn;cases hn
 |some c=>
  rw [hcj] at hn
  cases hn
  have hfo:∀g∈QAX os,0≤g∧g<64:=QBX
  have hL:LOk (QAX os).length:=by rw [QBc];exact QCy h1 h2
  refine QEf (QKL (c:=c) hc h1 h2 ho) fun f' hf' _ _ hlaw=>?_
  rw [hf] at hf';cases hf'
  have hol:1≤(QBI (QA2 (QAX os) c)).length∧(QBI (QA2 (QAX os) c)).length≤5:=by
   rw [QHH,QBN];exact QQU hL
  have hw:asc (encOf teA coat (QAz (QAX os) c))=QBF (QAX (QBI (QA2 (QAX os) c))) coat:=by
   skip
   rcases hc with rfl|rfl
   ·exact QKd hol.1 hol.2 QFd
   ·exact QKe hol.1 hol.2 QFd
  have hfl:(QAX (QBI (QA2 (QAX os) c))).length≤100:=by rw [QBc];exact QMZ hol.2
  have hsW:QHr teA [.bytes (QAz (QAX os) c),.int coat] [] (.str (QBF (QAX (QBI (QA2 (QAX os) c))) coat)):=by
   have hcod:(encOf teA coat (QAz (QAX os) c)).toList.map (fun x=>x.toNat)=codes (QAX (QBI (QA2 (QAX os) c))) coat:=by
    rw [←QBV,←hw]
    unfold asc
    rw [Array.toList_map]
   have hlt:∀x∈(encOf teA coat (QAz (QAX os) c)).toList,x.toNat<128:=fun x hx=>by
    have:x.toNat∈codes (QAX (QBI (QA2 (QAX os) c))) coat:=by rw [←hcod];exact Qw.mpr ⟨x,hx,rfl⟩
    exact QJI hc QBX _ this
   have hpos:0<(encOf teA coat (QAz (QAX os) c)).size:=by
    have e:=congrArg List.length hcod
    rw [Qs,Array.length_toList] at e
    rw [e]
    unfold codes
    rw [Qu,Qs,QBc]
    exact Qp (QKs hol.1) (Qg _ _)
   have hsz:(QAz (QAX os) c).size≤100:=by
    show (toB (QBI (QA2 (QAX os) c))).size≤100
    unfold toB
    simp
    exact zn1 [_] 1 (.v 0) (.n 100) 1 (.v 0) (.n 5) rfl hol.2
   exact ⟨_,_,rfl,rfl,hsz,hpos,List.all_eq_true.mpr fun x hx=>decide_eq_true (hlt x hx),by rw [hw]⟩
  have hfair:QA1 (QA4 (QAX os) coat c)=true:=QFR hc (QBA hfo) (by rw [QBN];have:=QDv hL;exact zn1 [_] 1 (.v 0) (.n 100) 1 (.v 0) (.n 7) rfl this.1)
  have hall:∀m∈cs.map (QA4 (QAX os) coat),QA3 m=QA3 (QA4 (QAX os) coat c):=fun m hm=>by
   refine oEA (Qw.mp hm) fun d _ ζ2=>?_
   subst ζ2
   exact QH0 hc hfo
  refine ⟨c,QAz (QAX os) c,_,_,hcj,by rw [Q7,hcj];rfl,hsW,hfair,QFR hc QBX hfl,rfl,?_,?_,?_⟩
  ·rw [filter_all hall,QGS]
  ·by_cases q:os.length=3∨f>51∨c.fmod 2=f.fdiv 26
   ·rw [if_pos q] at hlaw
    have e:(decide (os.length=3)||(decide (f>51)||decide (c.fmod 2=f.fdiv 26)))=true:=by simpa using q
    rw [e,hlaw];simp
   ·rw [if_neg q] at hlaw
    have e:(decide (os.length=3)||(decide (f>51)||decide (c.fmod 2=f.fdiv 26)))=false:=by
     rw [Bool.eq_false_iff];intro h;exact q (by simpa using h)
    rw [e]
    have:QBF (QAX (QBI (QA2 (QAX os) c))) coat≠QA4 (QAX os) coat c:=fun h=>hlaw c (by rw [h])
    simpa using this
  ·by_cases q:os.length=3∨f>51∨c.fmod 2=f.fdiv 26
   ·rw [if_pos q] at hlaw
    have e:(decide (os.length=3)||(decide (f>51)||decide (c.fmod 2=f.fdiv 26)))=true:=by simpa using q
    rw [e,hlaw,filter_all hall,QGS];rfl
   ·rw [if_neg q] at hlaw
    have e:(decide (os.length=3)||(decide (f>51)||decide (c.fmod 2=f.fdiv 26)))=false:=by
     rw [Bool.eq_false_iff];intro h;exact q (by simpa using h)
    rw [e,QM6 fun m hm=>?_]
    ·rfl
    ·refine oEA (Qw.mp hm) fun d _ ζ2=>?_
     subst ζ2
     exact fun h=>hlaw d h.symm
section
variable {prog:QV}{w:QX}{G:Gd prog w}
theorem QNk(X:(KF w.params).In G.h)(hcv:QBB G 11 316 QCc)(hF:FOk G 16 F42)(hC:COk G C7)(hH:G.mg (Qc "Headers")=some (.ref 415)){os cs:List Int}{coat:Int}(hc:coat=0∨coat=1)(h1:1≤os.length)(h2:os.length≤5)(ho:∀o∈os,0≤o∧o<256)(h0:cs≠[])(hcl:cs.length≤16):
  QAu G 16 (QAa 42) (fnBody 42) [(Qc "octets",.list (os.map .int)),(Qc "coat",.int coat),(Qc "choices",.list (cs.map .int)),(Qc "names",.list (cs.map fun c=> .str (QA4 (QAX os) coat c))),(Qc "got",.list (cs.map fun c=> .bytes (QAz (QAX os) c)))] (.bool true):=by
 have em:(cs.map fun c=>D.str (QA4 (QAX os) coat c))=(cs.map (QA4 (QAX os) coat)).map .str:=by rw [Q3];rfl
 have eg:(cs.map fun c=>D.bytes (QAz (QAX os) c))=(cs.map (QAz (QAX os))).map .bytes:=by rw [Q3];rfl
 rw [em,eg]
 refine QEf (QKL (c:=0) hc h1 h2 ho) fun f hfl hf0 hf64 _=>?_
 have hrow:=QQI (cs:=cs) hc h1 h2 ho hfl
 have hfo:∀g∈QAX os,0≤g∧g<64:=QBX
 have hLk:LOk (QAX os).length:=by rw [QBc];exact QCy h1 h2
 have hfair:∀n∈cs.map (QA4 (QAX os) coat),QA1 n=true:=fun n hn=>by
  refine oEA (Qw.mp hn) fun c _ ζ2=>?_
  subst ζ2
  exact QFR hc (QBA hfo) (by rw [QBN];have:=QDv hLk;exact zn1 [_] 1 (.v 0) (.n 100) 1 (.v 0) (.n 7) rfl this.1)
 have hall:∀m∈cs.map (QA4 (QAX os) coat),∀n∈cs.map (QA4 (QAX os) coat),QA3 m=QA3 n:=fun m hm n hn=>by
  refine oEA (Qw.mp hm) fun c _ ζ2=>?_
  subst ζ2
  refine oEA (Qw.mp hn) fun d _ ζ2=>?_
  subst ζ2
  exact QH0 hc hfo
 have hnl:(cs.map (QA4 (QAX os) coat)).length≤16:=by rw [Qs];exact hcl
 have hn0:cs.map (QA4 (QAX os) coat)≠[]:=fun h=>h0 (List.map_eq_nil_iff.mp h)
 have hgl:(cs.map (QAz (QAX os))).length≤1000:=by rw [Qs];exact zn1 [_] 1 (.v 0) (.n 1000) 1 (.v 0) (.n 16) rfl hcl
 generalize cs.map (QA4 (QAX os) coat)=ns at*
 generalize cs.map (QAz (QAX os))=gs at*
 clear em eg
 have T:Ev G 16 F42 (fun _=>none):=⟨hF,(fun _ _ h=>nomatch h),by decide⟩
 obtain ⟨nl,hnl'⟩:∃nl,ns.getLast? =some nl:=⟨_,List.getLast?_eq_some_getLast hn0⟩
 have hPl:(QAv ns).length=ns.length:=by unfold QAv;rw [List.length_mapIdx]
 have el:(QAv ns).getLast? =some (nl,strN (ns.length-1)):=by
  rw [List.getLast?_eq_getElem?,hPl]
  exact QIS (by rw [←List.getLast?_eq_getElem?];exact hnl')
 have hfi:QBb (.list ((QAX os).map D.int)) (.int (-1))=some (.int f):=QD8 (by rw [Qs];exact Qd (QDv hLk).1 (by decide)) (by rw [List.getLast?_map,hfl];rfl)
 intro A env g₀ s₀ s Q E R hfm hfr S k
 refine QD (QFH (d:= .int f) (by kernel_rfl) rfl (evq T [.d (.list ((QAX os).map .int)),.d (.int f)] (QAZ (ai (⟨os,rfl,rfl,⟨h1,h2⟩,ho,rfl⟩:QJ6 [.list (os.map .int)] [] (.list ((QAX os).map .int)))<|ai hfi (@rfl D (.int f))) (by kernel_rfl))) A env g₀ s₀ _ g₀ s _ _ R S fun ga sa Sa Ma=>?_)
 refine QD (QOh X hC hH R (by kernel_rfl) Sa (by kernel_rfl) fun gb sb a L Hb Mb sL=>?_)
 refine QD (QOh X hC hH R (by kernel_rfl) Hb.S (by kernel_rfl) fun gc sc b M Hc Mc sM=>?_)
 have hLM:L≠M:=fun e=>by
  refine oEA Hb.pl fun vs ζ1 _=>?_
  obtain ⟨n,hol⟩:=ζ1
  rw [e,sM] at hol;cases hol
 have H2:HS2 G A g₀ s₀ env (t42 os cs coat f ns gs a b) _ gc sc a L [] b M []:=HS2.weak (.by_ (by kernel_rfl)) ⟨Hb.mv Hc.S Mc,Hc,hLM⟩
 refine QD (QRe X hcv R H2 hnl hfair hall fun gd sd H=>?_)
 rw [el] at H
 refine QFZ (H.one.freeze (t:=nm "table") (by kernel_rfl) (fun _=>rfl)) fun ge le1 Se oe=>?_
 have H3:HS G A g₀ s₀ env (l42 os cs coat f ns gs [(nm "table",.hdr ((QAv ns).map prD)),(nm "alone",.obj b)]) (fun _=>0) ge sd b M [prD (nl,strN (ns.length-1))]:=by
  refine oEA H.two.pl fun vs hp hd=>?_
  refine ⟨Se.weak (.by_ (by kernel_rfl)),⟨?_,by rw [oe _ H.ne.symm];exact H.two.o.fz,H.two.o.old⟩,H.two.hi.mono le1,vs,hp,hd.mono le1⟩
  rintro (q|q|⟨y,dy,hy,_⟩)
  ·exact H.two.o.lo (.inl q)
  ·exact H.two.o.lo (.inr (.inl q))
  ·exact QAV hy
 refine QFZ (H3.freeze (t:=nm "alone") (by kernel_rfl) (fun _=>rfl)) fun gf le2 Sf _=>?_
 have ht:=QSS (P:=QAv ns) T X hcv hnl (Qd hcl (by decide)) hgl (Qd h2 (by decide)) ⟨hf0,hf64⟩ (fun q hq=>hfair _ (QDT hq)) (by rw [hPl];exact Qd hnl (by decide)) hrow hnl'
 exact ht A env g₀ s₀ _ gf sd Q E R (Sf.weak (.by_ (by kernel_rfl))) k
end
section
variable {prog:QV}{w:QX}{G:Gd prog w}{N:Nat}
structure QB4 (G:Gd prog w):Prop where
 X:(KF w.params).In G.h
 mg:∀p∈NF,G.mg p.1=p.2
theorem QB4.get(H:QB4 G){f:Str}{a:QW}(h:NF.lookup f=some (some (.ref a))):G.mg f=some (.ref a):=H.mg _ (mem_of_lookup h)
theorem QB4.gen(H:QB4 G){f:Str}{a:QW}{fd:QZ}{body:List Stmt}(hn:NF.lookup f=some (some (.ref a)))(hfd:QKG (KF w.params) a=some fd)(hb:fd.body= .stmts body)(ok:QMJ (KF w.params) fd=true)
  {bd:List D→List (Str×D)→Option (List (Str×D))}
  (hbind:∀(g:Fz) (s:QR) (vs kvs:List QS) (ds:List D) (kds:List (Str×D)) (bs:List (Str×D)),bd ds kds=some bs→FIn g s.heap→FLe G.h.get? g→DenL g vs ds→DenL g kvs (kds.map (·.2))→
   QBQ fd.scope.names (bs.map (·.1))=true∧∃binds,BindsTo s fd ⟨vs,(kds.map (·.1)).zip kvs⟩ binds∧QDY g binds bs) {sem:QBR}
  (h:∀ds ks d,sem ds ks d→∃bs,bd ds ks=some bs∧QAu G N fd.scope.names body bs d):QB6 G (N+1) f sem:=by
 refine oE (QDa (G:=G) (a:=a) H.X hfd hb ok) fun o T=>?_
 exact ⟨a,H.get hn,QOl T.ob T.da,QDt T (bd:=bd) h hbind⟩
theorem QB4.plain(H:QB4 G){f:Str}{a:QW}{fd:QZ}{body:List Stmt}(hn:NF.lookup f=some (some (.ref a)))(hfd:QKG (KF w.params) a=some fd)(hb:fd.body= .stmts body)(ok:QMJ (KF w.params) fd=true)
  {ps:List Str} (hps:ps.Nodup) (hk:QBQ fd.scope.names ps=true) (hbind:∀vs:List QS,vs.length=ps.length→bindArgs fd ⟨vs,[]⟩=pure (ps.zip vs)) {sem:QBR}
  (h:∀ds ks d,sem ds ks d→ks=[]∧ds.length=ps.length∧QAu G N fd.scope.names body (ps.zip ds) d):QB6 G (N+1) f sem:=
 H.gen hn hfd hb ok (bd:=QEU ps) (QCu hps hk hbind) fun ds ks d hs=>by
  refine oAA (h ds ks d hs) fun ζ0 hl hr=>?_
  subst ζ0
  exact ⟨ps.zip ds,if_pos ⟨hl,rfl⟩,hr⟩
noncomputable def QQO(p q:Str)(ds:List D)(kds:List (Str×D)):Option (List (Str×D)):=(one ds).bind fun x=>(one kds).bind fun y=>if y.1=q then some [(p,x),(q,y.2)] else none
theorem QL6{p q:Str}{x b:D}:QQO p q [x] [(q,b)]=some [(p,x),(q,b)]:=by
 show (if q=q then some _ else none)=_
 exact if_pos rfl
theorem QLy{p q:Str}{fd:QZ}(hpq:[p,q].Nodup)(hk:QBQ fd.scope.names [p,q]=true)(hbind:∀v u:QS,bindArgs fd ⟨[v],[(q,u)]⟩=pure [(p,v),(q,u)]):
  ∀(g:Fz) (s:QR) (vs kvs:List QS) (ds:List D) (kds:List (Str×D)) (bs:List (Str×D)),QQO p q ds kds=some bs→FIn g s.heap→FLe G.h.get? g→DenL g vs ds→DenL g kvs (kds.map (·.2))→
   QBQ fd.scope.names (bs.map (·.1))=true∧∃binds,BindsTo s fd ⟨vs,(kds.map (·.1)).zip kvs⟩ binds∧QDY g binds bs:=by
 intro g s vs kvs ds kds bs h fi base dvs dkvs
 refine oEA (Option.bind_eq_some_iff.mp h) fun x e1 h=>oEA (Option.bind_eq_some_iff.mp h) fun y e2 h=>oA (QAn h) fun hq e3=>?_
 rw [QBT e1] at dvs
 rw [QBT e2] at dkvs⊢
 refine oEA dvs.one fun v ev dv=>oEA (DenL.one dkvs) fun u eu du=>?_
 rw [ev,eu,←e3]
 show _∧∃binds,BindsTo s fd ⟨[v],[(y.1,u)]⟩ binds∧_
 rw [hq]
 exact ⟨hk,_,.of_eq (hbind v u),rfl,.cons dv (.cons du .nil),hpq⟩
noncomputable def QPV(p:Str)(more:List (Str×D))(ds:List D)(kds:List (Str×D)):Option (List (Str×D)):=(one ds).bind fun x=>if kds.isEmpty=true then some ((p,x)::more) else none
theorem QKR{p:Str}{more:List (Str×D)}{mv:List (Str×QS)}{fd:QZ}(hn:(p::more.map (·.1)).Nodup)(hk:QBQ fd.scope.names (p::more.map (·.1))=true)(hm:mv.map (·.1)=more.map (·.1))(hden:∀g:Fz,DenL g (mv.map (·.2)) (more.map (·.2)))
  (hbind:∀(s:QR) (v:QS),HLe G.h s.heap→BindsTo s fd ⟨[v],[]⟩ ((p,v)::mv)):
  ∀(g:Fz) (s:QR) (vs kvs:List QS) (ds:List D) (kds:List (Str×D)) (bs:List (Str×D)),QPV p more ds kds=some bs→FIn g s.heap→FLe G.h.get? g→DenL g vs ds→DenL g kvs (kds.map (·.2))→
   QBQ fd.scope.names (bs.map (·.1))=true∧∃binds,BindsTo s fd ⟨vs,(kds.map (·.1)).zip kvs⟩ binds∧QDY g binds bs:=by
 intro g s vs kvs ds kds bs h fi base dvs dkvs
 refine oEA (Option.bind_eq_some_iff.mp h) fun x e1 h=>oA (QAn h) fun hq e3=>?_
 rw [QBT e1] at dvs
 rw [List.isEmpty_iff.mp hq] at dkvs⊢
 refine oEA dvs.one fun v ev dv=>?_
 rw [ev,←e3,dkvs.out]
 exact ⟨hk,_,hbind s _ (fun b o e=>fi b o (base b o e)),by rw [Q0,Q0,hm],.cons dv (hden g),hn⟩
theorem QBw:FOk G N (tabOf []):=fun f sem h=>QAV h
theorem FOk.cons{f:Str}{sem:QBR}{r:List (String×QBR)}{n:String}(hn:Qc n=f)(hd:(f==("__debug__":Str))=false)(h:QB6 G N f sem)(hr:FOk G N (tabOf r)):FOk G N (tabOf ((n,sem)::r)):=by
 intro x s hx
 subst hn
 by_cases e:(x==Qc n)=true
 ·cases (if_pos e).symm.trans hx
  cases eq_of_beq e
  exact ⟨hd,h⟩
 ·exact hr x s ((if_neg e).symm.trans hx)
variable {te td:Array UInt8}
theorem ev0(hC:COk G (CT te td)):Ev G 10 (tabOf []) (CT te td):=⟨QBw,hC,Qf _⟩
theorem QTa(H:QB4 G)(hC:COk G (CT te td)):QB6 G 11 (nm "three_way_cmp") QSE:=
 H.plain (N:=10) (a:=95) (fd:=fd95) (body:=fnBody 5) (ps:=[nm "x",nm "y"]) (by kernel_rfl) (by kernel_rfl) rfl (by kernel_rfl) (by decide) (by kernel_rfl) (QC8 fun a=>all1 fun b=>by kernel_rfl) fun ds ks d h=>by
  revert h;refine QFC fun x y ζ2 ζ3 ζ4=>?_;subst ζ2;subst ζ3;subst ζ4;exact ⟨rfl,rfl,QSu (ev0 hC) x y⟩
theorem QTP(H:QB4 G)(hC:COk G (CT te td)):QB6 G 11 (nm "_ascii_buffer") QOd:=
 H.plain (N:=10) (a:=204) (fd:=fd204) (body:=fnBody 14) (ps:=[nm "data"]) (by kernel_rfl) (by kernel_rfl) rfl (by kernel_rfl) (by decide) (by kernel_rfl) (all1 fun a=>by kernel_rfl) fun ds ks d h=>by
  revert h;refine QCm fun b ζ1 ζ2 ζ3=>?_;subst ζ1;subst ζ2;subst ζ3;exact ⟨rfl,rfl,QQK (ev0 hC) b⟩
theorem QTe(H:QB4 G)(hC:COk G (CT te td)):QB6 G 11 (nm "_buffer") QOd:=
 H.plain (N:=10) (a:=211) (fd:=fd211) (body:=fnBody 15) (ps:=[nm "data"]) (by kernel_rfl) (by kernel_rfl) rfl (by kernel_rfl) (by decide) (by kernel_rfl) (all1 fun a=>by kernel_rfl) fun ds ks d h=>by
  revert h;refine QCm fun b ζ1 ζ2 ζ3=>?_;subst ζ1;subst ζ2;subst ζ3;exact ⟨rfl,rfl,QNr (ev0 hC) b⟩
theorem QMO(H:QB4 G)(hC:COk G (CT te td)):QB6 G 11 (nm "_truth") QIl:=
 H.plain (N:=10) (a:=218) (fd:=fd218) (body:=fnBody 16) (ps:=[nm "x"]) (by kernel_rfl) (by kernel_rfl) rfl (by kernel_rfl) (by decide) (by kernel_rfl) (all1 fun a=>by kernel_rfl) fun ds ks d h=>by
  revert h;refine QCm fun b ζ1 ζ2 ζ3=>?_;subst ζ1;subst ζ2;subst ζ3;exact ⟨rfl,rfl,QP4 (ev0 hC) b⟩
theorem QSe(H:QB4 G)(hC:COk G (CT te td)):QB6 G 11 (nm "_b64_value") QRF:=
 H.plain (N:=10) (a:=225) (fd:=fd225) (body:=fnBody 18) (ps:=[nm "c"]) (by kernel_rfl) (by kernel_rfl) rfl (by kernel_rfl) (by decide) (by kernel_rfl) (all1 fun a=>by kernel_rfl) fun ds ks d h=>by
  revert h;refine QCm fun b ζ1 ζ2 ζ3=>?_;subst ζ1;subst ζ2;subst ζ3;exact ⟨rfl,rfl,QK2 (ev0 hC) b⟩
theorem QOb(H:QB4 G)(hC:COk G (CT te td)):QB6 G 11 (nm "_bytes_from_decode_data") QH9:=
 H.plain (N:=10) (a:=184) (fd:=fd184) (body:=fnBody 11) (ps:=[nm "s"]) (by kernel_rfl) (by kernel_rfl) rfl (by kernel_rfl) (by decide) (by kernel_rfl) (all1 fun a=>by kernel_rfl) fun ds ks d h=>by
  revert h
  refine rA fun ζ0 ζ1=>?_
  subst ζ0
  rcases ζ1 with ⟨x,rfl,hx,rfl⟩|⟨b,rfl,rfl⟩
  ·exact ⟨rfl,rfl,QM2 (ev0 hC) x (Qd hx.1 (by decide)) hx.2⟩
  ·exact ⟨rfl,rfl,QKD (ev0 hC) b⟩
theorem QR4(H:QB4 G)(hC:COk G (CT te td)):QB6 G 11 (nm "_law_text") QMC:=
 H.plain (N:=10) (a:=434) (fd:=fd434) (body:=fnBody 37) (ps:=[nm "figures",nm "coat"]) (by kernel_rfl) (by kernel_rfl) rfl (by kernel_rfl) (by decide) (by kernel_rfl) (QC8 fun a=>all1 fun b=>by kernel_rfl) fun ds ks d h=>by
  revert h;refine QCO fun f c ζ2 ζ3 h1=>rA fun h2 ζ6=>?_;subst ζ2;subst ζ3;subst ζ6;exact ⟨rfl,rfl,QR7 (ev0 hC) f c h1 h2⟩
theorem QOp(H:QB4 G)(hC:COk G (CT te td)):QB6 G 11 (nm "_law_figures") QJ6:=
 H.plain (N:=10) (a:=424) (fd:=fd424) (body:=fnBody 35) (ps:=[nm "octets"]) (by kernel_rfl) (by kernel_rfl) rfl (by kernel_rfl) (by decide) (by kernel_rfl) (all1 fun a=>by kernel_rfl) fun ds ks d h=>by
  revert h;refine QDl fun o ζ1 ζ2 h1=>rA fun h2 ζ5=>?_;subst ζ1;subst ζ2;subst ζ5;exact ⟨rfl,rfl,QRj (ev0 hC) o h1 h2⟩
theorem QRO(H:QB4 G)(hC:COk G (CT te td)):QB6 G 11 (nm "_law_octets") QN2:=
 H.plain (N:=10) (a:=429) (fd:=fd429) (body:=fnBody 36) (ps:=[nm "figures"]) (by kernel_rfl) (by kernel_rfl) rfl (by kernel_rfl) (by decide) (by kernel_rfl) (all1 fun a=>by kernel_rfl) fun ds ks d h=>by
  revert h;refine QDl fun o ζ1 ζ2 h1=>rA fun h2 ζ5=>?_;subst ζ1;subst ζ2;subst ζ5;exact ⟨rfl,rfl,QRx (ev0 hC) o h1 h2⟩
theorem QQg(H:QB4 G)(hC:COk G (CT te td)):QB6 G 11 (nm "_law_spelled") QK7:=
 H.plain (N:=10) (a:=441) (fd:=fd441) (body:=fnBody 38) (ps:=[nm "figures",nm "choice"]) (by kernel_rfl) (by kernel_rfl) rfl (by kernel_rfl) (by decide) (by kernel_rfl) (QC8 fun a=>all1 fun b=>by kernel_rfl) fun ds ks d h=>by
  revert h;refine QCO fun f c ζ2 ζ3 h1=>rA fun h2 ζ6=>?_;subst ζ2;subst ζ3;subst ζ6;exact ⟨rfl,rfl,QMg (ev0 hC) f c h1 h2⟩
theorem QQM(H:QB4 G)(hC:COk G (CT te td)):QB6 G 11 (nm "_law_lacks") QKq:=
 H.plain (N:=10) (a:=453) (fd:=fd453) (body:=fnBody 40) (ps:=[nm "one",nm "other"]) (by kernel_rfl) (by kernel_rfl) rfl (by kernel_rfl) (by decide) (by kernel_rfl) (QC8 fun a=>all1 fun b=>by kernel_rfl) fun ds ks d h=>by
  revert h;refine QCO fun x y ζ2 ζ3 h1=>rA fun h2 ζ6=>?_;subst ζ2;subst ζ3;subst ζ6;exact ⟨rfl,rfl,QPz (ev0 hC) x y h1 h2⟩
theorem QTU(H:QB4 G)(hC:COk G (CT te td)):QB6 G 12 (nm "b2a_base64") QSN:=
 H.gen (N:=11) (a:=241) (fd:=fd241) (body:=fnBody 20) (bd:=QQO (nm "data") (nm "newline")) (by kernel_rfl) (by kernel_rfl) rfl (by kernel_rfl) (QLy (by decide) (by kernel_rfl) fun v u=>by kernel_rfl) fun ds ks d h=>by
  revert h;refine QDl fun b ζ1 ζ2 h1 ζ4=>?_;subst ζ1;subst ζ2;subst ζ4;exact ⟨_,QL6,QSv ⟨.cons rfl (by decide) (QTe H hC) (.cons rfl (by decide) (QMO H hC) QBw),hC,by decide⟩ b h1⟩
theorem QQ2(H:QB4 G)(hC:COk G (CT te td)):QB6 G 13 (nm "b64encode") QOq:=
 H.gen (N:=12) (a:=249) (fd:=fd249) (body:=fnBody 22) (bd:=QPV (nm "s") [(nm "altchars",.none)]) (by kernel_rfl) (by kernel_rfl) rfl (by kernel_rfl)
  (QKR (mv:=[(nm "altchars",.none)]) (by decide) (by kernel_rfl) rfl (fun g=> .cons .none .nil) fun s v hle=> .of_defaults (T:=242) rfl (hle.exact (H.X 242 _ rfl) fun _ _ q=>nomatch q) rfl rfl (by kernel_rfl)) fun ds ks d h=>by
  revert h;refine QDl fun b ζ1 ζ2 h1 ζ4=>?_;subst ζ1;subst ζ2;subst ζ4;exact ⟨_,rfl,QSl ⟨.cons rfl (by decide) (QTU H hC) QBw,hC,by decide⟩ h1⟩
theorem QTS(H:QB4 G)(hC:COk G (CT te td)):QB6 G 12 (nm "a2b_base64") QPj:=
 H.gen (N:=11) (a:=233) (fd:=fd233) (body:=fnBody 19) (bd:=QQO (nm "data") (nm "strict_mode")) (by kernel_rfl) (by kernel_rfl) rfl (by kernel_rfl) (QLy (by decide) (by kernel_rfl) fun v u=>by kernel_rfl) fun ds ks d h=>by
  revert h;refine QCO fun b vs ζ2 ζ3 h1=>rA fun h2 ζ6=>?_;subst ζ2;subst ζ3;subst ζ6;exact ⟨_,QL6,QTT ⟨.cons rfl (by decide) (QSe H hC) (.cons rfl (by decide) (QTP H hC) (.cons rfl (by decide) (QMO H hC) QBw)),hC,by decide⟩ h1 h2⟩
theorem QQ5(H:QB4 G)(hC:COk G (CT te td)):QB6 G 13 (nm "b64decode") sDec:=
 H.gen (N:=12) (a:=257) (fd:=fd257) (body:=fnBody 23) (bd:=QPV (nm "s") [(nm "altchars",.none),(nm "validate",.bool false)]) (by kernel_rfl) (by kernel_rfl) rfl (by kernel_rfl)
  (QKR (mv:=[(nm "altchars",.none),(nm "validate",.bool false)]) (by decide) (by kernel_rfl) rfl (fun g=> .cons .none (.cons (.bool _) .nil)) fun s v hle=> .of_defaults (T:=250) rfl (hle.exact (H.X 250 _ rfl) fun _ _ q=>nomatch q) rfl rfl (by kernel_rfl)) fun ds ks d h=>by
  have R:Ev G 12 (tabOf [("_bytes_from_decode_data",QH9),("a2b_base64",QPj)]) (CT te td):=⟨.cons rfl (by decide) ((QOb H hC).less (by decide)) (.cons rfl (by decide) (QTS H hC) QBw),hC,by decide⟩
  revert h
  refine QCx fun ζ0 vs ζ2 ζ3=>?_
  subst ζ0
  subst ζ2
  rcases ζ3 with ⟨x,rfl,hx,h2⟩|⟨b,rfl,h1,h2⟩
  ·exact ⟨_,rfl,QQx R ⟨rfl,.inl ⟨x,rfl,hx,rfl⟩⟩ (by unfold QEn;rw [Array.size_map];exact hx.1) h2⟩
  ·exact ⟨_,rfl,QQx R ⟨rfl,.inr ⟨b,rfl,rfl⟩⟩ h1 h2⟩
theorem QRy(ht:te.size=256)(H:QB4 G)(hC:COk G (CT te td)):QB6 G 14 (nm "urlsafe_b64encode") (QOn te):=
 H.plain (N:=13) (a:=264) (fd:=fd264) (body:=fnBody 26) (ps:=[nm "s"]) (by kernel_rfl) (by kernel_rfl) rfl (by kernel_rfl) (by decide) (by kernel_rfl) (all1 fun a=>by kernel_rfl) fun ds ks d h=>by
  revert h;refine QDl fun b ζ1 ζ2 h1 ζ4=>?_;subst ζ1;subst ζ2;subst ζ4;exact ⟨rfl,rfl,QSO ⟨.cons rfl (by decide) (QQ2 H hC) QBw,hC,by decide⟩ ht h1⟩
theorem QRQ(ht:td.size=256)(H:QB4 G)(hC:COk G (CT te td)):QB6 G 14 (nm "urlsafe_b64decode") (QO8 td):=
 H.plain (N:=13) (a:=271) (fd:=fd271) (body:=fnBody 27) (ps:=[nm "s"]) (by kernel_rfl) (by kernel_rfl) rfl (by kernel_rfl) (by decide) (by kernel_rfl) (all1 fun a=>by kernel_rfl) fun ds ks d h=>by
  revert h;refine rA fun ζ0=>QCO fun x vs ζ3 hx h2 ζ6=>?_;subst ζ0;subst ζ3;subst ζ6;exact ⟨rfl,rfl,QRY ⟨.cons rfl (by decide) ((QOb H hC).less (by decide)) (.cons rfl (by decide) (QQ5 H hC) QBw),hC,by decide⟩ ht hx h2⟩
theorem QPQ(ht:te.size=256)(H:QB4 G)(hC:COk G (CT te td)):QB6 G 15 (nm "_law_written") (QHr te):=
 H.plain (N:=14) (a:=448) (fd:=fd448) (body:=fnBody 39) (ps:=[nm "row",nm "coat"]) (by kernel_rfl) (by kernel_rfl) rfl (by kernel_rfl) (by decide) (by kernel_rfl) (QC8 fun a=>all1 fun b=>by kernel_rfl) fun ds ks d h=>by
  revert h;refine QCO fun b c ζ2 ζ3 h1=>rAA fun h2 h3 ζ7=>?_;subst ζ2;subst ζ3;subst ζ7;exact ⟨rfl,rfl,QMx ⟨.cons rfl (by decide) (QRy ht H hC) (.cons rfl (by decide) ((QQ2 H hC).less (by decide)) QBw),hC,by decide⟩ c h1 h2 h3⟩
end
section
variable {prog:QV}{w:QX}{G:Gd prog w}{N:Nat}
variable {te td:Array UInt8}
theorem QS2(H:QB4 G)(hC:COk G (QBU [("tuple",.typ "tuple")])):QB6 G 12 (nm "_Mismatch") QQP:=
 ⟨166,H.get (by kernel_rfl),QPb H.X,QPZ H.X hC⟩
structure LsOk (figs one two:List Int):Prop where
 L:LOk figs.length
 f:∀f∈figs,0≤f∧f<64
 o:∀c∈one,0≤c∧c<2^lettersOf figs
 t:∀c∈two,0≤c∧c<2^lettersOf figs
 so:Srt one
 st:Srt two
 lo:one.length≤16
 lt:two.length≤16
variable {figs one two:List Int}
theorem QSg(H:QB4 G)(hC:COk G C4)(K:LsOk figs one two):QB6 G 11 (nm "sorted_list_difference") (QRV figs one two):=
 H.plain (N:=10) (a:=88) (fd:=fd88) (body:=fnBody 4) (ps:=[nm "expected",nm "actual"]) (by kernel_rfl) (by kernel_rfl) rfl (by kernel_rfl) (by decide) (by kernel_rfl) (QC8 fun a=>all1 fun b=>by kernel_rfl) fun ds ks d h=>by
  revert h;refine rAA fun ζ0 ζ1 ζ2=>?_;subst ζ0;subst ζ1;subst ζ2;exact ⟨rfl,rfl,QSr hC K.L K.f K.o K.t K.so K.st K.lo K.lt⟩
theorem QTr(H:QB4 G)(hC:COk G C8)(hT:COk G (QBU [("tuple",.typ "tuple")]))(K:LsOk figs one two)(inj:∀c∈one++two,∀d∈one++two,QA8 .Eq (QAd figs c) (QAd figs d)=some (decide (c=d))):QB6 G 13 (nm "_count_diff_all_purpose") (sCd figs one two):=
 H.plain (N:=12) (a:=176) (fd:=fd176) (body:=fnBody 8) (ps:=[nm "actual",nm "expected"]) (by kernel_rfl) (by kernel_rfl) rfl (by kernel_rfl) (by decide) (by kernel_rfl) (QC8 fun a=>all1 fun b=>by kernel_rfl) fun ds ks d h=>by
  revert h;refine rAA fun ζ0 ζ1 ζ2=>?_;subst ζ0;subst ζ1;subst ζ2;exact ⟨rfl,rfl,QTn (.cons rfl (by decide) (QS2 H hT) QBw) hC (Qd K.lo (by decide)) (Qd K.lt (by decide)) inj⟩
end
theorem QIJ(l:List Int):Srt (sortI l):=by
 skip
 have h:=List.pairwise_mergeSort (le:=fun a b:Int=>decide (a≤b)) (fun a b c h1 h2=>by simp at*;exact zi2 [_,_,_] 1 (.v 0) (.v 1) 1 (.v 0) (.v 2) 1 (.v 2) (.v 1) rfl h1 h2) (fun a b=>by simp;omega) l
 exact h.imp fun {a b} q=>by simpa using q
noncomputable def sLs:QBR:=fun ds ks d=>ks=[]∧d= .bool true∧∃figs one two cs:List Int,ds=[.list (one.map .int),.list (two.map .int),rwD figs cs]∧LsOk figs one two∧(∀c∈one,c∈cs)∧(∀c∈two,c∈cs)
noncomputable def sHs:QBR:=fun ds ks d=>ks=[]∧d= .bool true∧∃(os cs:List Int) (coat:Int),ds=[.list (os.map .int),.int coat,.list (cs.map .int),.list (cs.map fun c=> .str (QA4 (QAX os) coat c)),.list (cs.map fun c=> .bytes (QAz (QAX os) c))]∧(coat=0∨coat=1)∧1≤os.length∧os.length≤5∧(∀o∈os,0≤o∧o<256)∧cs≠[]∧cs.length≤16
section
variable {prog:QV}{w:QX}{G:Gd prog w}{N:Nat}
variable {te td:Array UInt8}
theorem QQT(H:QB4 G)(hC:COk G (CT te td))(h4:COk G C4)(h8:COk G C8)(hT:COk G (QBU [("tuple",.typ "tuple")])):QB6 G 14 (nm "_law_lists") sLs:=
 H.plain (N:=13) (a:=458) (fd:=fd458) (body:=fnBody 41) (ps:=[nm "one",nm "other",nm "rows"]) (by kernel_rfl) (by kernel_rfl) rfl (by kernel_rfl) (by decide) (by kernel_rfl) (QC8 fun a=>QC8 fun b=>all1 fun c=>by kernel_rfl) fun ds ks d h=>by
  revert h
  refine QNa fun ζ0 ζ1 figs=>QCB fun one two cs ζ6 K=>rA fun i1 i2=>?_
  subst ζ0
  subst ζ1
  subst ζ6
  have bnd:∀c∈one++two,0≤c∧c<2^lettersOf figs:=fun c hc=>(Q8.mp hc).elim (K.o c) (K.t c)
  exact ⟨rfl,rfl,QQJ (figs:=figs) (one:=one) (two:=two) ⟨.cons rfl (by decide) ((QQM H hC).less (by decide)) (.cons rfl (by decide) ((QSg H h4 K).less (by decide)) (.cons rfl (by decide) (QTr H h8 hT K fun c hc d hd=>(QC3 K.L K.f (bnd c hc) (bnd d hd)).2.2) QBw)),hC,by decide⟩ K.lo K.lt i1 i2⟩
theorem QS1(H:QB4 G)(hC:COk G (CT teA td))(h7:COk G C7)(h9:COk G C9)(ht:teA.size=256):QB6 G 17 (nm "_law_headers") sHs:=
 H.plain (N:=16) (a:=463) (fd:=fd463) (body:=fnBody 42) (ps:=[nm "octets",nm "coat",nm "choices",nm "names",nm "got"]) (by kernel_rfl) (by kernel_rfl) rfl (by kernel_rfl) (by decide) (by kernel_rfl) (QC8 fun a=>QC8 fun b=>QC8 fun c=>QC8 fun d=>all1 fun e=>by kernel_rfl) fun ds ks d h=>by
  revert h
  refine QNa fun ζ0 ζ1 os=>QCO fun cs coat ζ5 hco h1=>QEg fun h2 h3 h0 hl=>?_
  subst ζ0
  subst ζ1
  subst ζ5
  exact ⟨rfl,rfl,QNk H.X (QND H.X h9) (.cons rfl (by decide) ((QOp H hC).less (by decide)) (.cons rfl (by decide) ((QPQ ht H hC).less (by decide)) QBw)) h7 (H.get (by kernel_rfl)) hco h1 h2 h3 h0 hl⟩
theorem QTc(H:QB4 G)(hC:COk G (CT teA tdA))(h4:COk G C4)(h7:COk G C7)(h8:COk G C8)(h9:COk G C9)(hT:COk G (QBU [("tuple",.typ "tuple")]))(ht:teA.size=256)(hd:tdA.size=256):QB6 G 18 (nm "_law_binary") QR3:=
 H.plain (N:=17) (a:=468) (fd:=fd468) (body:=fnBody 43) (ps:=[nm "octets",nm "coat",nm "drawn"]) (by kernel_rfl) (by kernel_rfl) rfl (by kernel_rfl) (by decide) (by kernel_rfl) (QC8 fun a=>QC8 fun b=>all1 fun c=>by kernel_rfl) fun ds ks d h=>by
  revert h
  refine QNa fun ζ0 ζ1 o=>QCO fun dr coat ζ5 ζ6 h3=>rAA fun hco hl h0=>?_
  subst ζ0
  subst ζ1
  subst ζ5
  obtain ⟨h1,h2⟩:=ζ6
  have R:Ev G 17 (BT teA tdA sLs sHs) (CT teA tdA):=⟨.cons rfl (by decide) ((QOp H hC).less (by decide)) (.cons rfl (by decide) ((QPQ ht H hC).less (by decide)) (.cons rfl (by decide) ((QR4 H hC).less (by decide)) (.cons rfl (by decide) ((QQg H hC).less (by decide))
   (.cons rfl (by decide) ((QRQ hd H hC).less (by decide)) (.cons rfl (by decide) ((QQ5 H hC).less (by decide)) (.cons rfl (by decide) ((QRO H hC).less (by decide)) (.cons rfl (by decide) ((QTa H hC).less (by decide))
   (.cons rfl (by decide) ((QQT H hC h4 h8 hT).less (by decide)) (.cons rfl (by decide) (QS1 H hC h7 h9 ht) QBw))))))))),hC,by decide⟩
  have hLk:LOk (QAX o).length:=by rw [QBc];exact QCy h1 h2
  have side:∀wv,(∀c∈sortI (QBu (QAX o) wv dr),0≤c∧c<2^lettersOf (QAX o))∧(sortI (QBu (QAX o) wv dr)).length≤16∧∀c∈sortI (QBu (QAX o) wv dr),c∈dr.map (QA0 (QAX o)):=fun wv=>by
   have hm:∀c∈sortI (QBu (QAX o) wv dr),c∈dr.map (QA0 (QAX o)):=fun c hc=>by
    unfold sortI at hc
    rw [List.mem_mergeSort] at hc
    refine oEA (Qw.mp hc) fun k hk ζ2=>?_
    subst ζ2
    exact Qw.mpr ⟨k,(List.mem_filter.mp hk).1,rfl⟩
   refine ⟨fun c hc=>?_,?_,hm⟩
   ·refine oEA (Qw.mp (hm c hc)) fun k _ ζ2=>?_
    subst ζ2
    exact QH4
   ·unfold sortI QBu
    rw [List.length_mergeSort,Qs]
    exact Qd (List.length_filter_le _ _) hl
  refine ⟨rfl,rfl,QTD R h1 h2 h3 hco hl ?_ ?_⟩
  ·exact ⟨rfl,rfl,QAX o,_,_,_,rfl,⟨hLk,QBX,(side 1).1,(side 0).1,QIJ _,QIJ _,(side 1).2.1,(side 0).2.1⟩,(side 1).2.2,(side 0).2.2⟩
  ·exact ⟨rfl,rfl,o,dr.map (QA0 (QAX o)),_,rfl,hco,h1,h2,h3,fun e=>h0 (List.map_eq_nil_iff.mp e),by rw [Qs];exact hl⟩
theorem QTN(H:QB4 G)(hC:COk G (CT teA tdA))(h4:COk G C4)(h7:COk G C7)(h8:COk G C8)(h9:COk G C9)(hT:COk G (QBU [("tuple",.typ "tuple")]))(ht:teA.size=256)(hd:tdA.size=256){xs:List Int}(hl:xs.length≤63):
  QAu G 18 (QAa 44) (fnBody 44) [(nm "script",.list (xs.map .int))] (.bool true):=
 QSd ⟨.cons rfl (by decide) (QTc H hC h4 h7 h8 h9 hT ht hd) QBw,hC,by decide⟩ xs hl
end
noncomputable def KA:List QW:=[2,87,88,94,95,112,113,165,166,167,175,176,177,183,184,203,204,210,211,217,218,224,225,226,232,233,234,240,241,242,248,249,250,256,257,263,264,270,271,280,281,285,286,302,308,309,315,316,329,330,334,335,353,354,378,379,411,412,414,415,423,424,428,429,433,434,440,441,447,448,452,453,457,458,462,463,467,468,472,473]
theorem ka_of(P:Params):KA=(KF P).map (·.1):=by kernel_rfl
noncomputable def BN:List Str:=[Qc "len",Qc "bytes",Qc "isinstance",Qc "type",Qc "str",Qc "sorted",Qc "range",Qc "zip",Qc "enumerate",Qc "dict",Qc "bytearray",Qc "bool",Qc "int",Qc "IndexError",Qc "list",Qc "object",Qc "tuple"]
noncomputable def q0:QV:=view PySem.Challenge.pw_kq0067_01 [44]
noncomputable def loose0:List Str:=(PySem.Challenge.pw_kq0067_01.main.scope.names.map (·.1)).filter fun x=>x !=Qc "law"
noncomputable def Yf(s:QR):List (Option Obj)×List (Option QS)×List (Option QS)×Bool×Bool:=(KA.map s.heap.get?,NF.map (fun p=>s.heap.nsMap mainGlobals p.1),BN.map (fun x=>s.heap.nsMap mainGlobals x),s.heap.isNs mainGlobals,s.heap.objs.size==474)
noncomputable def Ya(w:QX):List (Option Obj)×List (Option QS)×List (Option QS)×Bool×Bool:=((KFl w.params).map (fun p=>some p.2),NF.map (·.2),BN.map (fun _=>none),true,true)
noncomputable def looseOf(p:QV):List Str:=(p.main.scope.names.map (·.1)).filter fun x=>x !=Qc "law"
noncomputable def LLp(p:QV)(w:QX):=(endsT treeTable p w 9000).map fun s=>(openSeen (view p [44]) (looseOf p) (importedModules p.main.body) (fun _=>true) true s,Yf s)
noncomputable def LRp(p:QV)(w:QX):=some (openGood (view p [44]) (looseOf p),Ya w)
end KQ
lay_quick KQ.LLp
namespace KQ
theorem head_l(w:QX):LLp PySem.Challenge.pw_kq0067_01 w=LRp PySem.Challenge.pw_kq0067_01 w:=by
 rw [PySem.W.Fast.te4331831738916100639]
 kernel_rfl!
noncomputable def K2(P:Params):Frag:=(KF P).filter fun p=>p.1==165||p.1==166
theorem QCb{α:Type}{f:Nat→Bool}:∀{l:List (Nat×α)} {a:Nat} {b:α},(l.filter fun p=>f p.1).lookup a=some b→f a=true∧l.lookup a=some b
 |[],a,b,h=>by cases h
 |(k,v)::r,a,b,h=>by
  rw [List.filter_cons] at h
  cases q:a==k with
  |true=>
   have e:=eq_of_beq q
   subst e
   by_cases hf:f a=true
   ·rw [if_pos hf,Qt,beq_self_eq_true] at h
    exact ⟨hf,by rw [Qt,beq_self_eq_true];exact h⟩
   ·rw [if_neg hf] at h
    exact absurd (QCb h).1 hf
  |false=>
   rw [Qt,q]
   split at h
   ·rw [Qt,q] at h;exact QCb h
   ·exact QCb h
section
variable {prog:QV}{w:QX}
theorem QKo{h:Heap}(X:(KF w.params).In h):∃tl:List QW,(∀b∈tl,b<gsz∧∃o,h.get? b=some o)∧∀h':Heap,(∀b∈tl,∀o,h.get? b=some o→h'.get? b=some o)→∀a o,h'.get? a=some o→o.cls= .ref 166→
  Looks (model prog w) h' (specialOf (.ref a) "__iter__") (some (.builtin "tuple.__iter__"))∧Looks (model prog w) h' (isInstance (.ref a) (.type "tuple")) true:=by
 have l1:∃o,(KF w.params).lookup 165=some o:=Option.isSome_iff_exists.mp (by kernel_rfl)
 have l2:∃o,(KF w.params).lookup 166=some o:=Option.isSome_iff_exists.mp (by kernel_rfl)
 revert l1
 refine rE fun o1 h1=>?_
 revert l2
 refine rE fun o2 h2=>?_
 refine ⟨[165,166],fun b hb=>?_,fun h' hk a o ho hc=>?_⟩
 ·simp only [Qx,List.not_mem_nil,or_false] at hb
  rcases hb with rfl|rfl
  ·exact ⟨by decide,o1,X _ _ h1⟩
  ·exact ⟨by decide,o2,X _ _ h2⟩
 ·have X':(K2 w.params).In h':=by
   intro b o hb
   refine oA (QCb (f:=fun a=>a==165||a==166) hb) fun e1 e2=>?_
   refine hk b ?_ o (X _ _ e2)
   simpa using e1
  have t1:Looks (model prog w) h' (typeOf (.ref a)) (.ref 166):=by rw [←hc];exact (Looks.ld ho).andThen .now
  have f1:findIn (K2 w.params) (.ref 166) "__iter__"=some (some (.builtin "tuple.__iter__")):=by kernel_rfl
  have f2:subIn (K2 w.params) (.ref 166) (.type "tuple")=some true:=by kernel_rfl
  exact ⟨t1.andThen (looks_findIn X' f1),t1.andThen (looks_subIn X' f2)⟩
structure Behind (w:QX)(h:Heap)(mg mb:Str→Option QS):Prop where
 X:(KF w.params).In h
 ns:h.Ns mainGlobals mg
 nb:h.Ns builtinsNs mb
 nolim:h.NoLimit
 hg:∀p∈NF,mg p.1=p.2
 bn:∀x∈BN,mg x=none
 hb:∀x:Str,x≠"__name__"→mb x=bootBuiltins x
theorem Behind.own{h:Heap}{mg mb:Str→Option QS}(B:Behind w h mg mb){x:Str}{v:QS}(h1:BN.contains x=true)(h2:(x !="__name__"&&bootBuiltins x==some v)=true):mg x=none∧mb x=some v:=by
 rw [QAT,bne_iff_ne,ne_eq,beq_iff_eq] at h2
 exact ⟨B.bn x (List.contains_iff_mem.mp h1),(B.hb x h2.1).trans h2.2⟩
noncomputable def QGo{h:Heap}{mg mb:Str→Option QS}(B:Behind w h mg mb):Gd prog w where
 h:=h
 sz:=by
  obtain ⟨o,ho⟩:∃o,(KF w.params).lookup 473=some o:=Option.isSome_iff_exists.mp (by kernel_rfl)
  exact ⟨o,B.X _ _ ho⟩
 mg:=mg
 mb:=mb
 ns:=B.ns
 nb:=B.nb
 nolim:=B.nolim
 bn:=fun x c hx=>by
  unfold QCw at hx
  by_cases e1:(x==QL5)=true
  ·rw [if_pos e1] at hx;cases hx;rw [eq_of_beq e1];exact B.own (by decide+kernel) (by decide+kernel)
  rw [if_neg e1] at hx
  by_cases e1:(x==QGN)=true
  ·rw [if_pos e1] at hx;cases hx;rw [eq_of_beq e1];exact B.own (by decide+kernel) (by decide+kernel)
  rw [if_neg e1] at hx
  by_cases e1:(x==QCM)=true
  ·rw [if_pos e1] at hx;cases hx;rw [eq_of_beq e1];exact B.own (by decide+kernel) (by decide+kernel)
  rw [if_neg e1] at hx
  by_cases e1:(x==QFn)=true
  ·rw [if_pos e1] at hx;cases hx;rw [eq_of_beq e1];exact B.own (by decide+kernel) (by decide+kernel)
  rw [if_neg e1] at hx
  by_cases e1:(x==QL0)=true
  ·rw [if_pos e1] at hx;cases hx;rw [eq_of_beq e1];exact B.own (by decide+kernel) (by decide+kernel)
  rw [if_neg e1] at hx
  by_cases e1:(x==QE2)=true
  ·rw [if_pos e1] at hx;cases hx;rw [eq_of_beq e1];exact B.own (by decide+kernel) (by decide+kernel)
  rw [if_neg e1] at hx
  cases hx
 tn:=fun x c hx=>by
  simp only [Qx,List.not_mem_nil,or_false,Prod.mk.injEq] at hx
  rcases hx with ⟨rfl,rfl⟩|⟨rfl,rfl⟩|⟨rfl,rfl⟩|⟨rfl,rfl⟩<;>exact B.own (by decide+kernel) (by decide+kernel)
 ti:=QKo B.X
end
section
variable {prog:QV}{w:QX}{h:Heap}{mg mb:Str→Option QS}
theorem Behind.home(B:Behind w h mg mb):QB4 (QGo (prog:=prog) B):=⟨B.X,B.hg⟩
theorem QEM{G:Gd prog w}:COk G (QBU []):=fun x d h=>by cases h
theorem QC6{G:Gd prog w}{b:String}{d:D}{r:List (String×D)}{v:QS}(h1:(Qc b==("__debug__":Str))=false)(hd:Den G.h.get? v d)(hv:G.mg (Qc b)=some v∨(G.mg (Qc b)=none∧G.mb (Qc b)=some v))(hr:COk G (QBU r)):COk G (QBU ((b,d)::r)):=by
 intro x d' h
 unfold QBU at h
 by_cases q:(x==Qc b)=true
 ·rw [if_pos q] at h
  cases h
  rw [eq_of_beq q]
  exact ⟨h1,v,hd,hv⟩
 ·rw [if_neg q] at h
  exact hr x d' h
theorem Behind.typ(B:Behind w h mg mb){b n:String}(h1:BN.contains (Qc b)=true)(h2:(Qc b !="__name__"&&bootBuiltins (Qc b)==some (.type n))=true){r:List (String×D)}(h0:(Qc b==("__debug__":Str))=false)
  (hr:COk (QGo (prog:=prog) B) (QBU r)):COk (QGo (prog:=prog) B) (QBU ((b,.typ n)::r)):=
 QC6 h0 (.typ n) (.inr (B.own h1 h2)) hr
theorem Behind.at'(B:Behind w h mg mb){x:Str}{v:QS}(hn:NF.lookup x=some (some v)):mg x=some v:=B.hg _ (mem_of_lookup hn)
theorem Behind.c4(B:Behind w h mg mb):COk (QGo (prog:=prog) B) C4:=B.typ (by decide+kernel) (by decide+kernel) (by decide+kernel) QEM
theorem Behind.c7(B:Behind w h mg mb):COk (QGo (prog:=prog) B) C7:=B.typ (by decide+kernel) (by decide+kernel) (by decide+kernel) QEM
theorem Behind.c8(B:Behind w h mg mb):COk (QGo (prog:=prog) B) C8:=B.typ (by decide+kernel) (by decide+kernel) (by decide+kernel) (B.typ (by decide+kernel) (by decide+kernel) (by decide+kernel) QEM)
theorem Behind.cT(B:Behind w h mg mb):COk (QGo (prog:=prog) B) (QBU [("tuple",.typ "tuple")]):=B.typ (by decide+kernel) (by decide+kernel) (by decide+kernel) QEM
theorem Behind.c9(B:Behind w h mg mb):COk (QGo (prog:=prog) B) C9:=
 B.typ (by decide+kernel) (by decide+kernel) (by decide+kernel) (QC6 (by decide+kernel) (.obj 281) (.inl (B.at' (by kernel_rfl))) (QC6 (by decide+kernel) (.obj 286) (.inl (B.at' (by kernel_rfl))) QEM))
theorem Behind.ct(B:Behind w h mg mb):COk (QGo (prog:=prog) B) (CT teA tdA):=by
 have t1:h.get? 177=some {cls:= .type "tuple",data:= .seq #[.type "bytes",.type "bytearray"]}:=B.X _ _ (by kernel_rfl)
 refine B.typ (by decide+kernel) (by decide+kernel) (by decide+kernel) (B.typ (by decide+kernel) (by decide+kernel) (by decide+kernel) (B.typ (by decide+kernel) (by decide+kernel) (by decide+kernel) (B.typ (by decide+kernel) (by decide+kernel) (by decide+kernel) (B.typ (by decide+kernel) (by decide+kernel) (by decide+kernel) ?_))))
 refine QC6 (by decide+kernel) (.tup t1 (.cons (.typ _) (.cons (.typ _) .nil))) (.inl (B.at' (by kernel_rfl))) ?_
 refine QC6 (v:= .bytes b64tab 577) (by decide+kernel) (.bytes _ _) (.inl (B.at' (by kernel_rfl))) ?_
 refine QC6 (v:= .bytes teA 641) (by decide+kernel) (.bytes _ _) (.inl (B.at' (by kernel_rfl))) ?_
 exact QC6 (v:= .bytes tdA 646) (by decide+kernel) (.bytes _ _) (.inl (B.at' (by kernel_rfl))) QEM
noncomputable def QS3:QBR:=fun ds ks d=>ks=[]∧d= .bool true∧∃xs:List Int,ds=[.list (xs.map .int)]∧xs.length≤63
theorem Behind.law(B:Behind w h mg mb):QB6 (QGo (prog:=prog) B) 19 (nm "law") QS3:=
 B.home.plain (N:=18) (a:=473) (fd:=fd473) (body:=fnBody 44) (ps:=[nm "script"]) (by kernel_rfl) (by kernel_rfl) rfl (by kernel_rfl) (by decide) (by kernel_rfl) (all1 fun a=>by kernel_rfl) fun ds ks d h=>by
  revert h
  refine QNa fun ζ0 ζ1 xs=>rA fun ζ3 hl=>?_
  subst ζ0
  subst ζ1
  subst ζ3
  exact ⟨rfl,rfl,QTN B.home B.ct B.c4 B.c7 B.c8 B.c9 B.cT QPe QQl hl⟩
theorem Behind.run{s:QR}(B:Behind w s.heap mg mb){A:QT}(R:Rm A 19)(fr:A.frames=some []){a:QW}{vs:Array QS}{n:Nat}(ho:s.heap.get? a=some {cls:= .type "list",data:= .seq vs n}){xs:List Int}(hx:DenL s.heap.get? vs.toList (xs.map .int))(hl:xs.length≤63){Q E:QS→QR→Prop}
  (k:∀g' s',Ext s.heap.get? s g' s'→Q (.bool true) s'):Qa (model prog w) A (call (.ref 473) [.ref a]) Q E s:=by
 refine QFZ (B.law (prog:=prog)) fun f h1 _ h3=>?_
 have e:(QGo (prog:=prog) B).mg (Qc "law")=some (.ref 473):=B.at' (by kernel_rfl)
 rw [e] at h1
 cases h1
 have hs:QS3 [.list (xs.map .int)] [] (.bool true):=⟨rfl,rfl,xs,rfl,hl⟩
 refine h3 A s.heap.get? s [.ref a] [] [.list (xs.map .int)] [] (.bool true) Q E hs R ⟨[],fr,fun e he=>by cases he⟩ (fun b o e=>⟨o,e,.rfl'⟩) (fun b o e=>e) (.cons (.list ho ⟨rfl,rfl,rfl⟩ rfl hx) .nil) .nil fun g' s' v x d=>?_
 cases d.out
 exact k g' s' x
end
section
open PySem.Calls
noncomputable abbrev QCT:OpenRow:=PySem.Challenge.rw_kq0067_01.row
theorem items_int:∀{xs:List WData},WShape.hasItems [] xs .int=true→∃is:List Int,xs=is.map WData.int
 |[],_=>⟨[],rfl⟩
 |d::r,h=>by
  have h':(WShape.has [] d .int&&WShape.hasItems [] r .int)=true:=h
  refine oA (Bool.and_eq_true_iff.mp h') fun h1 h2=>?_
  refine oE (hasW_int h1) fun i ζ1=>?_
  subst ζ1
  refine oE (items_int h2) fun is ζ1=>?_
  subst ζ1
  exact ⟨i::is,rfl⟩
theorem QRb{args:List WData}(h:QCT.toRowW.claim.pre args=true):∃xs:List Int,args=[.list (xs.map WData.int)]∧xs.length≤63:=by
 refine oA (pre_splitW h) fun h1 h2=>?_
 refine QBO (hasAllW_cons (R:=[]) (es:=[]) h1) fun d r ζ2 h3 h4=>?_
 subst ζ2
 obtain rfl:=hasAllW_nil h4
 refine oEA (hasW_list h3) fun ys ζ1 h5=>?_
 subst ζ1
 refine oE (items_int h5) fun xs ζ1=>?_
 subst ζ1
 refine ⟨xs,rfl,?_⟩
 have h6:(WTm.and (.not (.lt (.lit (.int ((63:Nat):Int))) (.len (.arg 0)))) (.lit (.bool true))).holds [] {args:=[.list (xs.map WData.int)]}=true:=h2
 simp only [WTm.holds,WTm.value,List.getElem?_cons_zero,Qs,less?] at h6
 by_cases q:(63:Int)<(xs.length:Int)
 ·have e:Num.less? (WData.int 63) (WData.int (xs.length:Int))=some true:=by
   show some (decide ((63:Int)<(xs.length:Int)))=_
   rw [decide_eq_true q]
  have h6':=h6
  rw [show ((63:Nat):Int)=63 from rfl,e] at h6'
  cases h6'
 ·omega
theorem lay_ints{cl:Str→Option QW}{P:Params}{ord:List DictEntry→List DictEntry}:∀(xs:List Int) (s:QR),∃vs tk,layAllW [] cl P ord (xs.map WData.int) s=some (vs,{s with toks:=tk})∧∀g:Fz,DenL g vs (xs.map D.int)
 |[],s=>⟨[],s.toks,rfl,fun _=> .nil⟩
 |x::r,s=>by
  refine QB0 (lay_ints (cl:=cl) (P:=P) (ord:=ord) r {s with toks:=s.toks+1}) fun vs tk h1 h2=>?_
  refine ⟨.int x s.toks::vs,tk,?_,fun g=> .cons (.int x s.toks) (h2 g)⟩
  show (match layW [] cl P ord (.int x) s with
   |some a=>(match layAllW [] cl P ord (r.map WData.int) a.2 with
     |some r=>some (a.1::r.1,r.2)
     |Option.none=>Option.none)
   |Option.none=>Option.none)=_
  show (match layAllW [] cl P ord (r.map WData.int) {s with toks:=s.toks+1} with
     |some r=>some (Value.int x s.toks::r.1,r.2)
     |Option.none=>Option.none)=_
  rw [h1]
theorem QLM{cl:Str→Option QW}{P:Params}{ord:List DictEntry→List DictEntry}(xs:List Int)(s:QR):∃vs tk,layAllW [] cl P ord [.list (xs.map WData.int)] s=some ([.ref s.heap.objs.size],{s with heap:=s.heap.push {cls:= .type "list",data:= .seq vs.toArray},toks:=tk})∧∀g:Fz,DenL g vs (xs.map D.int):=by
 refine QB0 (lay_ints (cl:=cl) (P:=P) (ord:=ord) xs s) fun vs tk h1 h2=>?_
 refine ⟨vs,tk,?_,h2⟩
 show (match (match layAllW [] cl P ord (xs.map WData.int) s with
   |some r=>some (Value.ref r.2.heap.objs.size,({r.2 with heap:=r.2.heap.push {cls:= .type "list",data:= .seq r.1.toArray}}:QR))
   |Option.none=>Option.none) with
   |some a=>(match layAllW [] cl P ord [] a.2 with
     |some r=>some (a.1::r.1,r.2)
     |Option.none=>Option.none)
   |Option.none=>Option.none)=_
 rw [h1]
 rfl
theorem QO6:LeftO PySem.Challenge.pw_kq0067_01 q0 loose0 (fun _=>true) Yf Ya 9000:=fun w=>endsT_map (head_l w)
theorem behind_of{w:QX}{s:QR}{h:Heap}(e:Yf s=Ya w)(k:∀b o,s.heap.get? b=some o→h.get? b=some o){mb:Str→Option QS}(nb:h.Ns builtinsNs mb)(nolim:h.NoLimit)(hb:∀x:Str,x≠"__name__"→mb x=bootBuiltins x):
  Behind w h (s.heap.nsMap mainGlobals) mb∧s.heap.objs.size=474:=by
 have e1:=congrArg Prod.fst e
 have e2:=congrArg (fun x=>x.2.1) e
 have e3:=congrArg (fun x=>x.2.2.1) e
 have e4:s.heap.isNs mainGlobals=true:=congrArg (fun x=>x.2.2.2.1) e
 have e5:(s.heap.objs.size==474)=true:=congrArg (fun x=>x.2.2.2.2) e
 have X:(KF w.params).In s.heap:=InK.of (K:=KF) (as:=KA) ka_of w s e1
 refine ⟨⟨fun a o ho=>k a o (X a o ho),?_,nb,nolim,?_,?_,hb⟩,by simpa using e5⟩
 ·exact (Heap.Ns.of_isNs e4).keeps k
 ·intro p hp
  have e2':NF.map (fun p=>s.heap.nsMap mainGlobals p.1)=NF.map (·.2):=e2
  exact List.map_inj_left.mp e2' p hp
 ·intro x hx
  have e3':BN.map (fun x=>s.heap.nsMap mainGlobals x)=BN.map (fun _=>none):=e3
  exact List.map_inj_left.mp e3' x hx
end
section
open PySem.Calls
theorem QQq:chainsOk q0=true:=by kernel_rfl
theorem QOo:opensWell PySem.Challenge.pw_kq0067_01=true:=by kernel_rfl
theorem QMp:(frees QCT.toRowW&&QCT.within.isEmpty)=true:=by kernel_rfl
theorem QEv:QCT.toRowW.promised:=⟨[.list []],by kernel_rfl,by kernel_rfl⟩
theorem QPx:∃d kwd,defOf q0 QCT.name=some (d,kwd)∧PySem.Challenge.pw_kq0067_01.theDef QCT.name=some (d.params,d.body,d.scope)∧kwWritten? d.params.kwonlyargs d.params.kw_defaults=some kwd:=by
 refine ⟨_,_,rfl,?_,?_⟩
 ·kernel_rfl
 ·kernel_rfl
theorem row_holds(said:QCT.wellSaid=true):QCT.Holds:=by
 refine QQv (frees_parts (Bool.and_eq_true_iff.mp QMp).1) fun hsame hu ha hap hm=>?_
 refine ⟨said,QEv,⟨⟨rfl,rfl,rfl,rfl,rfl,by decide+kernel⟩,QOo,rfl⟩,QEv.witness,fun w=>⟨(QO6.behind (XP:=fun _ _=>True) (fun _ _=>trivial) QQq w).1,fun s' hs'=>?_⟩⟩
 refine QFw ((QO6.behind (XP:=fun _ _=>True) (fun _ _=>trivial) QQq w).2 s' hs') fun s₀ hf hg0 s=>QEb fun hT hz hgens hg=>rA fun G y=>?_
 refine ⟨s₀,hf,hg0,s,hT,fun n hn=>?_,fun x hx=>(nomatch hx),fun x hx=>(nomatch hx),?_⟩
 ·obtain rfl:n=QCT.name:=Qy.mp hn
  refine QBO QPx fun d kwd h1 h2 h3=>?_
  exact pinned_of_view hg G h1 h2 h3
 have hgens:s.gens= #[]:=Array.eq_empty_of_size_eq_zero (beq_iff_eq.mp hgens)
 refine ClaimW.callFrom_of_specG (c:=QCT.toRowW.claim) (tree:=fun vs=>do match←nsGet mainNs QCT.name with
   |some f=>do ret (←PySem.call f vs)
   |none=>unsupported "claim.caller:no-such-global") hz hgens fun args hpre hlay ord hord=>?_
 refine oEA (QRb hpre) fun xs ζ1 hl=>?_
 subst ζ1
 refine QB0 (QLM (cl:=classAt s.heap) (P:=w.params) (ord:=ord) xs s) fun vs tk hlaid hden=>?_
 have keeps:=layAllW_keeps _ _ _ hlaid
 have hal:=layAllW_rest _ _ _ hlaid
 refine QFZ (reads_layAllW hord _ _ _ hlaid hlay _ (fun _ _ e=>e)) fun as hrd hin hold=>?_
 have L:Laid [] w s _ _ _ as:=⟨⟨ord,hord,hlaid⟩,hrd,hin,hold,keeps,hal.1.trans hgens,hal.2.2.1⟩
 refine oA (behind_of y keeps (G.T.b.keeps keeps) (G.T.nolimit.keeps keeps) G.T.builtins) fun B hsz=>?_
 refine ⟨_,_,hlaid,?_⟩
 refine QB (wpAny_nsGet B.ns ?_)
 rw [show s.heap.nsMap mainGlobals QCT.name=some (.ref 473) from B.at' (by kernel_rfl)]
 refine QB (B.run (xs:=xs) (vs:=vs.toArray) (n:=0) ⟨fun _=>rfl,by decide,by decide⟩ rfl (Heap.get?_push_size _ rfl) (hden _) hl fun g' s'' x=>?_)
 refine QC ⟨_,rfl,?_⟩
 have old:∀b o,(s.heap.push {cls:= .type "list",data:= .seq vs.toArray}).get? b=some o→s''.heap.get? b=some o:=by
  intro b o e
  refine oEA (x.heap b o e) fun o' e' sm=>?_
  by_cases q:b<gsz
  ·rw [sm.low q] at e';exact e'
  ·have lt:=Heap.lt_size e
   rw [Heap.size_push,hsz] at lt
   have hb:b=s.heap.objs.size:=by rw [hsz];exact Qk (Qq lt) (Nat.not_lt.mp q)
   subst hb
   rw [Heap.get?_push_size _ rfl] at e
   cases e
   rw [sm.exact fun es ep q=>by cases q] at e';exact e'
 refine oEE x.same fun h' tk' ζ2=>?_
 subst ζ2
 have z:=GoodWG.laid (c:=QCT.toRowW.claim) hsame rfl (ident_freeW hu ha hap) L (r:= .ok (.ret (.bool true))) ⟨.inl ⟨.bool true,.bool true,[],rfl,fun _=>rfl,.bool true,by kernel_rfl,fun _=>⟨by simp,fun a ha=>by simp at ha⟩⟩,.of_keep old,rfl,.of_eq (hal.1.trans hgens)⟩
 exact ⟨z.1,z.2.1,z.2.2,fun q=>(nomatch q)⟩
end
end KQ
set_option maxHeartbeats 8000000 in
theorem PySem.Challenge.cw_kq0067_01_holds : PySem.Challenge.rw_kq0067_01.Holds := by
 exact holds_law (by kernel_rfl) fun said => KQ.row_holds said
