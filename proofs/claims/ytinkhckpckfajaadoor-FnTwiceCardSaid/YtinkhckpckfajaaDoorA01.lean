/-
  A picture is written and read: part 1 of 13 (Ve, Ops, Mem, Ops2, Mem2, Ops3, Facts, Read, Draw, Bits).
-/
import Derived.WalkKit
import Derived.StillTailTactics
import Derived.Deep.QuietTactic
import Derived.BigQuiet
import Derived.OwnWalk
import Derived.Laws.MakeOwn
import Derived.Below
import Derived.KernelRfl
import Derived.Laws.Tables
import Derived.LaidEql
import Derived.WideLaws
import Derived.Test.YtinkhckpckfajaaDoorProg
import Derived.OrdersHeld
set_option linter.unusedVariables false
set_option linter.unusedSimpArgs false
namespace Go.Proofs.YtinkhckpckfajaaDoor
theorem O.{u} {α : Sort u} {a : α} : a = a:=rfl
open Go
abbrev Env:=Nat→Value
def upd (ρ:Env) (d:Nat) (v:Value):Env:=fun k => bif Nat.beq k d then v else ρ k
def env0:Env:=fun _ => undef
def ev (ρ:Env):Operand→Value
 | .tmp t => ρ t
 | .const v => v
 | .global g => .pointer (some ⟨g,0,none⟩)
 | .func f => .func (.func f) #[] #[]
structure Fr (n:Nat) (ρ:Env) (a:Act):Prop where
 size:a.tmps.size=n
 get:∀ k,a.tmps.getD k undef=ρ k
 defers:a.defers=[]
theorem Fr.eval {n:Nat} {ρ:Env} {a:Act} (h:Fr n ρ a):a.eval=ev ρ:=by
 funext x
 cases x with
 | tmp t => exact h.get t
 | const v => rfl
 | global g => rfl
 | func f => rfl
theorem Fr.put {n:Nat} {ρ:Env} {a:Act} (h:Fr n ρ a) {d:Nat} (hd:Nat.blt d n=true) (v:Value):Fr n (upd ρ d v) (a.put (some d) v):=by
 have hd':d<n:=by simpa [Nat.blt_eq] using hd
 refine ⟨by simp [Act.put,h.size],fun k => ?_,by simp [Act.put,h.defers]⟩
 show (a.tmps.setIfInBounds d v).getD k undef=bif Nat.beq k d then v else ρ k
 by_cases hk:k=d
 ·subst hk
  simp [Array.getD_eq_getD_getElem?,Array.getElem?_setIfInBounds,h.size,hd']
 ·have hb:Nat.beq k d=false:=by
   cases hb:Nat.beq k d with
   | true => exact absurd (Nat.eq_of_beq_eq_true hb) hk
   | false => rfl
  rw [hb,← h.get k]
  simp [Array.getD_eq_getD_getElem?,Array.getElem?_setIfInBounds,Ne.symm hk]
theorem Fr.yielded {n:Nat} {ρ:Env} {a:Act} (h:Fr n ρ a) (ops:Array Oper) {j dj:Nat} (hj:(ops[j]?).bind (·.dst)=some dj) (hd:Nat.blt dj n=true) {b:Bool} (hb:ρ dj=.bool b):Go.yielded ops a.tmps j=some b:=by
 have hd':dj<a.tmps.size:=by rw [h.size];simpa [Nat.blt_eq] using hd
 have hg:=h.get dj
 rw [hb] at hg
 have:a.tmps[dj]?=some (.bool b):=by
  rw [Array.getD_eq_getD_getElem?] at hg
  rw [Array.getElem?_eq_getElem hd'] at hg ⊢
  simpa using hg
 simp [Go.yielded,hj,this]
abbrev Post:=Exit→Env→World→Prop
def lift (n:Nat) (Q:Post):Exit→Act→World→Prop:=fun e a w => ∃ ρ,Fr n ρ a∧Q e ρ w
def VC (P:Program) (n:Nat) (c:Code) (Q:Post) (ρ:Env) (w:World):Prop:=∀ a,Fr n ρ a→c.wp P (lift n Q) a w
def VL (P:Program) (n:Nat) (ops:Array Oper) (Q:Post) (l:List Oper) (ρ:Env) (w:World):Prop:=∀ a,Fr n ρ a→wpList P ops (lift n Q) l a w
def thn (K:Env→World→Prop) (Q:Post):Post
 | .normal,ρ,w => K ρ w
 | e,ρ,w => Q e ρ w
def blk (id:Nat) (Q:Post):Post
 | .exit id',ρ,w => if id'=id then Q .normal ρ w else Q (.exit id') ρ w
 | e,ρ,w => Q e ρ w
section
variable {P:Program} {n:Nat} {Q:Post} {ρ:Env} {w:World}
theorem VC.mono {c:Code} {Q':Post} (h:VC P n c Q ρ w) (hq:∀ e ρ w,Q e ρ w→Q' e ρ w):VC P n c Q' ρ w :=
 fun a ha => wp_mono (h a ha) fun e a w ⟨ρ,hf,hQ⟩ => ⟨ρ,hf,hq _ _ _ hQ⟩
theorem Cs {x y:Code} (h:VC P n x (thn (VC P n y Q) Q) ρ w):VC P n (.seq x y) Q ρ w:=fun a ha =>
 wp_seq (wp_mono (h a ha) fun e a w ⟨ρ',hf,hQ⟩ => by
  cases e <;> first | exact hQ a hf | exact ⟨ρ',hf,hQ⟩)
theorem VC.cut {x y:Code} (J:Env→World→Prop) (h:VC P n x (thn J Q) ρ w) (k:∀ ρ' w',J ρ' w'→VC P n y Q ρ' w'):VC P n (.seq x y) Q ρ w :=
 Cs (h.mono fun e ρ w hQ => by cases e <;> first | exact k _ _ hQ | exact hQ)
theorem VC.join {c:Code} {K:Env→World→Prop} (J:Env→World→Prop) (h:VC P n c (thn J Q) ρ w) (k:∀ ρ' w',J ρ' w'→K ρ' w'):VC P n c (thn K Q) ρ w :=
 h.mono fun e ρ w hQ => by cases e <;> first | exact k _ _ hQ | exact hQ
theorem Ck (h:Q .normal ρ w):VC P n .skip Q ρ w:=fun a ha => wp_skip ⟨ρ,ha,h⟩
theorem Ct (h:Q .ret ρ w):VC P n .ret Q ρ w:=fun a ha => wp_ret ⟨ρ,ha,h⟩
theorem Cx {id:Nat} (h:Q (.exit id) ρ w):VC P n (.exit id) Q ρ w:=fun a ha => wp_exit ⟨ρ,ha,h⟩
theorem VC.goto {l:Nat} (h:Q (.goto l) ρ w):VC P n (.goto l) Q ρ w:=fun a ha => wp_goto ⟨ρ,ha,h⟩
theorem VC.label {l:Nat} (h:Q .normal ρ w):VC P n (.label l) Q ρ w:=fun a ha => wp_label ⟨ρ,ha,h⟩
theorem Cb {id:Nat} {c:Code} (h:VC P n c (blk id Q) ρ w):VC P n (.block id c) Q ρ w:=fun a ha =>
 wp_block (wp_mono (h a ha) fun e a w ⟨ρ',hf,hQ⟩ => by
  cases e with
  | exit id' =>
   simp only [Exit.inBlock]
   simp only [blk] at hQ
   by_cases hid:id'=id
   ·rw [if_pos hid] at hQ ⊢;exact ⟨ρ',hf,hQ⟩
   ·rw [if_neg hid] at hQ ⊢;exact ⟨ρ',hf,hQ⟩
  | _ => exact ⟨ρ',hf,hQ⟩)
theorem VC.cond {c:Operand} {x y:Code} {p:Prop} [Decidable p] (hc:ev ρ c=.bool (decide p)) (ht:p→VC P n x Q ρ w) (hf:¬ p→VC P n y Q ρ w):VC P n (.cond c x y) Q ρ w:=fun a ha => by
 have he:a.eval c=.bool (decide p):=by rw [ha.eval];exact hc
 by_cases hp:p
 ·exact wp_cond_true (by rw [he,decide_eq_true hp]) (ht hp a ha)
 ·exact wp_cond_false (by rw [he,decide_eq_false hp]) (hf hp a ha)
theorem CB {c:Operand} {x y:Code} {b:Bool} (hc:ev ρ c=.bool b) (ht:b=true→VC P n x Q ρ w) (hf:b=false→VC P n y Q ρ w):VC P n (.cond c x y) Q ρ w:=fun a ha => by
 have he:a.eval c=.bool b:=by rw [ha.eval];exact hc
 cases b
 ·exact wp_cond_false he (hf rfl a ha)
 ·exact wp_cond_true he (ht rfl a ha)
theorem CT {c:Operand} {x y:Code} {p:Prop} [Decidable p] (hc:ev ρ c=.bool (decide p)) (hp:p) (ht:VC P n x Q ρ w):VC P n (.cond c x y) Q ρ w:=VC.cond hc (fun _ => ht) fun h => absurd hp h
theorem CF {c:Operand} {x y:Code} {p:Prop} [Decidable p] (hc:ev ρ c=.bool (decide p)) (hp:¬ p) (hf:VC P n y Q ρ w):VC P n (.cond c x y) Q ρ w:=VC.cond hc (fun h => absurd h hp) fun _ => hf
theorem Cl {c:Code} (I:Nat→Env→World→Prop) (m:Nat) (h0:I m ρ w)
  (round:∀ m ρ w,I m ρ w→VC P n c (thn (fun ρ' w' => ∃ m',m'<m∧I m' ρ' w') Q) ρ w):VC P n (.loop c) Q ρ w:=by
 intro a ha
 let J:Nat→Act→World→Prop:=fun m a w => ∃ ρ,Fr n ρ a∧I m ρ w
 have key:∀ m a w,J m a w→∀ (b:Frame) (k:List Item) (cs:List Frame),
   ∃ e a' w',lift n Q e a' w'∧Arrives P (lone (b.at a (.code c :: .inLoop c :: k)) cs w) b k cs e a' w':=by
  intro m
  induction m using Nat.strongRecOn with
  | _ m ih =>
   intro a w ⟨ρ,hf,hI⟩ b k cs
   obtain ⟨e,a₁,w₁,⟨ρ₁,hf₁,hq⟩,harr⟩:=round m ρ w hI a hf b (.inLoop c :: k) cs
   cases e with
   | normal =>
    obtain ⟨m',hlt,hI'⟩:=hq
    obtain ⟨e₂,a₂,w₂,hq₂,harr₂⟩:=ih m' hlt a₁ w₁ ⟨ρ₁,hf₁,hI'⟩ b k cs
    exact ⟨e₂,a₂,w₂,hq₂,.of_steps (Steps.trans harr (.one step_inLoop)) harr₂⟩
   | exit id => exact ⟨_,a₁,w₁,⟨ρ₁,hf₁,hq⟩,.pass (x:=.inLoop c) rfl (fun _ _ => .inl (by simp)) harr⟩
   | goto l => exact ⟨_,a₁,w₁,⟨ρ₁,hf₁,hq⟩,.pass (x:=.inLoop c) rfl (fun _ _ => .inl (by simp)) harr⟩
   | ret => exact ⟨_,a₁,w₁,⟨ρ₁,hf₁,hq⟩,.pass (x:=.inLoop c) rfl (fun _ _ => .inl (by simp)) harr⟩
   | panic ch => exact ⟨_,a₁,w₁,⟨ρ₁,hf₁,hq⟩,.pass (x:=.inLoop c) rfl (fun _ _ => .inl (by simp)) harr⟩
   | outgrown => exact ⟨_,a₁,w₁,⟨ρ₁,hf₁,hq⟩,.pass (x:=.inLoop c) rfl (fun _ _ => .inl (by simp)) harr⟩
 intro b k cs
 obtain ⟨e,a',w',hq,harr⟩:=key m a w ⟨ρ,ha,h0⟩ b k cs
 exact ⟨e,a',w',hq,.of_steps (.one step_loop) harr⟩
def jmp (l:Nat) (J:Env→World→Prop) (Q:Post):Post
 | .goto l',ρ,w => l'=l∧J ρ w
 | e,ρ,w => Q e ρ w
def nojmp (Q:Post):Post
 | .goto _,_,_ => False
 | e,ρ,w => Q e ρ w
theorem VC.scope {c rest:Code} {l:Nat} (J:Env→World→Prop) (hl:findLabel c l=some rest) (h:VC P n c (jmp l J Q) ρ w) (k:∀ ρ' w',J ρ' w'→VC P n rest (nojmp Q) ρ' w'):VC P n (.scope c) Q ρ w:=by
 intro a ha b kk cs
 obtain ⟨e,a₁,w₁,⟨ρ₁,hf₁,hq⟩,harr⟩:=h a ha b (.inScope c :: kk) cs
 cases e with
 | normal => exact ⟨.normal,a₁,w₁,⟨ρ₁,hf₁,hq⟩,.head step_scope (Steps.trans harr (.one step_inScope))⟩
 | exit id => exact ⟨.exit id,a₁,w₁,⟨ρ₁,hf₁,hq⟩,fun k' hk => .head step_scope (harr k' (by simp [exitTo,hk]))⟩
 | ret => exact ⟨_,a₁,w₁,⟨ρ₁,hf₁,hq⟩,.of_steps (.one step_scope) harr⟩
 | panic ch => exact ⟨_,a₁,w₁,⟨ρ₁,hf₁,hq⟩,.of_steps (.one step_scope) harr⟩
 | outgrown => exact ⟨_,a₁,w₁,⟨ρ₁,hf₁,hq⟩,.of_steps (.one step_scope) harr⟩
 | goto l' =>
  obtain ⟨rfl,hJ⟩:=hq
  have h1:Steps P (lone (b.at a (.code (.scope c) :: kk)) cs w) (lone (b.at a₁ (.code rest :: .inScope c :: kk)) cs w₁) :=
   .head step_scope (harr _ (by simp [gotoIn,hl]))
  obtain ⟨e,a₂,w₂,⟨ρ₂,hf₂,hq₂⟩,harr₂⟩:=k ρ₁ w₁ hJ a₁ hf₁ b (.inScope c :: kk) cs
  cases e with
  | normal => exact ⟨.normal,a₂,w₂,⟨ρ₂,hf₂,hq₂⟩,h1.trans (Steps.trans harr₂ (.one step_inScope))⟩
  | exit id => exact ⟨.exit id,a₂,w₂,⟨ρ₂,hf₂,hq₂⟩,fun k' hk => h1.trans (harr₂ k' (by simp [exitTo,hk]))⟩
  | ret => exact ⟨_,a₂,w₂,⟨ρ₂,hf₂,hq₂⟩,.of_steps h1 harr₂⟩
  | panic ch => exact ⟨_,a₂,w₂,⟨ρ₂,hf₂,hq₂⟩,.of_steps h1 harr₂⟩
  | outgrown => exact ⟨_,a₂,w₂,⟨ρ₂,hf₂,hq₂⟩,.of_steps h1 harr₂⟩
  | goto l => exact hq₂.elim
theorem VC.scopeF {c X:Code} {l:Nat} (J:Env→World→Prop) (hl:findLabel c l=some (.seq .skip X)) (k:∀ ρ' w',J ρ' w'→VC P n X (nojmp Q) ρ' w')
  (h:(∀ ρ' w',J ρ' w'→VC P n X (jmp l J Q) ρ' w')→VC P n c (jmp l J Q) ρ w):VC P n (.scope c) Q ρ w :=
 VC.scope J hl (h fun ρ' w' hJ => (k ρ' w' hJ).mono fun e ρ w hQ => by cases e <;> first | exact hQ | exact hQ.elim)
  fun ρ' w' hJ => Cs (Ck (k ρ' w' hJ))
theorem jmp_r {l:Nat} {J:Env→World→Prop} (h:Q .ret ρ w):jmp l J Q .ret ρ w:=h
theorem jmp_g {l:Nat} {J:Env→World→Prop} (h:J ρ w):jmp l J Q (.goto l) ρ w:=⟨rfl,h⟩
theorem noj_r (h:Q .ret ρ w):nojmp Q .ret ρ w:=h
theorem tn {K:Env→World→Prop} (h:K ρ w):thn K Q .normal ρ w:=h
theorem thn_r {K:Env→World→Prop} (h:Q .ret ρ w):thn K Q .ret ρ w:=h
theorem thn_x {K:Env→World→Prop} {id:Nat} (h:Q (.exit id) ρ w):thn K Q (.exit id) ρ w:=h
theorem thn_g {K:Env→World→Prop} {id:Nat} (h:Q (.goto id) ρ w):thn K Q (.goto id) ρ w:=h
theorem blk_n {id:Nat} (h:Q .normal ρ w):blk id Q .normal ρ w:=h
theorem blk_r {id:Nat} (h:Q .ret ρ w):blk id Q .ret ρ w:=h
theorem blk_x {id:Nat} (h:Q .normal ρ w):blk id Q (.exit id) ρ w:=by simp only [blk,if_true];exact h
theorem blk_y {id id':Nat} (hne:Nat.beq id' id=false) (h:Q (.exit id') ρ w):blk id Q (.exit id') ρ w:=by
 simp only [blk]
 rw [if_neg (fun e => by subst e;simp at hne)]
 exact h
theorem Cr {id:Nat} {l:List Oper} (h:VL P n l.toArray Q l ρ w):VC P n (.region id l.toArray false) Q ρ w:=fun a ha => wp_region_lit (h a ha)
theorem Ln {ops:Array Oper} (h:Q .normal ρ w):VL P n ops Q [] ρ w:=fun a ha => ⟨ρ,ha,h⟩
theorem Cy {id : Nat} {l : List Oper} {y : Code} (h : VL P n l.toArray (thn (VC P n y Q) Q) l ρ w) : VC P n (.seq (.region id l.toArray false) y) Q ρ w:=Cs (Cr h)
theorem Lt {ops : Array Oper} {K : Env → World → Prop} (h : K ρ w) : VL P n ops (thn K Q) [] ρ w:=Ln (tn h)
def Yld (P:Program) (e:Operand→Value) (o:Oper) (w:World) (v:Value) (w':World):Prop:=(execOp e o).run P w=.ok (.value v) w'
def Skp (P:Program) (e:Operand→Value) (o:Oper) (w:World) (w':World):Prop:=(execOp e o).run P w=.ok .skip w'
theorem Lo {ops:Array Oper} {rest:List Oper} {op:Op} {ty:TypeId} {pos:String} {after:Array Edge} {d:Nat} {v:Value} {w':World}
  (hd:Nat.blt d n=true) (hy:Yld P (ev ρ) ⟨some d,op,ty,pos,after,none⟩ w v w') (h:VL P n ops Q rest (upd ρ d v) w') :
  VL P n ops Q (⟨some d,op,ty,pos,after,none⟩ :: rest) ρ w:=fun a ha => by
 unfold wpList
 rw [if_pos (by simp [Region.wanted])]
 refine .inl ?_
 unfold Oper.wp
 rw [ha.eval,hy]
 exact h _ (ha.put hd v)
theorem VL.st {ops:Array Oper} {rest:List Oper} {op:Op} {ty:TypeId} {pos:String} {after:Array Edge} {w':World}
  (hy:Skp P (ev ρ) ⟨none,op,ty,pos,after,none⟩ w w') (h:VL P n ops Q rest ρ w') :
  VL P n ops Q (⟨none,op,ty,pos,after,none⟩ :: rest) ρ w:=fun a ha => by
 unfold wpList
 rw [if_pos (by simp [Region.wanted])]
 refine .inl ?_
 unfold Oper.wp
 rw [ha.eval,hy]
 exact h _ ha
theorem LG {l:List Oper} {rest:List Oper} {op:Op} {ty:TypeId} {pos:String} {after:Array Edge} {d:Nat} {v:Value} {w':World} {j dj:Nat} {b:Bool}
  (hj:(l[j]?).bind (·.dst)=some dj) (hdj:Nat.blt dj n=true) (hb:ρ dj=.bool b)
  (hd:Nat.blt d n=true) (hy:Yld P (ev ρ) ⟨some d,op,ty,pos,after,some (j,b)⟩ w v w') (h:VL P n l.toArray Q rest (upd ρ d v) w') :
  VL P n l.toArray Q (⟨some d,op,ty,pos,after,some (j,b)⟩ :: rest) ρ w:=fun a ha => by
 unfold wpList
 rw [if_pos (by simp [Region.wanted,ha.yielded l.toArray (j:=j) (by simpa using hj) hdj hb])]
 refine .inl ?_
 unfold Oper.wp
 rw [ha.eval,hy]
 exact h _ (ha.put hd v)
theorem VL.skipG {l:List Oper} {rest:List Oper} {op:Op} {ty:TypeId} {pos:String} {after:Array Edge} {d:Nat} {j dj:Nat} {b b':Bool}
  (hj:(l[j]?).bind (·.dst)=some dj) (hdj:Nat.blt dj n=true) (hb:ρ dj=.bool b) (hbb:b=!b')
  (hd:Nat.blt d n=true) (h:VL P n l.toArray Q rest (upd ρ d undef) w) :
  VL P n l.toArray Q (⟨some d,op,ty,pos,after,some (j,b')⟩ :: rest) ρ w:=fun a ha => by
 unfold wpList
 rw [if_neg (by simp [Region.wanted,ha.yielded l.toArray (j:=j) (by simpa using hj) hdj hb,hbb])]
 exact h _ (ha.put hd _)
def Ent (P:Program) (f:FuncId):Prop:=∀ (args:Array Value) (w:World),(callFunc f args).run P w=.ok (.enter f args) w
theorem VL.call {ops:Array Oper} {rest:List Oper} {f:FuncId} {xs:Array Operand} {ts:Array TypeId} {ty:TypeId} {pos:String} {after:Array Edge} {d:Nat} {vs:List Value} {R:Ending→World→Prop}
  (hd:Nat.blt d n=true) (he:Ent P f) (hc:Calls P f vs.toArray w R) (hx:xs.toList.map (ev ρ)=vs)
  (h:∀ e w',R e w'→∃ v,e=.returned v∧VL P n ops Q rest (upd ρ d v) w') :
  VL P n ops Q (⟨some d,.call ⟨.value (.func f),xs,ts⟩,ty,pos,after,none⟩ :: rest) ρ w:=fun a ha => by
 unfold wpList
 rw [if_pos (by simp [Region.wanted])]
 refine .inl ?_
 have hr:(execOp (ev ρ) ⟨some d,.call ⟨.value (.func f),xs,ts⟩,ty,pos,after,none⟩).run P w=.ok (.enter f vs.toArray) w:=by
  have hx:xs.map (ev ρ)=vs.toArray:=by apply Array.ext';rw [Array.toList_map,hx]
  have:=he vs.toArray w
  simp only [execOp,resolve,Deferred.ofValue,ev,Sem.run_bind,Sem.run_pure,Result.andThen_ok,hx,Go.invoke,Array.append_empty]
  simpa using this
 unfold Oper.wp
 rw [ha.eval,hr]
 refine hc.mono fun e w' hR => ?_
 obtain ⟨v,rfl,hv⟩:=h e w' hR
 exact hv _ (ha.put hd v)
end
def VS (P:Program) (n:Nat) (ops:Array Oper) (w:World) (K:Env→Prop) (l:List Oper) (ρ:Env):Prop:=∀ a,Fr n ρ a→wpStill P ops w (fun a' => ∃ ρ',Fr n ρ' a'∧K ρ') l a
structure Same (w w':World):Prop where
 heap:w'.heap=w.heap
 os:w'.os=w.os
 tape:w'.tape=w.tape
 output:w'.output=w.output
theorem wpStill_mono {P:Program} {ops:Array Oper} {w:World} {K K':Act→Prop} (h:∀ a,K a→K' a):∀ (l:List Oper) (a:Act),wpStill P ops w K l a→wpStill P ops w K' l a
 | [],a,hh => h a hh
 | o :: rest,a,hh => by
  unfold wpStill at hh ⊢
  split
  ·rename_i hw;rw [if_pos hw] at hh;exact Oper.still_mono (wpStill_mono h rest) hh
  ·rename_i hw;rw [if_neg hw] at hh;exact wpStill_mono h rest _ hh
section
variable {P:Program} {n:Nat} {Q:Post} {ρ:Env} {w:World}
theorem VC.drawTail {id:Nat} {l:List Oper} (k:Nat) (hm:P.follows .mixedOrders=true) (hB:Region.lexTailB .any l.toArray k=true)
  (h:∀ w',Same w w'→VS P n l.toArray w' (fun ρ' => VL P n l.toArray Q (l.drop k) ρ' w') (l.take k) ρ):VC P n (.region id l.toArray true) Q ρ w:=fun a ha =>
 wp_region_still_tail k hm hB (wpStill_mono (fun a' ⟨ρ',hf,hv⟩ => hv a' hf) _ _ (h w.drew ⟨rfl,rfl,rfl,rfl⟩ a ha))
theorem Cd {id:Nat} {l:List Oper} (hm:P.follows .mixedOrders=true) (hB:Region.lexB .any l.toArray=true)
  (h:∀ w',Same w w'→VS P n l.toArray w' (fun ρ' => Q .normal ρ' w') l ρ):VC P n (.region id l.toArray true) Q ρ w:=fun a ha =>
 wp_region_still_lit hm hB (h w.drew ⟨rfl,rfl,rfl,rfl⟩ a ha)
theorem Sn {ops:Array Oper} {K:Env→Prop} (h:K ρ):VS P n ops w K [] ρ:=fun a ha => ⟨ρ,ha,h⟩
theorem So {ops:Array Oper} {K:Env→Prop} {rest:List Oper} {op:Op} {ty:TypeId} {pos:String} {after:Array Edge} {d:Nat} {v:Value}
  (hd:Nat.blt d n=true) (hy:Yld P (ev ρ) ⟨some d,op,ty,pos,after,none⟩ w v w) (h:VS P n ops w K rest (upd ρ d v)) :
  VS P n ops w K (⟨some d,op,ty,pos,after,none⟩ :: rest) ρ:=fun a ha => by
 unfold wpStill
 rw [if_pos (by simp [Region.wanted])]
 unfold Oper.still
 rw [ha.eval,hy]
 exact ⟨rfl,h _ (ha.put hd v)⟩
theorem VS.opG {l:List Oper} {K:Env→Prop} {rest:List Oper} {op:Op} {ty:TypeId} {pos:String} {after:Array Edge} {d:Nat} {v:Value} {j dj:Nat} {b:Bool}
  (hj:(l[j]?).bind (·.dst)=some dj) (hdj:Nat.blt dj n=true) (hb:ρ dj=.bool b)
  (hd:Nat.blt d n=true) (hy:Yld P (ev ρ) ⟨some d,op,ty,pos,after,some (j,b)⟩ w v w) (h:VS P n l.toArray w K rest (upd ρ d v)) :
  VS P n l.toArray w K (⟨some d,op,ty,pos,after,some (j,b)⟩ :: rest) ρ:=fun a ha => by
 unfold wpStill
 rw [if_pos (by simp [Region.wanted,ha.yielded l.toArray (j:=j) (by simpa using hj) hdj hb])]
 unfold Oper.still
 rw [ha.eval,hy]
 exact ⟨rfl,h _ (ha.put hd v)⟩
theorem VS.skipG {l:List Oper} {K:Env→Prop} {rest:List Oper} {op:Op} {ty:TypeId} {pos:String} {after:Array Edge} {d:Nat} {j dj:Nat} {b b':Bool}
  (hj:(l[j]?).bind (·.dst)=some dj) (hdj:Nat.blt dj n=true) (hb:ρ dj=.bool b) (hbb:b=!b')
  (hd:Nat.blt d n=true) (h:VS P n l.toArray w K rest (upd ρ d undef)) :
  VS P n l.toArray w K (⟨some d,op,ty,pos,after,some (j,b')⟩ :: rest) ρ:=fun a ha => by
 unfold wpStill
 rw [if_neg (by simp [Region.wanted,ha.yielded l.toArray (j:=j) (by simpa using hj) hdj hb,hbb])]
 exact h _ (ha.put hd _)
theorem VS.call {ops:Array Oper} {K:Env→Prop} {rest:List Oper} {f:FuncId} {xs:Array Operand} {ts:Array TypeId} {ty:TypeId} {pos:String} {after:Array Edge} {d:Nat} {vs:List Value} {v:Value}
  (hd:Nat.blt d n=true) (he:Ent P f) (hc:Calls P f vs.toArray w fun e w' => e=.returned v∧w'=w) (hx:xs.toList.map (ev ρ)=vs)
  (h:VS P n ops w K rest (upd ρ d v)) :
  VS P n ops w K (⟨some d,.call ⟨.value (.func f),xs,ts⟩,ty,pos,after,none⟩ :: rest) ρ:=fun a ha => by
 unfold wpStill
 rw [if_pos (by simp [Region.wanted])]
 have hr:(execOp (ev ρ) ⟨some d,.call ⟨.value (.func f),xs,ts⟩,ty,pos,after,none⟩).run P w=.ok (.enter f vs.toArray) w:=by
  have hx:xs.map (ev ρ)=vs.toArray:=by apply Array.ext';rw [Array.toList_map,hx]
  have:=he vs.toArray w
  simp only [execOp,resolve,Deferred.ofValue,ev,Sem.run_bind,Sem.run_pure,Result.andThen_ok,hx,Go.invoke,Array.append_empty]
  simpa using this
 unfold Oper.still
 rw [ha.eval,hr]
 exact ⟨rfl,v,hc,h _ (ha.put hd v)⟩
def argsEnv (vs:List Value):Env:=fun k => vs.getD k undef
def Done (P:Program) (fn:Func) (R:Ending→World→Prop):Post
 | .ret,ρ,w | .normal,ρ,w => ∃ v,(∀ tmps:Array Value,(∀ k,tmps.getD k undef=ρ k)→(results fn tmps).run P w=.ok v w)∧R (.returned v) w
 | _,_,_ => False
theorem enter {f:FuncId} {fn:Func} {c:Code} {vs:List Value} {R:Ending→World→Prop} {m:Nat} (hf:P.funcs[f]?=some fn) (hb:fn.body=some c) (hm:fn.ntmps=m) (hn:Nat.ble vs.length m=true)
  (h:VC P m c (Done P fn R) (argsEnv vs) w):Calls P f vs.toArray w R:=by
 subst hm
 have hn:=Nat.le_of_ble_eq_true hn
 refine calls_of_wp hf hb ?_
 have ha:Fr fn.ntmps (argsEnv vs) { tmps:=vs.toArray++Array.replicate (fn.ntmps - vs.toArray.size) undef,defers:=[] }:=by
  refine ⟨by simp;omega,fun k => ?_,rfl⟩
  simp only [argsEnv,Array.getD_eq_getD_getElem?,Array.getElem?_append,List.size_toArray,List.getElem?_toArray,List.getD_eq_getElem?_getD]
  by_cases hk:k<vs.length
  ·simp [hk]
  ·rw [if_neg hk,Array.getElem?_replicate,List.getElem?_eq_none (by omega)]
   split <;> rfl
 refine wp_mono (h _ ha) fun e a w ⟨ρ,hf,hQ⟩ => ?_
 cases e with
 | ret => obtain ⟨v,h1,h2⟩:=hQ;exact ⟨hf.defers,v,h1 _ hf.get,h2⟩
 | normal => obtain ⟨v,h1,h2⟩:=hQ;exact ⟨hf.defers,v,h1 _ hf.get,h2⟩
 | _ => exact hQ.elim
theorem Done.end0 {fn:Func} {R:Ending→World→Prop} (hr:fn.results=#[]) (h:R (.returned (.tuple #[])) w):Done P fn R .normal ρ w:=⟨_,fun tmps _ => results_none hr tmps P w,h⟩
theorem Done.ret1 {fn:Func} {R:Ending→World→Prop} {t:Nat} {v:Value} (hr:fn.results=#[.tmp t]) (hv:ρ t=v) (h:R (.returned v) w):Done P fn R .ret ρ w :=
 ⟨v,fun tmps ht => by rw [results_tmp hr tmps P w,ht,hv],h⟩
theorem Done.ret2 {fn:Func} {R:Ending→World→Prop} {t t':Nat} {v v':Value} (hr:fn.results=#[.tmp t,.tmp t']) (hv:ρ t=v) (hv':ρ t'=v') (h:R (.returned (.tuple #[v,v'])) w):Done P fn R .ret ρ w :=
 ⟨_,fun tmps ht => by rw [results_tmp2 hr tmps P w,ht,ht,hv,hv'],h⟩
theorem Done.ret3 {fn:Func} {R:Ending→World→Prop} {a b c:Nat} {v1 v2 v3:Value} (hr:fn.results=#[.tmp a,.tmp b,.tmp c]) (h1:ρ a=v1) (h2:ρ b=v2) (h3:ρ c=v3) (h:R (.returned (.tuple #[v1,v2,v3])) w):Done P fn R .ret ρ w :=
 ⟨_,fun tmps ht => by simp only [results,hr];simp [ht,h1,h2,h3],h⟩
theorem Done.ret4 {fn:Func} {R:Ending→World→Prop} {a b c d:Nat} {v1 v2 v3 v4:Value} (hr:fn.results=#[.tmp a,.tmp b,.tmp c,.tmp d]) (h1:ρ a=v1) (h2:ρ b=v2) (h3:ρ c=v3) (h4:ρ d=v4) (h:R (.returned (.tuple #[v1,v2,v3,v4])) w):Done P fn R .ret ρ w :=
 ⟨_,fun tmps ht => by simp only [results,hr];simp [ht,h1,h2,h3,h4],h⟩
end
end Go.Proofs.YtinkhckpckfajaaDoor
namespace Go.Proofs.YtinkhckpckfajaaDoor
open Go
def scalar:TypeDesc→Bool
 | .struct _ | .array _ _ => false
 | _ => true
def LD1 (P:Program) (t:TypeId):Prop:=∀ (a:Addr) (w:World) (v:Value),w.cell? a=some v→(Instr.loadAt t (.pointer (some a))).run P w=.ok v w
def LDn (P:Program) (t:TypeId) (k:Nat):Prop:=∀ (b off:Nat) (w:World) (cs:List Value),cs.length=k→(∀ j,j<k→w.cell? ⟨b,off+j,none⟩=cs[j]?)→(Instr.loadAt t (.pointer (some ⟨b,off,none⟩))).run P w=.ok (.agg cs.toArray) w
def ST1 (P:Program) (t:TypeId):Prop:=∀ (a:Addr) (w:World) (v old:Value),w.cell? a=some old→w.frozen? a=false→v.oneCell'=true→(Instr.storeAt t (.pointer (some a)) v).run P w=.ok () (w.setCell a v)
def FA (P:Program) (s f k:Nat):Prop:=∀ (b off:Nat) (w:World),(Instr.fieldAt s (.pointer (some ⟨b,off,none⟩)) f).run P w=.ok (.pointer (some ⟨b,off+k,none⟩)) w
def SIZ (P:Program) (t k:Nat):Prop:=∀ w:World,(sizeOf t).run P w=.ok k w
section
variable {P:Program}
theorem add_lit0 (b off k:Nat):(⟨b,off,none⟩:Addr).add k=⟨b,off+k,none⟩:=by
 unfold Addr.add
 split
 ·rename_i h;subst h;rfl
 ·rfl
theorem siz {t k:Nat} (h:(P.info? t).map (·.size)=some k):SIZ P t k:=fun w => by
 obtain ⟨i,hi,rfl⟩:=Option.map_eq_some_iff.1 h
 simp [sizeOf,typeInfo,hi]
theorem ld1 {t:TypeId} {d:TypeDesc} (hu:P.underlying t=some d) (hd:scalar d=true):LD1 P t:=fun a w v hv => by
 have h1:(isAgg t).run P w=.ok false w:=by
  simp only [isAgg,Sem.run_bind,run_underlying hu,Result.andThen_ok]
  cases d <;> simp_all [scalar]
 simp only [Instr.loadAt,Instr.sureAddr,loadVar,Sem.run_bind,Sem.run_pure,Result.andThen_ok,h1]
 simp [hv]
theorem ldn {t k:Nat} {d:TypeDesc} (hu:P.underlying t=some d) (hd:scalar d=false) (hs:(P.info? t).map (·.size)=some k):LDn P t k:=fun b off w cs hl hc => by
 have h1:(isAgg t).run P w=.ok true w:=by
  simp only [isAgg,Sem.run_bind,run_underlying hu,Result.andThen_ok]
  cases d <;> simp_all [scalar]
 simp only [Instr.loadAt,Instr.sureAddr,loadVar,Sem.run_bind,Sem.run_pure,Result.andThen_ok,h1,if_true,siz hs w]
 subst hl
 rw [run_loadCells_list w ⟨b,off,none⟩ cs fun j v hj => by
  have hlt:j<cs.length:=(List.getElem?_eq_some_iff.1 hj).1
  rw [add_lit0,hc j hlt,hj]]
 rfl
theorem oneCell_cells {v:Value} (h:v.oneCell'=true):v.cells=#[v]:=by cases v <;> first | rfl | cases h
theorem st1 {t:TypeId} (hs:(P.info? t).map (·.size)=some 1):ST1 P t:=fun a w v old hc hf hv => by
 have:=run_store P w a v .plain hv
 simp only [Instr.storeAt,Instr.sureAddr,storeVar,Sem.run_bind,Sem.run_pure,Result.andThen_ok,siz hs w,oneCell_cells hv]
 simp only [List.size_toArray,List.length_cons,List.length_nil,ne_eq,not_true,if_false,Sem.run_bind,Sem.run_pure,Result.andThen_ok,storeCells,add_lit0]
 have ha:a.add 0=a:=rfl
 rw [ha,this]
 simp [stored,hc,hf]
variable {e:Operand→Value} {d:Option Tmp} {ty:TypeId} {pos:String} {after:Array Edge} {g:Option (Nat × Bool)} {w:World}
theorem Y.mov {x:Operand} {v:Value} (h:e x=v):Yld P e ⟨d,.move x,ty,pos,after,g⟩ w v w:=by subst h;rfl
theorem Y.asg {x:Operand} {v:Value} (h:e x=v):Yld P e ⟨d,.assign x,ty,pos,after,g⟩ w v w:=by subst h;rfl
theorem YI {x:Operand} {k:IntKind} {i:Int} (h:e x=.int k i):Yld P e ⟨d,.move x,ty,pos,after,g⟩ w (.int k i) w:=Y.mov h
theorem YP {x:Operand} {a:Option Addr} (h:e x=.pointer a):Yld P e ⟨d,.move x,ty,pos,after,g⟩ w (.pointer a) w:=Y.mov h
theorem Y.movB {x:Operand} {b:Bool} (h:e x=.bool b):Yld P e ⟨d,.move x,ty,pos,after,g⟩ w (.bool b) w:=Y.mov h
theorem YS {x:Operand} {a:Option Addr} {m c:Nat} (h:e x=.slice a m c):Yld P e ⟨d,.move x,ty,pos,after,g⟩ w (.slice a m c) w:=Y.mov h
theorem Y.movT {x:Operand} {cs:Array Value} (h:e x=.tuple cs):Yld P e ⟨d,.move x,ty,pos,after,g⟩ w (.tuple cs) w:=Y.mov h
theorem AI {x:Operand} {k:IntKind} {i:Int} (h:e x=.int k i):Yld P e ⟨d,.assign x,ty,pos,after,g⟩ w (.int k i) w:=Y.asg h
theorem Y.asgP {x:Operand} {a:Option Addr} (h:e x=.pointer a):Yld P e ⟨d,.assign x,ty,pos,after,g⟩ w (.pointer a) w:=Y.asg h
theorem Y.asgB {x:Operand} {b:Bool} (h:e x=.bool b):Yld P e ⟨d,.assign x,ty,pos,after,g⟩ w (.bool b) w:=Y.asg h
theorem AS {x:Operand} {a:Option Addr} {m c:Nat} (h:e x=.slice a m c):Yld P e ⟨d,.assign x,ty,pos,after,g⟩ w (.slice a m c) w:=Y.asg h
theorem Y.pick {c x y:Operand} {b:Bool} {v:Value} (hc:e c=.bool b) (h:(bif b then e x else e y)=v):Yld P e ⟨d,.pick c x y,ty,pos,after,g⟩ w v w:=by
 subst h
 unfold Yld
 simp only [execOp,hc,asBool,Sem.run_bind,Sem.run_pure,Result.andThen_ok]
 cases b <;> rfl
theorem Y.nilP {x:Operand} {a:Addr} (h:e x=.pointer (some a)):Yld P e ⟨d,.nilCheck x,ty,pos,after,g⟩ w (.pointer (some a)) w:=by
 unfold Yld;simp only [execOp,h];rfl
theorem Y.fa {s f k:Nat} {x:Operand} {b off:Nat} (F:FA P s f k) (h:e x=.pointer (some ⟨b,off,none⟩)):Yld P e ⟨d,.fieldAddr s x f,ty,pos,after,g⟩ w (.pointer (some ⟨b,off+k,none⟩)) w:=by
 unfold Yld;simp only [execOp,h,Sem.run_bind,F b off w,Result.andThen_ok];rfl
theorem Y.ld {t:TypeId} {x:Operand} {a:Addr} {v:Value} (F:LD1 P t) (h:e x=.pointer (some a)) (hc:w.cell? a=some v):Yld P e ⟨d,.load t x,ty,pos,after,g⟩ w v w:=by
 unfold Yld;simp only [execOp,h,Sem.run_bind,F a w v hc,Result.andThen_ok];rfl
theorem Y.ldn {t k:Nat} {x:Operand} {b off:Nat} {cs:List Value} (F:LDn P t k) (h:e x=.pointer (some ⟨b,off,none⟩)) (hl:cs.length=k) (hc:∀ j,j<k→w.cell? ⟨b,off+j,none⟩=cs[j]?) :
  Yld P e ⟨d,.load t x,ty,pos,after,g⟩ w (.agg cs.toArray) w:=by
 unfold Yld;simp only [execOp,h,Sem.run_bind,F b off w cs hl hc,Result.andThen_ok];rfl
theorem Sk.st {t:TypeId} {x y:Operand} {a:Addr} {v old:Value} (F:ST1 P t) (h:e x=.pointer (some a)) (hy:e y=v) (hv:v.oneCell'=true) (hc:w.cell? a=some old) (hf:w.frozen? a=false) :
  Skp P e ⟨d,.store t x y,ty,pos,after,g⟩ w (w.setCell a v):=by
 unfold Skp;simp only [execOp,h,hy,Sem.run_bind,F a w v old hc hf hv,Result.andThen_ok];rfl
theorem eqGuard_int {op:BinOp} {t:TypeId} {x y:Operand} {k k':IntKind} {m n:Int}:(eqGuard op t x y (.int k m) (.int k' n)).run P w=.ok () w:=by
 unfold eqGuard
 cases op <;> rfl
section
variable {t t':TypeId} {x y:Operand} {k:IntKind} {m n:Int}
theorem Y.addW (hx:e x=.int k m) (hy:e y=.int k n):Yld P e ⟨d,.binOp .add t x y t',ty,pos,after,g⟩ w (.int k (k.wrap (m+n))) w:=by
 unfold Yld;simp only [execOp,hx,hy,Sem.run_bind,eqGuard_int,Result.andThen_ok,binOp,ne_eq,not_true,if_false];rfl
theorem Y.subW (hx:e x=.int k m) (hy:e y=.int k n):Yld P e ⟨d,.binOp .sub t x y t',ty,pos,after,g⟩ w (.int k (k.wrap (m - n))) w:=by
 unfold Yld;simp only [execOp,hx,hy,Sem.run_bind,eqGuard_int,Result.andThen_ok,binOp,ne_eq,not_true,if_false];rfl
theorem Y.mulW (hx:e x=.int k m) (hy:e y=.int k n):Yld P e ⟨d,.binOp .mul t x y t',ty,pos,after,g⟩ w (.int k (k.wrap (m * n))) w:=by
 unfold Yld;simp only [execOp,hx,hy,Sem.run_bind,eqGuard_int,Result.andThen_ok,binOp,ne_eq,not_true,if_false];rfl
theorem Y.quoW (hx:e x=.int k m) (hy:e y=.int k n) (h0:n≠0):Yld P e ⟨d,.binOp .quo t x y t',ty,pos,after,g⟩ w (.int k (k.wrap (m.tdiv n))) w:=by
 unfold Yld;simp only [execOp,hx,hy,Sem.run_bind,eqGuard_int,Result.andThen_ok,binOp,ne_eq,not_true,if_false,Op.intDiv,if_neg h0];rfl
theorem Y.rem (hx:e x=.int k m) (hy:e y=.int k n) (h0:n≠0):Yld P e ⟨d,.binOp .rem t x y t',ty,pos,after,g⟩ w (.int k (m.tmod n)) w:=by
 unfold Yld;simp only [execOp,hx,hy,Sem.run_bind,eqGuard_int,Result.andThen_ok,binOp,ne_eq,not_true,if_false,Op.intDiv,if_neg h0];rfl
theorem Y.lss (hx:e x=.int k m) (hy:e y=.int k n):Yld P e ⟨d,.binOp .lss t x y t',ty,pos,after,g⟩ w (.bool (decide (m<n))) w:=by
 unfold Yld;simp only [execOp,hx,hy,Sem.run_bind,eqGuard_int,Result.andThen_ok,binOp,ne_eq,not_true,if_false];rfl
theorem Y.leq (hx:e x=.int k m) (hy:e y=.int k n):Yld P e ⟨d,.binOp .leq t x y t',ty,pos,after,g⟩ w (.bool (decide (m≤n))) w:=by
 unfold Yld;simp only [execOp,hx,hy,Sem.run_bind,eqGuard_int,Result.andThen_ok,binOp,ne_eq,not_true,if_false];rfl
theorem Y.gtr (hx:e x=.int k m) (hy:e y=.int k n):Yld P e ⟨d,.binOp .gtr t x y t',ty,pos,after,g⟩ w (.bool (decide (m > n))) w:=by
 unfold Yld;simp only [execOp,hx,hy,Sem.run_bind,eqGuard_int,Result.andThen_ok,binOp,ne_eq,not_true,if_false];rfl
theorem Y.geq (hx:e x=.int k m) (hy:e y=.int k n):Yld P e ⟨d,.binOp .geq t x y t',ty,pos,after,g⟩ w (.bool (decide (m ≥ n))) w:=by
 unfold Yld;simp only [execOp,hx,hy,Sem.run_bind,eqGuard_int,Result.andThen_ok,binOp,ne_eq,not_true,if_false];rfl
theorem Y.eql (hx:e x=.int k m) (hy:e y=.int k n):Yld P e ⟨d,.binOp .eql t x y t',ty,pos,after,g⟩ w (.bool (decide (m=n))) w:=by
 unfold Yld;simp only [execOp,hx,hy,Sem.run_bind,eqGuard_int,Result.andThen_ok,binOp,ne_eq,not_true,if_false]
 show Result.ok (Next.value (.bool (m == n))) w=_
 rw [show (m == n)=decide (m=n) from by by_cases h:m=n <;> simp [h]]
theorem Y.neq (hx:e x=.int k m) (hy:e y=.int k n):Yld P e ⟨d,.binOp .neq t x y t',ty,pos,after,g⟩ w (.bool (decide (m≠n))) w:=by
 unfold Yld;simp only [execOp,hx,hy,Sem.run_bind,eqGuard_int,Result.andThen_ok,binOp,ne_eq,not_true,if_false]
 show Result.ok (Next.value (.bool (m != n))) w=_
 rw [show (m != n)=decide (m≠n) from by by_cases h:m=n <;> simp [h]]
theorem Y.shlW {k':IntKind} (hx:e x=.int k m) (hy:e y=.int k' n) (h0:0≤n):Yld P e ⟨d,.binOp .shl t x y t',ty,pos,after,g⟩ w (.int k (k.wrap (m * 2 ^ min n.toNat k.bits))) w:=by
 unfold Yld;simp only [execOp,hx,hy,Sem.run_bind,eqGuard_int,Result.andThen_ok,binOp,Op.shift,if_neg (show ¬ n<0 by omega)];rfl
theorem Y.shrW {k':IntKind} (hx:e x=.int k m) (hy:e y=.int k' n) (h0:0≤n):Yld P e ⟨d,.binOp .shr t x y t',ty,pos,after,g⟩ w (.int k (m.fdiv (2 ^ min n.toNat k.bits))) w:=by
 unfold Yld;simp only [execOp,hx,hy,Sem.run_bind,eqGuard_int,Result.andThen_ok,binOp,Op.shift,if_neg (show ¬ n<0 by omega)];rfl
def orI (k:IntKind) (m n:Int):Int:=k.wrap (BitVec.ofInt k.bits m ||| BitVec.ofInt k.bits n).toNat
def andI (k:IntKind) (m n:Int):Int:=k.wrap (BitVec.ofInt k.bits m &&& BitVec.ofInt k.bits n).toNat
def xorI (k:IntKind) (m n:Int):Int:=k.wrap (BitVec.ofInt k.bits m ^^^ BitVec.ofInt k.bits n).toNat
theorem Y.orW (hx:e x=.int k m) (hy:e y=.int k n):Yld P e ⟨d,.binOp .or t x y t',ty,pos,after,g⟩ w (.int k (orI k m n)) w:=by
 unfold Yld;simp only [execOp,hx,hy,Sem.run_bind,eqGuard_int,Result.andThen_ok,binOp,ne_eq,not_true,if_false];rfl
theorem Y.andW (hx:e x=.int k m) (hy:e y=.int k n):Yld P e ⟨d,.binOp .and t x y t',ty,pos,after,g⟩ w (.int k (andI k m n)) w:=by
 unfold Yld;simp only [execOp,hx,hy,Sem.run_bind,eqGuard_int,Result.andThen_ok,binOp,ne_eq,not_true,if_false];rfl
theorem Y.xorW (hx:e x=.int k m) (hy:e y=.int k n):Yld P e ⟨d,.binOp .xor t x y t',ty,pos,after,g⟩ w (.int k (xorI k m n)) w:=by
 unfold Yld;simp only [execOp,hx,hy,Sem.run_bind,eqGuard_int,Result.andThen_ok,binOp,ne_eq,not_true,if_false];rfl
end
end
section
variable {P:Program} {e:Operand→Value} {d:Option Tmp} {ty:TypeId} {pos:String} {after:Array Edge} {g:Option (Nat × Bool)} {w:World}
variable {t t':TypeId} {x y:Operand} {k:IntKind} {m n r:Int}
theorem w64 {x:Int} (h:-9223372036854775808≤x∧x≤9223372036854775807):IntKind.i64.wrap x=x:=IntWalk.i64_in x h
theorem w32 {x:Int} (h:-2147483648≤x∧x≤2147483647):IntKind.i32.wrap x=x:=IntWalk.i32_in x h
theorem wu32 {x:Int} (h:0≤x∧x≤4294967295):IntKind.u32.wrap x=x:=IntWalk.u32_in x h
theorem wu8 {x:Int} (h:0≤x∧x≤255):IntKind.u8.wrap x=x:=IntWalk.u8_in x h
theorem wi8 {x:Int} (h:-128≤x∧x≤127):IntKind.i8.wrap x=x:=IntWalk.i8_in x h
theorem wu8m (x:Int):IntKind.u8.wrap x=x % 256:=IntKind.wrap_u8 x
theorem wu32m (x:Int):IntKind.u32.wrap x=x % 4294967296:=IntKind.wrap_u32 x
theorem Y.add (hx:e x=.int k m) (hy:e y=.int k n) (hr:k.wrap (m+n)=r):Yld P e ⟨d,.binOp .add t x y t',ty,pos,after,g⟩ w (.int k r) w:=hr ▸ Y.addW hx hy
theorem Y.sub (hx:e x=.int k m) (hy:e y=.int k n) (hr:k.wrap (m - n)=r):Yld P e ⟨d,.binOp .sub t x y t',ty,pos,after,g⟩ w (.int k r) w:=hr ▸ Y.subW hx hy
theorem Y.mul (hx:e x=.int k m) (hy:e y=.int k n) (hr:k.wrap (m * n)=r):Yld P e ⟨d,.binOp .mul t x y t',ty,pos,after,g⟩ w (.int k r) w:=hr ▸ Y.mulW hx hy
theorem Y.quo (hx:e x=.int k m) (hy:e y=.int k n) (h0:n≠0) (hr:k.wrap (m.tdiv n)=r):Yld P e ⟨d,.binOp .quo t x y t',ty,pos,after,g⟩ w (.int k r) w:=hr ▸ Y.quoW hx hy h0
theorem Y.remr (hx:e x=.int k m) (hy:e y=.int k n) (h0:n≠0) (hr:m.tmod n=r):Yld P e ⟨d,.binOp .rem t x y t',ty,pos,after,g⟩ w (.int k r) w:=hr ▸ Y.rem hx hy h0
theorem Y.shl {k':IntKind} (hx:e x=.int k m) (hy:e y=.int k' n) (h0:0≤n) (hr:k.wrap (m * 2 ^ min n.toNat k.bits)=r):Yld P e ⟨d,.binOp .shl t x y t',ty,pos,after,g⟩ w (.int k r) w:=hr ▸ Y.shlW hx hy h0
theorem Y.shr {k':IntKind} (hx:e x=.int k m) (hy:e y=.int k' n) (h0:0≤n) (hr:m.fdiv (2 ^ min n.toNat k.bits)=r):Yld P e ⟨d,.binOp .shr t x y t',ty,pos,after,g⟩ w (.int k r) w:=hr ▸ Y.shrW hx hy h0
theorem Y.or (hx:e x=.int k m) (hy:e y=.int k n) (hr:orI k m n=r):Yld P e ⟨d,.binOp .or t x y t',ty,pos,after,g⟩ w (.int k r) w:=hr ▸ Y.orW hx hy
theorem Y.and (hx:e x=.int k m) (hy:e y=.int k n) (hr:andI k m n=r):Yld P e ⟨d,.binOp .and t x y t',ty,pos,after,g⟩ w (.int k r) w:=hr ▸ Y.andW hx hy
theorem Y.xor (hx:e x=.int k m) (hy:e y=.int k n) (hr:xorI k m n=r):Yld P e ⟨d,.binOp .xor t x y t',ty,pos,after,g⟩ w (.int k r) w:=hr ▸ Y.xorW hx hy
theorem Y.lssD {b:Bool} (hx:e x=.int k m) (hy:e y=.int k n) (h:decide (m<n)=b):Yld P e ⟨d,.binOp .lss t x y t',ty,pos,after,g⟩ w (.bool b) w:=h ▸ Y.lss hx hy
theorem Y.leqD {b:Bool} (hx:e x=.int k m) (hy:e y=.int k n) (h:decide (m≤n)=b):Yld P e ⟨d,.binOp .leq t x y t',ty,pos,after,g⟩ w (.bool b) w:=h ▸ Y.leq hx hy
theorem Y.gtrD {b:Bool} (hx:e x=.int k m) (hy:e y=.int k n) (h:decide (m > n)=b):Yld P e ⟨d,.binOp .gtr t x y t',ty,pos,after,g⟩ w (.bool b) w:=h ▸ Y.gtr hx hy
theorem Y.geqD {b:Bool} (hx:e x=.int k m) (hy:e y=.int k n) (h:decide (m ≥ n)=b):Yld P e ⟨d,.binOp .geq t x y t',ty,pos,after,g⟩ w (.bool b) w:=h ▸ Y.geq hx hy
theorem Y.eqlD {b:Bool} (hx:e x=.int k m) (hy:e y=.int k n) (h:decide (m=n)=b):Yld P e ⟨d,.binOp .eql t x y t',ty,pos,after,g⟩ w (.bool b) w:=h ▸ Y.eql hx hy
theorem Y.neqD {b:Bool} (hx:e x=.int k m) (hy:e y=.int k n) (h:decide (m≠n)=b):Yld P e ⟨d,.binOp .neq t x y t',ty,pos,after,g⟩ w (.bool b) w:=h ▸ Y.neq hx hy
def INT (P:Program) (src dst:TypeId) (k:IntKind):Prop:=(P.underlying src).isSome=true∧P.underlying dst=some (.int k)
theorem Y.cv {src dst:TypeId} {k':IntKind} (F:INT P src dst k') (hx:e x=.int k m) (hr:k'.wrap m=r):Yld P e ⟨d,.convert src dst x,ty,pos,after,g⟩ w (.int k' r) w:=by
 subst hr
 obtain ⟨hs,hd⟩:=F
 obtain ⟨ds,hds⟩:=Option.isSome_iff_exists.mp hs
 unfold Yld;simp only [execOp,hx,Sem.run_bind,convert,run_underlying hds,run_underlying hd,Result.andThen_ok,Conv.intToInt];rfl
theorem Y.neg (hx:e x=.int k m) (hr:k.wrap (0 - m)=r):Yld P e ⟨d,.unOp .neg t x,ty,pos,after,g⟩ w (.int k r) w:=by
 subst hr
 unfold Yld;simp only [execOp,hx,Sem.run_bind];rfl
theorem Y.not {b:Bool} (hx:e x=.bool b):Yld P e ⟨d,.unOp .not t x,ty,pos,after,g⟩ w (.bool (!b)) w:=by
 unfold Yld;simp only [execOp,hx,Sem.run_bind];rfl
def SL (P:Program) (t el size:Nat):Prop:=P.underlying t=some (.slice el)∧(P.info? el).map (·.size)=some size
def AR (P:Program) (t len el size:Nat):Prop:=P.underlying t=some (.array len el)∧(P.info? el).map (·.size)=some size
theorem Y.len {el size:Nat} {a:Option Addr} {c l:Nat} (F:SL P t el size) (hx:e x=.slice a l c):Yld P e ⟨d,.call ⟨.builtin .len,#[x],#[t]⟩,ty,pos,after,g⟩ w (.int .i64 l) w:=by
 unfold Yld
 have h:P.underlying t=some (.slice (P.elem t)):=by rw [F.1];simp [Program.elem,F.1]
 simp only [execOp,resolve,Sem.run_bind,Sem.run_pure,Result.andThen_ok,Go.invoke,BigFrame.builtin_len,List.map_toArray,List.map_cons,List.map_nil,hx,run_len_slice w t ty a l c h]
 rfl
theorem Y.cap {el size:Nat} {a:Option Addr} {c l:Nat} (F:SL P t el size) (hx:e x=.slice a l c):Yld P e ⟨d,.call ⟨.builtin .cap,#[x],#[t]⟩,ty,pos,after,g⟩ w (.int .i64 c) w:=by
 unfold Yld
 have h:P.underlying t=some (.slice (P.elem t)):=by rw [F.1];simp [Program.elem,F.1]
 simp only [execOp,resolve,Sem.run_bind,Sem.run_pure,Result.andThen_ok,Go.invoke,BigFrame.builtin_cap,List.map_toArray,List.map_cons,List.map_nil,hx,run_cap_slice w t ty a l c h]
 rfl
theorem Y.ixS {el size:Nat} {b off l c:Nat} (j:Nat) (F:SL P t el size) (hx:e x=.slice (some ⟨b,off,none⟩) l c) (hy:e y=.int k m) (hj:m=(j:Int)) (hl:j<l) :
  Yld P e ⟨d,.indexAddr t x y,ty,pos,after,g⟩ w (.pointer (some ⟨b,off+j * size,none⟩)) w:=by
 subst hj
 unfold Yld
 have h:P.underlying t=some (.slice (P.elem t)):=by rw [F.1];simp [Program.elem,F.1]
 have he:P.elem t=el:=by simp [Program.elem,F.1]
 simp only [execOp,hx,hy,Sem.run_bind,run_indexAt_slice w t _ l c k _ h,if_pos (show 0≤(j:Int)∧(j:Int)<(l:Int) by omega),he,siz F.2 w,Result.andThen_ok,Int.toNat_natCast,add_lit0]
 rfl
theorem Y.ixA {el size len:Nat} {b off:Nat} (j:Nat) (F:AR P t len el size) (hx:e x=.pointer (some ⟨b,off,none⟩)) (hy:e y=.int k m) (hj:m=(j:Int)) (hl:j<len) :
  Yld P e ⟨d,.indexAddr t x y,ty,pos,after,g⟩ w (.pointer (some ⟨b,off+j * size,none⟩)) w:=by
 subst hj
 unfold Yld
 have h:P.underlying t=some (.array (P.arrayLen t) (P.elem t)):=by rw [F.1];simp [Program.elem,Program.arrayLen,F.1]
 have he:P.elem t=el:=by simp [Program.elem,F.1]
 have hn:P.arrayLen t=len:=by simp [Program.arrayLen,F.1]
 simp only [execOp,hx,hy,Sem.run_bind,run_indexAt_array w t _ k _ h,hn,if_pos (show 0≤(j:Int)∧(j:Int)<(len:Int) by omega),he,siz F.2 w,Result.andThen_ok,Int.toNat_natCast,add_lit0]
 rfl
theorem Y.ixS1 {el:Nat} {b off l c:Nat} (j:Nat) (F:SL P t el 1) (hx:e x=.slice (some ⟨b,off,none⟩) l c) (hy:e y=.int k m) (hj:m=(j:Int)) (hl:j<l) :
  Yld P e ⟨d,.indexAddr t x y,ty,pos,after,g⟩ w (.pointer (some ⟨b,off+j,none⟩)) w:=by
 have:=Y.ixS (ty:=ty) (pos:=pos) (after:=after) (g:=g) (d:=d) (w:=w) j F hx hy hj hl
 rwa [Nat.mul_one] at this
theorem Y.ixA1 {el len:Nat} {b off:Nat} (j:Nat) (F:AR P t len el 1) (hx:e x=.pointer (some ⟨b,off,none⟩)) (hy:e y=.int k m) (hj:m=(j:Int)) (hl:j<len) :
  Yld P e ⟨d,.indexAddr t x y,ty,pos,after,g⟩ w (.pointer (some ⟨b,off+j,none⟩)) w:=by
 have:=Y.ixA (ty:=ty) (pos:=pos) (after:=after) (g:=g) (d:=d) (w:=w) j F hx hy hj hl
 rwa [Nat.mul_one] at this
theorem Y.sliceHi {el size:Nat} {hi:Operand} {b off l c:Nat} (j:Nat) (F:SL P t el size) (hx:e x=.slice (some ⟨b,off,none⟩) l c) (hy:e hi=.int k m) (hj:m=(j:Int)) (hl:j≤c) :
  Yld P e ⟨d,.slice t x none (some hi) none,ty,pos,after,g⟩ w (.slice (some ⟨b,off,none⟩) j c) w:=by
 subst hj
 unfold Yld
 simp only [execOp,hx,Option.map_none,Option.map_some,hy,Sem.run_bind,Instr.sliceAt,Instr.slice,run_underlying F.1,Result.andThen_ok,Instr.sliceBounds,Instr.sliceBound,asIntOf,Sem.run_pure,if_pos (show 0≤(j:Int)∧(j:Int)≤(c:Int) by omega),Int.toNat_natCast,siz F.2 w]
 by_cases hc:c=0
 ·subst hc
  simp
 ·rw [if_neg hc]
  simp [Addr.add]
theorem Y.ext {vs:Array Value} {i:Nat} {v:Value} (hx:e x=.tuple vs) (hv:vs[i]?=some v):Yld P e ⟨d,.extract x i,ty,pos,after,g⟩ w v w:=by
 unfold Yld;simp only [execOp,hx,Sem.run_bind,Instr.extract,hv];rfl
end
def Blk (w:World) (b:Nat) (cs:List Value) (t:TypeId):Prop:=w.heap[b]?=some (.cells cs.toArray t (0,0))
theorem Blk.cell {w:World} {b:Nat} {cs:List Value} {t:TypeId} (h:Blk w b cs t) (i:Nat):w.cell? ⟨b,i,none⟩=cs[i]?:=by
 unfold Blk at h
 simp [World.cell?,h]
theorem Blk.cellv {w:World} {b:Nat} {cs:List Value} {t:TypeId} (h:Blk w b cs t) {i:Nat} {v:Value} (hv:cs[i]?=some v):w.cell? ⟨b,i,none⟩=some v:=(h.cell i).trans hv
theorem Blk.fz {w:World} {b:Nat} {cs:List Value} {t:TypeId} (h:Blk w b cs t) (i:Nat):w.frozen? ⟨b,i,none⟩=false:=by
 unfold Blk at h
 simp [World.frozen?,h]
theorem Blk.lt {w:World} {b:Nat} {cs:List Value} {t:TypeId} (h:Blk w b cs t):b<w.heap.size:=(Array.getElem?_eq_some_iff.1 h).1
theorem Blk.put {w:World} {b:Nat} {cs:List Value} {t:TypeId} (h:Blk w b cs t) (i:Nat) (v:Value):Blk (w.setCell ⟨b,i,none⟩ v) b (cs.set i v) t:=by
 unfold Blk at h ⊢
 simp only [World.setCell,Array.getElem?_modify,if_true,h,Option.map_some]
 simp [List.setIfInBounds_toArray]
theorem Blk.new (w:World) (cs:List Value) (t:TypeId):Blk (w.alloc (.cells cs.toArray t)) w.heap.size cs t:=by
 show (w.heap.push _)[w.heap.size]?=_
 rw [Array.getElem?_push,if_pos rfl]
structure Frm (S:List Nat) (w w':World):Prop where
 os:w'.os=w.os
 tape:w'.tape=w.tape
 output:w'.output=w.output
 size:w.heap.size≤w'.heap.size
 block:∀ b,b<w.heap.size→b ∉ S→w'.heap[b]?=w.heap[b]?
theorem Frm.refl (S:List Nat) (w:World):Frm S w w:=⟨rfl,rfl,rfl,Nat.le_refl _,fun _ _ _ => rfl⟩
theorem Frm.trans {S:List Nat} {a b c:World} (h:Frm S a b) (k:Frm S b c):Frm S a c :=
 ⟨k.os.trans h.os,k.tape.trans h.tape,k.output.trans h.output,Nat.le_trans h.size k.size,
  fun i hi hS => (k.block i (Nat.lt_of_lt_of_le hi h.size) hS).trans (h.block i hi hS)⟩
theorem Frm.then {S T:List Nat} {a b c:World} (h:Frm S a b) (k:Frm T b c) (hT:∀ x ∈ T,x ∈ S∨a.heap.size≤x):Frm S a c :=
 ⟨k.os.trans h.os,k.tape.trans h.tape,k.output.trans h.output,Nat.le_trans h.size k.size,
  fun i hi hS => (k.block i (Nat.lt_of_lt_of_le hi h.size) (fun hm => by rcases hT i hm with h1 | h1;exact hS h1;omega)).trans (h.block i hi hS)⟩
theorem Frm.mono {S T:List Nat} {w w':World} (h:Frm S w w') (hT:∀ x ∈ S,x ∈ T∨w.heap.size≤x):Frm T w w' :=
 (Frm.refl T w).then h hT
theorem Frm.put {S:List Nat} (w:World) (a:Addr) (v:Value) (ha:a.block ∈ S):Frm S w (w.setCell a v) :=
 ⟨rfl,rfl,rfl,by simp,fun i hi hS => RowKit.Below.heap_setCell w a v i (fun e => hS (e ▸ ha))⟩
theorem Frm.new (S:List Nat) (w:World) (o:Obj):Frm S w (w.alloc o) :=
 ⟨rfl,rfl,rfl,by simp,fun i hi _ => RowKit.Below.heap_alloc w o i hi⟩
theorem Frm.drew (S:List Nat) (w:World):Frm S w w.drew:=⟨rfl,rfl,rfl,Nat.le_refl _,fun _ _ _ => rfl⟩
theorem Frm.heapEq {S:List Nat} {w w':World} (h:w'.heap=w.heap) (ho:w'.os=w.os) (ht:w'.tape=w.tape) (hp:w'.output=w.output):Frm S w w' :=
 ⟨ho,ht,hp,by rw [h];exact Nat.le_refl _,fun _ _ _ => by rw [h]⟩
theorem Frm.blk {S:List Nat} {w w':World} (h:Frm S w w') {b:Nat} {cs:List Value} {t:TypeId} (hb:Blk w b cs t) (hS:b ∉ S):Blk w' b cs t:=(h.block b hb.lt hS).trans hb
theorem Frm.cell {S:List Nat} {w w':World} (h:Frm S w w') {a:Addr} {v:Value} (hc:w.cell? a=some v) (hS:a.block ∉ S):w'.cell? a=some v :=
 (World.cell?_of_block (h.block a.block (World.block_lt_of_cell? w a hc) hS)).trans hc
theorem Frm.below {w w':World} (h:Frm [] w w'):RowKit.Below w.heap.size w w':=⟨h.os,h.tape,h.output,h.size,fun k hk => h.block k hk (by simp)⟩
structure Res where
 foot:List Nat
 pred:World→Prop
def Res.Local (r:Res):Prop:=∀ w w',(∀ b ∈ r.foot,w'.heap[b]?=w.heap[b]?)→r.pred w→r.pred w'
def Res.In (r:Res):Prop:=∀ w,r.pred w→∀ b ∈ r.foot,b<w.heap.size
def blkR (b:Nat) (cs:List Value) (t:TypeId):Res:=⟨[b],fun w => Blk w b cs t⟩
def Apart (l:List Res):Prop:=l.Pairwise fun r s => ∀ b ∈ r.foot,b ∉ s.foot
structure St (w0:World) (S:List Nat) (l:List Res) (w:World):Prop where
 frm:Frm S w0 w
 has:∀ r ∈ l,r.pred w
 loc:∀ r ∈ l,r.Local∧r.In
 own:∀ r ∈ l,∀ b ∈ r.foot,b ∈ S∨w0.heap.size≤b
 apart:Apart l
theorem blkR_local (b:Nat) (cs:List Value) (t:TypeId):(blkR b cs t).Local:=fun w w' h hb => by
 show w'.heap[b]?=_
 rw [h b (by simp [blkR])]
 exact hb
theorem blkR_in (b:Nat) (cs:List Value) (t:TypeId):(blkR b cs t).In:=fun w h x hx => by
 simp only [blkR,List.mem_singleton] at hx
 subst hx
 exact Blk.lt h
section
variable {w0 w:World} {S:List Nat} {l:List Res}
theorem St.get (h:St w0 S l w) {i:Nat} {r:Res} (hi:l[i]?=some r):r.pred w:=h.has r (List.mem_of_getElem? hi)
theorem St.blk (h:St w0 S l w) {i:Nat} {b:Nat} {cs:List Value} {t:TypeId} (hi:l[i]?=some (blkR b cs t)):Blk w b cs t:=h.get hi
theorem St.cell (h:St w0 S l w) (i:Nat) {b off:Nat} {cs:List Value} {t:TypeId} {v:Value} (hi:l[i]?=some (blkR b cs t)) (hv:cs[off]?=some v):w.cell? ⟨b,off,none⟩=some v:=(h.blk hi).cellv hv
theorem St.fz (h:St w0 S l w) (i:Nat) {b off:Nat} {cs:List Value} {t:TypeId} (hi:l[i]?=some (blkR b cs t)):w.frozen? ⟨b,off,none⟩=false:=(h.blk hi).fz _
theorem St.old (h:St w0 S l w) {a:Addr} {v:Value} (hc:w0.cell? a=some v) (hS:a.block ∉ S):w.cell? a=some v:=h.frm.cell hc hS
theorem apart_disj {l:List Res} (h:Apart l) {i j:Nat} {r s:Res} (hi:l[i]?=some r) (hj:l[j]?=some s) (hne:i≠j):∀ b ∈ r.foot,b ∉ s.foot:=by
 have sym:∀ {i j:Nat} {r s:Res},l[i]?=some r→l[j]?=some s→i<j→∀ b ∈ r.foot,b ∉ s.foot:=by
  intro i j r s hi hj hlt
  obtain ⟨h1,e1⟩:=List.getElem?_eq_some_iff.1 hi
  obtain ⟨h2,e2⟩:=List.getElem?_eq_some_iff.1 hj
  have:=List.pairwise_iff_getElem.1 h i j h1 h2 hlt
  rw [e1,e2] at this
  exact this
 rcases Nat.lt_or_gt_of_ne hne with h1 | h1
 ·exact sym hi hj h1
 ·exact fun b hb hs => sym hj hi h1 b hs hb
theorem St.turn (h:St w0 S l w) {i:Nat} {r r':Res} {w':World} (hi:l[i]?=some r) (hf:Frm r.foot w w') (hr:r'.pred w') (hl:r'.Local∧r'.In)
  (hfoot:∀ b ∈ r'.foot,b ∈ r.foot∨w.heap.size≤b):St w0 S (l.set i r') w':=by
 have hir:r ∈ l:=List.mem_of_getElem? hi
 have hlt:i<l.length:=(List.getElem?_eq_some_iff.1 hi).1
 have get':∀ j s,(l.set i r')[j]?=some s→(j=i∧s=r')∨(j≠i∧l[j]?=some s):=by
  intro j s hj
  by_cases hji:j=i
  ·subst hji
   rw [List.getElem?_set_self hlt] at hj
   exact .inl ⟨rfl,(Option.some.inj hj).symm⟩
  ·rw [List.getElem?_set_ne (Ne.symm hji)] at hj
   exact .inr ⟨hji,hj⟩
 refine ⟨h.frm.then hf (h.own r hir),?_,?_,?_,?_⟩
 ·intro s hs
  obtain ⟨j,hj⟩:=List.mem_iff_getElem?.1 hs
  rcases get' j s hj with ⟨_,rfl⟩ | ⟨hne,hj⟩
  ·exact hr
  ·have hm:=List.mem_of_getElem? hj
   refine (h.loc s hm).1 w w' (fun b hb => hf.block b ((h.loc s hm).2 w (h.has s hm) b hb) ?_) (h.has s hm)
   exact apart_disj h.apart hj hi hne b hb
 ·intro s hs
  obtain ⟨j,hj⟩:=List.mem_iff_getElem?.1 hs
  rcases get' j s hj with ⟨_,rfl⟩ | ⟨_,hj⟩
  ·exact hl
  ·exact h.loc s (List.mem_of_getElem? hj)
 ·intro s hs b hb
  obtain ⟨j,hj⟩:=List.mem_iff_getElem?.1 hs
  rcases get' j s hj with ⟨_,rfl⟩ | ⟨_,hj⟩
  ·rcases hfoot b hb with h1 | h1
   ·exact h.own r hir b h1
   ·exact .inr (Nat.le_trans h.frm.size h1)
  ·exact h.own s (List.mem_of_getElem? hj) b hb
 ·refine List.pairwise_iff_getElem.2 fun j k hj hk hjk b hb hb2 => ?_
  have ej:=List.getElem?_eq_getElem hj
  have ek:=List.getElem?_eq_getElem hk
  rcases get' j _ ej with ⟨h1,e1⟩ | ⟨h1,e1⟩ <;> rcases get' k _ ek with ⟨h2,e2⟩ | ⟨h2,e2⟩
  ·omega
  ·rw [e1] at hb
   rcases hfoot b hb with h3 | h3
   ·exact apart_disj h.apart hi e2 (Ne.symm h2) b h3 hb2
   ·have hm:=List.mem_of_getElem? e2
    have:=(h.loc _ hm).2 w (h.has _ hm) b hb2
    omega
  ·rw [e2] at hb2
   rcases hfoot b hb2 with h3 | h3
   ·exact apart_disj h.apart e1 hi h1 b hb h3
   ·have hm:=List.mem_of_getElem? e1
    have:=(h.loc _ hm).2 w (h.has _ hm) b hb
    omega
  ·exact apart_disj h.apart e1 e2 (by omega) b hb hb2
theorem St.put (h:St w0 S l w) (i:Nat) {b off:Nat} {cs:List Value} {t:TypeId} (v:Value) (hi:l[i]?=some (blkR b cs t)) :
  St w0 S (l.set i (blkR b (cs.set off v) t)) (w.setCell ⟨b,off,none⟩ v) :=
 h.turn hi (Frm.put w _ v (by simp [blkR])) ((h.blk hi).put off v) ⟨blkR_local _ _ _,blkR_in _ _ _⟩ (fun b hb => .inl hb)
theorem St.turnB (h:St w0 S l w) (i:Nat) {b:Nat} {cs cs':List Value} {t t':TypeId} {w':World} (hi:l[i]?=some (blkR b cs t)) (hf:Frm [b] w w') (hb:Blk w' b cs' t') :
  St w0 S (l.set i (blkR b cs' t')) w':=h.turn hi hf hb ⟨blkR_local _ _ _,blkR_in _ _ _⟩ (fun b hb => .inl hb)
theorem St.ofBlk {b:Nat} {cs:List Value} {t:TypeId} (h:Blk w b cs t):St w [b] [blkR b cs t] w :=
 ⟨Frm.refl _ w,fun r hr => by rw [List.mem_singleton] at hr;subst hr;exact h,fun r hr => by rw [List.mem_singleton] at hr;subst hr;exact ⟨blkR_local _ _ _,blkR_in _ _ _⟩,
  fun r hr x hx => by rw [List.mem_singleton] at hr;subst hr;exact .inl hx,List.pairwise_singleton _ _⟩
theorem St.add (h:St w0 S l w) {r:Res} {w':World} (hf:Frm [] w w') (hr:r.pred w') (hl:r.Local∧r.In) (hfoot:∀ b ∈ r.foot,w.heap.size≤b):St w0 S (r :: l) w':=by
 refine ⟨h.frm.then hf (by simp),?_,?_,?_,?_⟩
 ·intro s hs
  rcases List.mem_cons.1 hs with rfl | hs
  ·exact hr
  ·exact (h.loc s hs).1 w w' (fun b hb => hf.block b ((h.loc s hs).2 w (h.has s hs) b hb) (by simp)) (h.has s hs)
 ·intro s hs
  rcases List.mem_cons.1 hs with rfl | hs
  ·exact hl
  ·exact h.loc s hs
 ·intro s hs b hb
  rcases List.mem_cons.1 hs with rfl | hs
  ·exact .inr (Nat.le_trans h.frm.size (hfoot b hb))
  ·exact h.own s hs b hb
 ·refine List.pairwise_cons.2 ⟨fun s hs b hb hb2 => ?_,h.apart⟩
  have:=(h.loc s hs).2 w (h.has s hs) b hb2
  have:=hfoot b hb
  omega
theorem St.new (h:St w0 S l w) (cs:List Value) (t:TypeId):St w0 S (blkR w.heap.size cs t :: l) (w.alloc (.cells cs.toArray t)) :=
 h.add (Frm.new [] w _) (Blk.new w cs t) ⟨blkR_local _ _ _,blkR_in _ _ _⟩ (by simp [blkR])
theorem St.quiet (h:St w0 S l w) {w':World} (hf:Frm [] w w'):St w0 S l w' :=
 ⟨h.frm.then hf (by simp),fun s hs => (h.loc s hs).1 w w' (fun b hb => hf.block b ((h.loc s hs).2 w (h.has s hs) b hb) (by simp)) (h.has s hs),h.loc,h.own,h.apart⟩
theorem St.drew (h:St w0 S l w):St w0 S l w.drew:=h.quiet (Frm.drew [] w)
theorem St.sub (h:St w0 S l w) (is:List Nat) {l':List Res} (hl:is.map (fun i => l[i]?)=l'.map some) (hn:is.Pairwise (·≠·)):St w0 S l' w:=by
 have mem:∀ r ∈ l',r ∈ l:=fun r hr => by
  have:some r ∈ is.map (fun i => l[i]?):=by rw [hl];exact List.mem_map_of_mem hr
  obtain ⟨i,_,hi⟩:=List.mem_map.1 this
  exact List.mem_of_getElem? hi
 refine ⟨h.frm,fun r hr => h.has r (mem r hr),fun r hr => h.loc r (mem r hr),fun r hr => h.own r (mem r hr),?_⟩
 have hlen:is.length=l'.length:=by simpa using congrArg List.length hl
 refine List.pairwise_iff_getElem.2 fun j k hj hk hjk => ?_
 have g:∀ (j:Nat) (hj:j<l'.length),∃ hj':j<is.length,l[is[j]]?=some l'[j]:=fun j hj => by
  have hj':j<is.length:=by omega
  refine ⟨hj',?_⟩
  have:=congrArg (fun x => x[j]?) hl
  simpa [hj,hj'] using this
 obtain ⟨hj',e1⟩:=g j hj
 obtain ⟨hk',e2⟩:=g k hk
 exact apart_disj h.apart e1 e2 (List.pairwise_iff_getElem.1 hn j k hj' hk' hjk)
theorem St.base (h:St w0 S l w) (T:List Nat) (hT:∀ r ∈ l,∀ b ∈ r.foot,b ∈ T):St w T l w :=
 ⟨Frm.refl T w,h.has,h.loc,fun r hr b hb => .inl (hT r hr b hb),h.apart⟩
theorem St.nil (w:World) (S:List Nat):St w S [] w:=⟨Frm.refl S w,by simp,by simp,by simp,List.Pairwise.nil⟩
theorem St.one {r:Res} (h:r.pred w) (hl:r.Local∧r.In) (hS:∀ b ∈ r.foot,b ∈ S):St w S [r] w :=
 ⟨Frm.refl S w,fun r hr => by rw [List.mem_singleton] at hr;subst hr;exact h,fun r hr => by rw [List.mem_singleton] at hr;subst hr;exact hl,
  fun r hr x hx => by rw [List.mem_singleton] at hr;subst hr;exact .inl (hS x hx),List.pairwise_singleton _ _⟩
theorem St.cons (h:St w0 S l w) {r:Res} (hr:r.pred w) (hl:r.Local∧r.In) (hS:∀ b ∈ r.foot,b ∈ S∨w0.heap.size≤b) (hd:∀ s ∈ l,∀ b ∈ r.foot,b ∉ s.foot):St w0 S (r :: l) w :=
 ⟨h.frm,fun s hs => by rcases List.mem_cons.1 hs with rfl | hs;exact hr;exact h.has s hs,fun s hs => by rcases List.mem_cons.1 hs with rfl | hs;exact hl;exact h.loc s hs,
  fun s hs => by rcases List.mem_cons.1 hs with rfl | hs;exact hS;exact h.own s hs,List.pairwise_cons.2 ⟨hd,h.apart⟩⟩
end
theorem St.re {w0 w w':World} {S T:List Nat} {l l':List Res} (h:St w0 S l w) (hf:Frm T w w') (hT:∀ b ∈ T,b ∈ S∨w0.heap.size≤b) (hfoot:l'.map (·.foot)=l.map (·.foot))
  (hp:∀ r ∈ l',r.pred w') (hl:∀ r ∈ l',r.Local∧r.In):St w0 S l' w':=by
 refine ⟨h.frm.then hf hT,hp,hl,fun r hr b hb => ?_,?_⟩
 ·have:r.foot ∈ l.map (·.foot):=by rw [← hfoot];exact List.mem_map_of_mem hr
  obtain ⟨s,hs,he⟩:=List.mem_map.1 this
  exact h.own s hs b (by rw [he];exact hb)
 ·have:(l.map (·.foot)).Pairwise fun a c => ∀ b ∈ a,b ∉ c:=List.pairwise_map.2 h.apart
  rw [← hfoot] at this
  exact List.pairwise_map.1 this
theorem St.turn2B {w0 w w':World} {S:List Nat} {l:List Res} (h:St w0 S l w) (i j:Nat) {b1 b2:Nat} {c1 c2 c1' c2':List Value} {t1 t2:TypeId} (hij:i≠j) (hi:l[i]?=some (blkR b1 c1 t1)) (hj:l[j]?=some (blkR b2 c2 t2))
  (hf:Frm [b1,b2] w w') (h1:Blk w' b1 c1' t1) (h2:Blk w' b2 c2' t2):St w0 S ((l.set i (blkR b1 c1' t1)).set j (blkR b2 c2' t2)) w':=by
 have hli:i<l.length:=(List.getElem?_eq_some_iff.1 hi).1
 have hlj:j<l.length:=(List.getElem?_eq_some_iff.1 hj).1
 have get':∀ k s,((l.set i (blkR b1 c1' t1)).set j (blkR b2 c2' t2))[k]?=some s→(k=j∧s=blkR b2 c2' t2)∨(k=i∧s=blkR b1 c1' t1)∨(k≠i∧k≠j∧l[k]?=some s):=by
  intro k s hk
  by_cases hkj:k=j
  ·subst hkj
   rw [List.getElem?_set_self (by simpa using hlj)] at hk
   exact .inl ⟨rfl,(Option.some.inj hk).symm⟩
  ·rw [List.getElem?_set_ne (Ne.symm hkj)] at hk
   by_cases hki:k=i
   ·subst hki
    rw [List.getElem?_set_self hli] at hk
    exact .inr (.inl ⟨rfl,(Option.some.inj hk).symm⟩)
   ·rw [List.getElem?_set_ne (Ne.symm hki)] at hk
    exact .inr (.inr ⟨hki,hkj,hk⟩)
 refine h.re hf ?_ ?_ ?_ ?_
 ·intro b hb
  simp only [List.mem_cons,List.not_mem_nil,or_false] at hb
  rcases hb with rfl | rfl
  ·exact h.own _ (List.mem_of_getElem? hi) _ (by simp [blkR])
  ·exact h.own _ (List.mem_of_getElem? hj) _ (by simp [blkR])
 ·apply List.ext_getElem?
  intro k
  rw [List.getElem?_map,List.getElem?_map]
  by_cases hkj:k=j
  ·subst hkj
   rw [List.getElem?_set_self (by simpa using hlj),hj]
   rfl
  ·rw [List.getElem?_set_ne (Ne.symm hkj)]
   by_cases hki:k=i
   ·subst hki
    rw [List.getElem?_set_self hli,hi]
    rfl
   ·rw [List.getElem?_set_ne (Ne.symm hki)]
 ·intro s hs
  obtain ⟨k,hk⟩:=List.mem_iff_getElem?.1 hs
  rcases get' k s hk with ⟨_,rfl⟩ | ⟨_,rfl⟩ | ⟨hne1,hne2,hk2⟩
  ·exact h2
  ·exact h1
  ·have hm:=List.mem_of_getElem? hk2
   refine (h.loc s hm).1 w w' (fun b hb => hf.block b ((h.loc s hm).2 w (h.has s hm) b hb) ?_) (h.has s hm)
   intro hb2
   simp only [List.mem_cons,List.not_mem_nil,or_false] at hb2
   rcases hb2 with rfl | rfl
   ·exact apart_disj h.apart hk2 hi hne1 _ hb (by simp [blkR])
   ·exact apart_disj h.apart hk2 hj hne2 _ hb (by simp [blkR])
 ·intro s hs
  obtain ⟨k,hk⟩:=List.mem_iff_getElem?.1 hs
  rcases get' k s hk with ⟨_,rfl⟩ | ⟨_,rfl⟩ | ⟨_,_,hk⟩
  ·exact ⟨blkR_local _ _ _,blkR_in _ _ _⟩
  ·exact ⟨blkR_local _ _ _,blkR_in _ _ _⟩
  ·exact h.loc s (List.mem_of_getElem? hk)
theorem St.lost {w0 w w':World} {S:List Nat} {l:List Res} (h:St w0 S l w) {i:Nat} {r:Res} (hi:l[i]?=some r) (hf:Frm r.foot w w'):St w0 S (l.eraseIdx i) w':=by
 have hir:r ∈ l:=List.mem_of_getElem? hi
 have mem:∀ s ∈ l.eraseIdx i,s ∈ l:=fun s hs => (List.eraseIdx_sublist l i).mem hs
 refine ⟨h.frm.then hf (h.own r hir),fun s hs => ?_,fun s hs => h.loc s (mem s hs),fun s hs => h.own s (mem s hs),h.apart.sublist (List.eraseIdx_sublist l i)⟩
 have hm:=mem s hs
 obtain ⟨k,hne,hk⟩:∃ k,k≠i∧l[k]?=some s:=by
  obtain ⟨j,hj⟩:=List.mem_iff_getElem?.1 hs
  rw [List.getElem?_eraseIdx] at hj
  split at hj
  ·exact ⟨j,by omega,hj⟩
  ·exact ⟨j+1,by omega,hj⟩
 refine (h.loc s hm).1 w w' (fun b hb => hf.block b ((h.loc s hm).2 w (h.has s hm) b hb) ?_) (h.has s hm)
 exact apart_disj h.apart hk hi hne b hb
section
variable {w0 w:World} {S:List Nat} {l:List Res}
theorem Same.frm {w w':World} (h:Same w w'):Frm [] w w':=Frm.heapEq h.heap h.os h.tape h.output
theorem St.same (h:St w0 S l w) {w':World} (hs:Same w w'):St w0 S l w':=h.quiet hs.frm
variable {P:Program} {n:Nat} {ops:Array Oper} {Q:Post} {rest:List Oper} {ρ:Env} {ty:TypeId} {pos:String} {after:Array Edge} {t tt:TypeId} {x y:Operand} {b off:Nat} {cs:List Value} {v old:Value}
theorem VL.put (H:St w0 S l w) (i:Nat) (F:ST1 P t) (hx:ev ρ x=.pointer (some ⟨b,off,none⟩)) (hi:l[i]?=some (blkR b cs tt)) (hy:ev ρ y=v) (hv:v.oneCell'=true) (hc:cs[off]?=some old)
  (h:∀ w',St w0 S (l.set i (blkR b (cs.set off v) tt)) w'→VL P n ops Q rest ρ w'):VL P n ops Q (⟨none,.store t x y,ty,pos,after,none⟩ :: rest) ρ w :=
 VL.st (Sk.st F hx hy hv (H.cell i hi hc) (H.fz i hi)) (h _ (H.put i v hi))
theorem VL.putI {k:IntKind} {m:Int} (H:St w0 S l w) (i:Nat) (F:ST1 P t) (hx:ev ρ x=.pointer (some ⟨b,off,none⟩)) (hi:l[i]?=some (blkR b cs tt)) (hy:ev ρ y=.int k m) (hc:cs[off]?=some old)
  (h:∀ w',St w0 S (l.set i (blkR b (cs.set off (.int k m)) tt)) w'→VL P n ops Q rest ρ w'):VL P n ops Q (⟨none,.store t x y,ty,pos,after,none⟩ :: rest) ρ w:=VL.put H i F hx hi hy rfl hc h
theorem VL.putB {m:Bool} (H:St w0 S l w) (i:Nat) (F:ST1 P t) (hx:ev ρ x=.pointer (some ⟨b,off,none⟩)) (hi:l[i]?=some (blkR b cs tt)) (hy:ev ρ y=.bool m) (hc:cs[off]?=some old)
  (h:∀ w',St w0 S (l.set i (blkR b (cs.set off (.bool m)) tt)) w'→VL P n ops Q rest ρ w'):VL P n ops Q (⟨none,.store t x y,ty,pos,after,none⟩ :: rest) ρ w:=VL.put H i F hx hi hy rfl hc h
theorem VL.putS {a:Option Addr} {m c:Nat} (H:St w0 S l w) (i:Nat) (F:ST1 P t) (hx:ev ρ x=.pointer (some ⟨b,off,none⟩)) (hi:l[i]?=some (blkR b cs tt)) (hy:ev ρ y=.slice a m c) (hc:cs[off]?=some old)
  (h:∀ w',St w0 S (l.set i (blkR b (cs.set off (.slice a m c)) tt)) w'→VL P n ops Q rest ρ w'):VL P n ops Q (⟨none,.store t x y,ty,pos,after,none⟩ :: rest) ρ w:=VL.put H i F hx hi hy rfl hc h
end
section
variable {P:Program} {e:Operand→Value} {d:Option Tmp} {ty:TypeId} {pos:String} {after:Array Edge} {g:Option (Nat × Bool)} {w:World} {t t' u:TypeId} {x y:Operand} {v:Value}
def IFC (P:Program) (t:TypeId):Prop:=P.underlying t=some (.interface (P.methodsAt t))
def PTRC (P:Program) (t te:TypeId):Prop:=P.underlying t=some (.pointer te)∧(P.info? t).map (·.comparable)=some true∧(P.info? te).isSome=true
theorem Y.neqNilT (F:IFC P t) (hx:e x=.iface u v) (hy:e y=.nilIface):Yld P e ⟨d,.binOp .neq t x y t',ty,pos,after,g⟩ w (.bool true) w:=by
 unfold Yld
 simp only [execOp,hx,hy,Sem.run_bind]
 have hg:(eqGuard .neq t x y (.iface u v) .nilIface).run P w=.ok () w:=rfl
 simp only [hg,Result.andThen_ok,binOp,Sem.run_bind,run_equal_held_nil w t u v F]
 rfl
theorem equal_nil_nil (F:IFC P t):(Op.equal t .nilIface .nilIface).run P w=.ok true w:=by
 have h:∀ d:Nat,(Op.equalIn (d+1) t .nilIface .nilIface).run P w=.ok true w:=fun d => by simp [Op.equalIn,run_underlying F]
 exact h 9999
theorem Y.neqNilF (F:IFC P t) (hx:e x=.nilIface) (hy:e (.const .nilIface)=.nilIface):Yld P e ⟨d,.binOp .neq t x (.const .nilIface) t',ty,pos,after,g⟩ w (.bool false) w:=by
 unfold Yld
 simp only [execOp,hx,hy,Sem.run_bind]
 have hg:(eqGuard .neq t x (.const .nilIface) .nilIface .nilIface).run P w=.ok () w:=by
  simp [eqGuard]
 simp only [hg,Result.andThen_ok,binOp,Sem.run_bind,equal_nil_nil F]
 rfl
theorem Y.eqlNilT (F:IFC P t) (hx:e x=.nilIface) (hy:e (.const .nilIface)=.nilIface):Yld P e ⟨d,.binOp .eql t x (.const .nilIface) t',ty,pos,after,g⟩ w (.bool true) w:=by
 unfold Yld
 simp only [execOp,hx,hy,Sem.run_bind]
 have hg:(eqGuard .eql t x (.const .nilIface) .nilIface .nilIface).run P w=.ok () w:=by
  simp [eqGuard]
 simp only [hg,Result.andThen_ok,binOp,Sem.run_bind,equal_nil_nil F]
 rfl
theorem Y.eqlErr (F:IFC P t) {te:TypeId} (G:PTRC P u te) {a:Addr} (hx:e x=.iface u (.pointer (some a))) (hy:e y=.iface u (.pointer (some a))):Yld P e ⟨d,.binOp .eql t x y t',ty,pos,after,g⟩ w (.bool true) w:=by
 obtain ⟨h1,h2,h4⟩:=G
 obtain ⟨i,h2,h3⟩:=Option.map_eq_some_iff.1 h2
 obtain ⟨j,h4⟩:=Option.isSome_iff_exists.mp h4
 unfold Yld
 simp only [execOp,hx,hy,Sem.run_bind]
 have hg:(eqGuard .eql t x y (.iface u (.pointer (some a))) (.iface u (.pointer (some a)))).run P w=.ok () w:=rfl
 simp only [hg,Result.andThen_ok,run_eql_iface_ptr_same w a F h1 h2 h3 h4]
 rfl
end
def INV (P:Program) (u:TypeId) (name:String) (f:FuncId):Prop:=∀ (a:Addr) (args:Array Value) (w:World),(callMethod (.iface u (.pointer (some a))) name args).run P w=.ok (.enter f (#[.pointer (some a)]++args)) w
section
variable {P:Program} {n:Nat} {Q:Post} {ρ:Env} {w:World}
theorem VL.invoke {ops:Array Oper} {rest:List Oper} {f:FuncId} {r:Operand} {name:String} {xs:Array Operand} {ts:Array TypeId} {ty:TypeId} {pos:String} {after:Array Edge} {d:Nat} {u:TypeId} {a:Addr} {vs:List Value} {R:Ending→World→Prop}
  (hd:Nat.blt d n=true) (he:INV P u name f) (hr:ev ρ r=.iface u (.pointer (some a))) (hc:Calls P f (.pointer (some a) :: vs).toArray w R) (hx:xs.toList.map (ev ρ)=vs)
  (h:∀ e w',R e w'→∃ v,e=.returned v∧VL P n ops Q rest (upd ρ d v) w') :
  VL P n ops Q (⟨some d,.call ⟨.invoke r name,xs,ts⟩,ty,pos,after,none⟩ :: rest) ρ w:=fun a' ha => by
 unfold wpList
 rw [if_pos (by simp [Region.wanted])]
 refine .inl ?_
 have hr:(execOp (ev ρ) ⟨some d,.call ⟨.invoke r name,xs,ts⟩,ty,pos,after,none⟩).run P w=.ok (.enter f (.pointer (some a) :: vs).toArray) w:=by
  have hx:xs.map (ev ρ)=vs.toArray:=by apply Array.ext';rw [Array.toList_map,hx]
  have:=he a vs.toArray w
  have h0:(#[Value.iface u (.pointer (some a))]++vs.toArray)[0]?=some (.iface u (.pointer (some a))):=by
   rw [Array.getElem?_append_left (by simp)]
   rfl
  have h1:(#[Value.iface u (.pointer (some a))]++vs.toArray).extract 1 (#[Value.iface u (.pointer (some a))]++vs.toArray).size=vs.toArray:=by
   apply Array.ext'
   simp [Array.toList_extract]
  simp only [execOp,resolve,Sem.run_bind,Sem.run_pure,Result.andThen_ok,hx,hr,Go.invoke]
  simp only [h0,h1]
  rw [this]
  simp
 unfold Oper.wp
 rw [ha.eval,hr]
 refine hc.mono fun e w' hR => ?_
 obtain ⟨v,rfl,hv⟩:=h e w' hR
 exact hv _ (ha.put hd v)
end
end Go.Proofs.YtinkhckpckfajaaDoor
set_option maxRecDepth 100000
namespace Go.Proofs.YtinkhckpckfajaaDoor
open Go
def wr (cs:List Value) (o:Nat):List Value→List Value
 | [] => cs
 | v :: r => wr (cs.set o v) (o+1) r
theorem wr_get:∀ (vs cs:List Value) (o k:Nat),o+vs.length≤cs.length→(wr cs o vs)[k]?=if o≤k∧k<o+vs.length then vs[k - o]? else cs[k]?
 | [],cs,o,k,h => by
  rw [if_neg (by simp only [List.length_nil];omega)]
  rfl
 | v :: r,cs,o,k,h => by
  simp only [List.length_cons] at h ⊢
  rw [wr,wr_get r (cs.set o v) (o+1) k (by simp;omega)]
  by_cases h1:o+1≤k∧k<o+1+r.length
  ·rw [if_pos h1,if_pos (by omega)]
   obtain ⟨j,rfl⟩:∃ j,k=o+1+j:=⟨k - (o+1),by omega⟩
   rw [show o+1+j - o=j+1 by omega,show o+1+j - (o+1)=j by omega]
   simp
  ·rw [if_neg h1]
   by_cases h2:k=o
   ·subst h2
    rw [if_pos (by omega),List.getElem?_set_self (by omega)]
    simp
   ·rw [if_neg (by omega),List.getElem?_set_ne (by omega)]
theorem wr_all {cs vs:List Value} (h:vs.length=cs.length):wr cs 0 vs=vs:=by
 apply List.ext_getElem?
 intro k
 rw [wr_get vs cs 0 k (by omega)]
 by_cases h1:k<vs.length
 ·rw [if_pos (by omega)];rfl
 ·rw [if_neg (by omega),List.getElem?_eq_none (by omega),List.getElem?_eq_none (by omega)]
theorem St.grow {w0 w w':World} {S:List Nat} {l:List Res} (h:St w0 S l w) {i:Nat} {r r':Res} (hi:l[i]?=some r) (hf:Frm r.foot w w') (hr:r'.pred w') (hl:r'.Local∧r'.In) (hfoot:r'.foot=r.foot)
  {b:Nat} {cs:List Value} {t:TypeId} (hb:Blk w' b cs t) (hnew:w.heap.size≤b):St w0 S (blkR b cs t :: l.set i r') w':=by
 have h2:=h.turn hi hf hr hl (fun b hb => .inl (hfoot ▸ hb))
 refine h2.cons hb ⟨blkR_local _ _ _,blkR_in _ _ _⟩ (fun x hx => ?_) (fun s hs x hx hx2 => ?_)
 ·simp only [blkR,List.mem_singleton] at hx
  subst hx
  exact .inr (Nat.le_trans h.frm.size hnew)
 ·simp only [blkR,List.mem_singleton] at hx
  subst hx
  have hir:r ∈ l:=List.mem_of_getElem? hi
  rcases List.mem_or_eq_of_mem_set hs with hs | rfl
  ·have:=(h.loc s hs).2 w (h.has s hs) x hx2
   omega
  ·rw [hfoot] at hx2
   have:=(h.loc r hir).2 w (h.has r hir) x hx2
   omega
section
variable {P:Program}
theorem run_storeCells_wr (b o:Nat) (tt:TypeId):∀ (vs:List Value) (i:Nat) (cs:List Value) (w:World),Blk w b cs tt→o+i+vs.length≤cs.length→(∀ v ∈ vs,v.oneCell'=true) →
  ∃ w',(storeCells ⟨b,o,none⟩ vs i).run P w=.ok () w'∧Blk w' b (wr cs (o+i) vs) tt∧Frm [b] w w'
 | [],i,cs,w,hb,hl,h1 => ⟨w,rfl,hb,Frm.refl _ _⟩
 | v :: r,i,cs,w,hb,hl,h1 => by
  simp only [List.length_cons] at hl
  obtain ⟨w',h2,h3,h4⟩:=run_storeCells_wr b o tt r (i+1) (cs.set (o+i) v) (w.setCell ⟨b,o+i,none⟩ v) (hb.put _ _) (by simp;omega) (fun x hx => h1 x (List.mem_cons_of_mem _ hx))
  refine ⟨w',?_,h3,(Frm.put w ⟨b,o+i,none⟩ v (by simp)).trans h4⟩
  have hc:w.cell? ⟨b,o+i,none⟩=some cs[o+i]:=hb.cellv (List.getElem?_eq_getElem (by omega))
  have:=run_store P w ⟨b,o+i,none⟩ v .plain (h1 v (by simp))
  simp only [storeCells,Sem.run_bind,add_lit0,this]
  simp [stored,hc,hb.fz,h2]
def STn (P:Program) (t k:Nat):Prop:=(P.info? t).map (·.size)=some k
def ZER (P:Program) (t:TypeId) (cs:List Value):Prop:=∃ i z,P.info? t=some i∧i.zero=some z∧z.cells.toList=cs
theorem ZER.run {t:TypeId} {cs:List Value} (h:ZER P t cs):∃ z,(∀ w,(zeroValue t).run P w=.ok z w)∧z.cells=cs.toArray:=by
 obtain ⟨i,z,h1,h2,h3⟩:=h
 refine ⟨z,fun w => ?_,by rw [← h3]⟩
 simp [zeroValue,typeInfo,h1,h2]
variable {w0 w:World} {S:List Nat} {l:List Res}
variable {n:Nat} {ops:Array Oper} {Q:Post} {rest:List Oper} {ρ:Env} {ty:TypeId} {pos:String} {after:Array Edge} {t tt:TypeId} {x y:Operand} {b off k d:Nat} {cs vs:List Value} {v old:Value}
theorem VL.putN (H:St w0 S l w) (i:Nat) (F:STn P t k) (hx:ev ρ x=.pointer (some ⟨b,off,none⟩)) (hi:l[i]?=some (blkR b cs tt)) (hy:ev ρ y=.agg vs.toArray) (hk:vs.length=k) (hl:off+k≤cs.length) (h1:∀ v ∈ vs,v.oneCell'=true)
  (h:∀ w',St w0 S (l.set i (blkR b (wr cs off vs) tt)) w'→VL P n ops Q rest ρ w'):VL P n ops Q (⟨none,.store t x y,ty,pos,after,none⟩ :: rest) ρ w:=by
 subst hk
 obtain ⟨w',h2,h3,h4⟩:=run_storeCells_wr (P:=P) b off tt vs 0 cs w (H.blk hi) hl h1
 refine VL.st (w':=w') ?_ (h _ (H.turnB i hi h4 h3))
 unfold Skp
 simp only [execOp,hx,hy,Instr.storeAt,Instr.sureAddr,storeVar,Sem.run_bind,Sem.run_pure,Result.andThen_ok,Value.cells,siz F w]
 simp [h2]
theorem VL.putW (H:St w0 S l w) (i:Nat) (F:STn P t k) (hx:ev ρ x=.pointer (some ⟨b,0,none⟩)) (hi:l[i]?=some (blkR b cs tt)) (hy:ev ρ y=.agg vs.toArray) (hk:vs.length=k) (hl:vs.length=cs.length) (h1:∀ v ∈ vs,v.oneCell'=true)
  (h:∀ w',St w0 S (l.set i (blkR b vs tt)) w'→VL P n ops Q rest ρ w'):VL P n ops Q (⟨none,.store t x y,ty,pos,after,none⟩ :: rest) ρ w :=
 VL.putN H i F hx hi hy hk (by omega) h1 (by rwa [wr_all hl])
theorem St.high (H:St w0 S l w):w0.heap.size≤w.heap.size:=H.frm.size
theorem VL.alloc (H:St w0 S l w) (F:ZER P t cs) (hd:Nat.blt d n=true)
  (h:∀ w' b,w.heap.size≤b→w0.heap.size≤b→St w0 S (blkR b cs t :: l) w'→VL P n ops Q rest (upd ρ d (.pointer (some ⟨b,0,none⟩))) w') :
  VL P n ops Q (⟨some d,.alloc t,ty,pos,after,none⟩ :: rest) ρ w:=by
 obtain ⟨z,h1,h2⟩:=F.run
 refine Lo hd (v:=.pointer (some ⟨w.heap.size,0,none⟩)) (w':=w.alloc (.cells cs.toArray t)) ?_ (h _ _ (Nat.le_refl _) H.high (H.new cs t))
 unfold Yld
 simp only [execOp,Instr.alloc,Sem.run_bind,h1,Result.andThen_ok,newVar,newRow,h2]
 rfl
theorem VL.box (H:St w0 S l w) (hx:ev ρ x=v) (hv:v.cells.toList=cs) (hd:Nat.blt d n=true)
  (h:∀ w' b,w.heap.size≤b→w0.heap.size≤b→St w0 S (blkR b cs t :: l) w'→VL P n ops Q rest (upd ρ d (.pointer (some ⟨b,0,none⟩))) w') :
  VL P n ops Q (⟨some d,.box t x,ty,pos,after,none⟩ :: rest) ρ w:=by
 refine Lo hd (v:=.pointer (some ⟨w.heap.size,0,none⟩)) (w':=w.alloc (.cells cs.toArray t)) ?_ (h _ _ (Nat.le_refl _) H.high (H.new cs t))
 subst hv
 unfold Yld
 simp only [execOp,Instr.box,hx,Sem.run_bind,Result.andThen_ok,newVar,newRow]
 rfl
def MK (P:Program) (t el by_:Nat) (zs:List Value):Prop:=P.underlying t=some (.slice el)∧∃ i z,P.info? el=some i∧i.zero=some z∧z.cells.toList=zs∧i.size=zs.length∧i.bytes=by_
def mkCells (c:Nat) (zs:List Value):List Value:=(List.replicate c zs).flatten
theorem mkCells_length (c:Nat) (zs:List Value):(mkCells c zs).length=c * zs.length:=by simp [mkCells]
theorem mkCells_one (c:Nat) (z:Value):mkCells c [z]=List.replicate c z:=by
 induction c with
 | zero => rfl
 | succ c ih => simp only [mkCells,List.replicate_succ,List.flatten_cons] at ih ⊢;rw [ih];rfl
theorem mkCells_succ (c:Nat) (zs:List Value):mkCells (c+1) zs=mkCells c zs++zs:=by
 simp only [mkCells]
 rw [List.replicate_succ',List.flatten_append]
 simp
theorem madeCells_list (zs:List Value):∀ c,(madeCells zs.toArray (c * zs.length)).toList=mkCells c zs
 | 0 => by simp [madeCells,mkCells]
 | c+1 => by
  rw [mkCells_succ,← madeCells_list zs c]
  simp only [madeCells,Array.toList_map,Array.toList_range,Nat.succ_mul,List.range_add,List.map_append,List.map_map]
  congr 1
  apply List.ext_getElem
  ·simp
  ·intro j h1 h2
   simp only [List.size_toArray,List.getElem_map,List.getElem_range,Function.comp]
   rw [Nat.mul_add_mod_self_right,Nat.mod_eq_of_lt h2]
   simp [h2]
theorem VL.make {el by_:Nat} {zs:List Value} {kl kc:IntKind} {m c:Int} (H:St w0 S l w) (F:MK P t el by_ zs) (lN cN:Nat) (hx:ev ρ x=.int kl m) (hy:ev ρ y=.int kc c) (hm:m=(lN:Int)) (hc:c=(cN:Int)) (hlc:lN≤cN) (hb:by_ * cN≤281474976710656) (h63:cN≤9223372036854775807) (hd:Nat.blt d n=true)
  (h:∀ w' b,w.heap.size≤b→w0.heap.size≤b→St w0 S (blkR b (mkCells cN zs) el :: l) w'→VL P n ops Q rest (upd ρ d (.slice (some ⟨b,0,none⟩) lN cN)) w') :
  VL P n ops Q (⟨some d,.makeSlice t x y,ty,pos,after,none⟩ :: rest) ρ w:=by
 subst hm hc
 obtain ⟨hu,i,z,h1,h2,h3,h4,h5⟩:=F
 subst h5
 have hb':((i.bytes * cN:Nat):Int)≤281474976710656:=by omega
 rw [Int.natCast_mul] at hb'
 have hr:=run_make (P:=P) w t el i z hu h1 h2 kl kc lN cN (by omega) (by omega) hb' (by omega)
 have e:madeCells z.cells ((cN:Int).toNat * i.size)=(mkCells cN zs).toArray:=by
  have:=madeCells_list zs cN
  rw [← this,h4,← h3]
  rfl
 rw [e] at hr
 simp only [Int.toNat_natCast] at hr
 refine Lo hd (v:=.slice (some ⟨w.heap.size,0,none⟩) lN cN) (w':=w.alloc (.cells (mkCells cN zs).toArray el)) ?_ (h _ _ (Nat.le_refl _) H.high (H.new _ el))
 unfold Yld
 simp only [execOp,hx,hy,Sem.run_bind,hr,Result.andThen_ok]
 rfl
theorem Y.sliceA {e:Operand→Value} {d:Option Tmp} {g:Option (Nat × Bool)} {len el size:Nat} (F:AR P t len el size) (hx:e x=.pointer (some ⟨b,off,none⟩)):Yld P e ⟨d,.slice t x none none none,ty,pos,after,g⟩ w (.slice (some ⟨b,off,none⟩) len len) w:=by
 unfold Yld
 simp only [execOp,hx,Option.map_none,Sem.run_bind,Instr.sliceAt,run_underlying F.1,Result.andThen_ok,Instr.sureAddr,Instr.sliceBounds,Sem.run_pure,siz F.2 w,Nat.zero_mul,Nat.sub_zero]
 by_cases h:len=0
 ·rw [if_pos h]
 ·rw [if_neg h]
  rfl
def BZ (P:Program) (t:TypeId) (cs:List Value):Prop:=∀ w:World,(Instr.build t #[]).run P w=.ok (.agg cs.toArray) w
theorem Y.zeroS {e:Operand→Value} {d:Option Tmp} {g:Option (Nat × Bool)} (F:BZ P t cs):Yld P e ⟨d,.build t #[],ty,pos,after,g⟩ w (.agg cs.toArray) w:=by
 unfold Yld
 simp only [execOp,List.map_toArray,List.map_nil,Sem.run_bind,F w,Result.andThen_ok]
 rfl
theorem Y.zero {e:Operand→Value} {d:Option Tmp} {g:Option (Nat × Bool)} {el len:Nat} (hu:P.underlying t=some (.array len el)) (hs:(P.info? el).isSome=true) (F:ZER P t cs):Yld P e ⟨d,.build t #[],ty,pos,after,g⟩ w (.agg cs.toArray) w:=by
 obtain ⟨z,h1,h2⟩:=F.run
 obtain ⟨i,hi⟩:=Option.isSome_iff_exists.mp hs
 unfold Yld
 simp only [execOp,Instr.build,Sem.run_bind,h1,Result.andThen_ok,run_underlying hu,sizeOf,typeInfo,hi]
 simp [h2,hi,Instr.fill]
end
section
variable {P:Program}
def IDX (P:Program) (t len:Nat):Prop:=∀ (cs:Array Value) (j:Nat) (k:IntKind) (v:Value) (w:World),j<len→cs[j]?=some v→(Instr.index t (.agg cs) (.int k (j:Nat))).run P w=.ok v w
theorem idx {t len el:Nat} {d:TypeDesc} (hu:P.underlying t=some (.array len el)) (hs:(P.info? el).map (·.size)=some 1) (he:P.underlying el=some d) (hd:scalar d=true):IDX P t len:=fun cs j k v w hj hv => by
 have h1:(isAgg el).run P w=.ok false w:=by
  simp only [isAgg,Sem.run_bind,run_underlying he,Result.andThen_ok]
  cases d <;> simp_all [scalar]
 simp only [Instr.index,asIntOf,Sem.run_bind,Sem.run_pure,Result.andThen_ok,run_underlying hu]
 rw [if_pos (by omega)]
 simp only [Sem.run_bind,siz hs w,Result.andThen_ok,part,h1,Int.toNat_natCast,Nat.mul_one,hv]
 rfl
variable {e:Operand→Value} {d:Option Tmp} {ty:TypeId} {pos:String} {after:Array Edge} {g:Option (Nat × Bool)} {w:World} {t:TypeId} {x y:Operand}
theorem Y.idx {len:Nat} {cs:Array Value} {k:IntKind} {m:Int} {v:Value} (j:Nat) (F:IDX P t len) (hx:e x=.agg cs) (hy:e y=.int k m) (hj:m=(j:Int)) (hl:j<len) (hv:cs[j]?=some v) :
  Yld P e ⟨d,.index t x y,ty,pos,after,g⟩ w v w:=by
 subst hj
 unfold Yld
 simp only [execOp,hx,hy,Sem.run_bind,F cs j k v w hl hv,Result.andThen_ok]
 rfl
theorem Y.bld {parts:Array (Nat × Operand)} {ps:List (Nat × Value)} (cs:List Value) (hp:(parts.toList.map fun q => (q.1,e q.2))=ps) (hb:P.built t ps=some cs.toArray) :
  Yld P e ⟨d,.build t parts,ty,pos,after,g⟩ w (.agg cs.toArray) w:=by
 have h2:(parts.map fun q => (q.1,e q.2)).toList=ps:=by rw [Array.toList_map];exact hp
 unfold Yld
 simp only [execOp,Sem.run_bind]
 rw [run_build w t _ cs.toArray (by rw [h2];exact hb)]
 rfl
def TAS (P:Program) (a t:TypeId):Prop:=∀ (v:Value) (u:TypeId) (w:World),(Instr.typeAssert (.iface t v) u a true).run P w=.ok (.tuple #[.iface t v,.bool true]) w
theorem Y.tas {a u v0:TypeId} {v:Value} (F:TAS P a v0) (hx:e x=.iface v0 v):Yld P e ⟨d,.typeAssert x u a true,ty,pos,after,g⟩ w (.tuple #[.iface v0 v,.bool true]) w:=by
 unfold Yld
 simp only [execOp,hx,Sem.run_bind,F v u w,Result.andThen_ok]
 rfl
def MKI (P:Program) (t:TypeId):Prop:=∀ (v:Value) (w:World),(Instr.makeInterface t v).run P w=.ok (.iface t v) w
theorem Y.mki {v:Value} (F:MKI P t) (hx:e x=v):Yld P e ⟨d,.makeInterface t x,ty,pos,after,g⟩ w (.iface t v) w:=by
 subst hx
 unfold Yld
 simp only [execOp,Sem.run_bind,F _ w,Result.andThen_ok]
 rfl
def FLD (P:Program) (t f k:Nat):Prop:=∀ (cs:Array Value) (v:Value) (w:World),cs[k]?=some v→(Instr.field t (.agg cs) f).run P w=.ok v w
theorem fld {t f k:Nat} {fs:Array Field} {fd:Field} {d:TypeDesc} (hu:P.underlying t=some (.struct fs)) (hf:fs[f]?=some fd) (hk:fd.offset=k) (he:P.underlying fd.type=some d) (hd:scalar d=true):FLD P t f k:=fun cs v w hv => by
 have h1:(isAgg fd.type).run P w=.ok false w:=by
  simp only [isAgg,Sem.run_bind,run_underlying he,Result.andThen_ok]
  cases d <;> simp_all [scalar]
 subst hk
 simp only [Instr.field,Sem.run_bind,run_underlying hu,Result.andThen_ok,hf,asAgg,Sem.run_pure,part,h1,hv]
 rfl
theorem Y.fld {f k:Nat} {cs:Array Value} {v:Value} (F:FLD P t f k) (hx:e x=.agg cs) (hv:cs[k]?=some v):Yld P e ⟨d,.field t x f,ty,pos,after,g⟩ w v w:=by
 unfold Yld
 simp only [execOp,hx,Sem.run_bind,F cs v w hv,Result.andThen_ok]
 rfl
end
theorem Done.retC3 {P:Program} {fn:Func} {R:Ending→World→Prop} {ρ:Env} {w:World} {a b c k t:Nat} {bk:Nat} {cs:List Value} {v2 v3:Value} (hr:fn.results=#[.cell a t,.tmp b,.tmp c]) (F:LDn P t k) (h1:ρ a=.pointer (some ⟨bk,0,none⟩)) (hl:cs.length=k) (hc:∀ j,j<k→w.cell? ⟨bk,0+j,none⟩=cs[j]?)
  (h2:ρ b=v2) (h3:ρ c=v3) (h:R (.returned (.tuple #[.agg cs.toArray,v2,v3])) w):Done P fn R .ret ρ w:=by
 refine ⟨_,fun tmps ht => ?_,h⟩
 have hL:=F bk 0 w cs hl hc
 simp only [Instr.loadAt,Instr.sureAddr,Sem.run_bind,Sem.run_pure,Result.andThen_ok] at hL
 simp only [results,hr]
 simp [ht,h1,h2,h3,asAddr,hL]
theorem Done.retC1 {P:Program} {fn:Func} {R:Ending→World→Prop} {ρ:Env} {w:World} {a k t:Nat} {bk:Nat} {cs:List Value} (hr:fn.results=#[.cell a t]) (F:LDn P t k) (h1:ρ a=.pointer (some ⟨bk,0,none⟩)) (hl:cs.length=k) (hc:∀ j,j<k→w.cell? ⟨bk,0+j,none⟩=cs[j]?)
  (h:R (.returned (.agg cs.toArray)) w):Done P fn R .ret ρ w:=by
 refine ⟨_,fun tmps ht => ?_,h⟩
 have hL:=F bk 0 w cs hl hc
 simp only [Instr.loadAt,Instr.sureAddr,Sem.run_bind,Sem.run_pure,Result.andThen_ok] at hL
 simp only [results,hr]
 simp [ht,h1,asAddr,hL]
theorem VL.callV {P:Program} {n:Nat} {ops:Array Oper} {Q:Post} {ρ:Env} {w:World} {rest:List Oper} {f:FuncId} {c:Operand} {fs cs:List Value} {xs:Array Operand} {ts:Array TypeId} {ty:TypeId} {pos:String} {after:Array Edge} {d:Nat} {vs:List Value} {R:Ending→World→Prop}
  (hd:Nat.blt d n=true) (he:Ent P f) (hv:ev ρ c=.func (.func f) fs.toArray cs.toArray) (hc:Calls P f (fs++vs++cs).toArray w R) (hx:xs.toList.map (ev ρ)=vs)
  (h:∀ e w',R e w'→∃ v,e=.returned v∧VL P n ops Q rest (upd ρ d v) w') :
  VL P n ops Q (⟨some d,.call ⟨.value c,xs,ts⟩,ty,pos,after,none⟩ :: rest) ρ w:=fun a ha => by
 unfold wpList
 rw [if_pos (by simp [Region.wanted])]
 refine .inl ?_
 have hr:(execOp (ev ρ) ⟨some d,.call ⟨.value c,xs,ts⟩,ty,pos,after,none⟩).run P w=.ok (.enter f (fs++vs++cs).toArray) w:=by
  have hx:xs.map (ev ρ)=vs.toArray:=by apply Array.ext';rw [Array.toList_map,hx]
  have:=he (fs++vs++cs).toArray w
  have e2:fs.toArray++vs.toArray++cs.toArray=(fs++vs++cs).toArray:=by simp
  simp only [execOp,resolve,Deferred.ofValue,hv,Sem.run_bind,Sem.run_pure,Result.andThen_ok,hx,Go.invoke,e2,this]
 unfold Oper.wp
 rw [ha.eval,hr]
 refine hc.mono fun e w' hR => ?_
 obtain ⟨v,rfl,hv⟩:=h e w' hR
 exact hv _ (ha.put hd v)
theorem mixedP:Tryd.prog.follows .mixedOrders=true:=by kernel_rfl
theorem ar_108:AR Tryd.prog 108 5 107 1:=⟨by kernel_rfl,by kernel_rfl⟩
theorem ar_111:AR Tryd.prog 111 5 3 1:=⟨by kernel_rfl,by kernel_rfl⟩
theorem ar_113:AR Tryd.prog 113 5 23 1:=⟨by kernel_rfl,by kernel_rfl⟩
theorem ar_140:AR Tryd.prog 140 128 36 1:=⟨by kernel_rfl,by kernel_rfl⟩
theorem ar_144:AR Tryd.prog 144 5 142 129:=⟨by kernel_rfl,by kernel_rfl⟩
theorem ar_158:AR Tryd.prog 158 120 5 1:=⟨by kernel_rfl,by kernel_rfl⟩
theorem ar_168:AR Tryd.prog 168 2 36 1:=⟨by kernel_rfl,by kernel_rfl⟩
theorem ar_170:AR Tryd.prog 170 19 36 1:=⟨by kernel_rfl,by kernel_rfl⟩
theorem ar_171:AR Tryd.prog 171 19 5 1:=⟨by kernel_rfl,by kernel_rfl⟩
theorem ar_176:AR Tryd.prog 176 2 3 1:=⟨by kernel_rfl,by kernel_rfl⟩
theorem ar_178:AR Tryd.prog 178 3 5 1:=⟨by kernel_rfl,by kernel_rfl⟩
theorem ar_181:AR Tryd.prog 181 256 5 1:=⟨by kernel_rfl,by kernel_rfl⟩
theorem ar_182:AR Tryd.prog 182 16 36 1:=⟨by kernel_rfl,by kernel_rfl⟩
theorem ar_88:AR Tryd.prog 88 4 87 4:=⟨by kernel_rfl,by kernel_rfl⟩
theorem ar_89:AR Tryd.prog 89 4 4 1:=⟨by kernel_rfl,by kernel_rfl⟩
theorem ar_99:AR Tryd.prog 99 4 98 1:=⟨by kernel_rfl,by kernel_rfl⟩
theorem bz_142:BZ Tryd.prog 142 ([.slice none 0 0]++List.replicate 128 (.int .u32 0)):=fun _ => by kernel_rfl
theorem bz_53:BZ Tryd.prog 53 ([.slice none 0 0,.int .i64 0]):=fun _ => by kernel_rfl
theorem bz_56:BZ Tryd.prog 56 ([.slice none 0 0,.int .i64 0]):=fun _ => by kernel_rfl
theorem bz_87:BZ Tryd.prog 87 ([.int .u32 0,.int .i32 0,.int .u32 0,.slice none 0 0]):=fun _ => by kernel_rfl
theorem ent_11:Ent Tryd.prog 11:=fun _ _ => by kernel_rfl
theorem ent_116:Ent Tryd.prog 116:=fun _ _ => by kernel_rfl
theorem ent_117:Ent Tryd.prog 117:=fun _ _ => by kernel_rfl
theorem ent_118:Ent Tryd.prog 118:=fun _ _ => by kernel_rfl
theorem ent_119:Ent Tryd.prog 119:=fun _ _ => by kernel_rfl
theorem ent_12:Ent Tryd.prog 12:=fun _ _ => by kernel_rfl
theorem ent_120:Ent Tryd.prog 120:=fun _ _ => by kernel_rfl
theorem ent_121:Ent Tryd.prog 121:=fun _ _ => by kernel_rfl
theorem ent_122:Ent Tryd.prog 122:=fun _ _ => by kernel_rfl
theorem ent_123:Ent Tryd.prog 123:=fun _ _ => by kernel_rfl
theorem ent_13:Ent Tryd.prog 13:=fun _ _ => by kernel_rfl
theorem ent_14:Ent Tryd.prog 14:=fun _ _ => by kernel_rfl
theorem ent_15:Ent Tryd.prog 15:=fun _ _ => by kernel_rfl
theorem ent_16:Ent Tryd.prog 16:=fun _ _ => by kernel_rfl
theorem ent_17:Ent Tryd.prog 17:=fun _ _ => by kernel_rfl
theorem ent_18:Ent Tryd.prog 18:=fun _ _ => by kernel_rfl
theorem ent_19:Ent Tryd.prog 19:=fun _ _ => by kernel_rfl
theorem ent_20:Ent Tryd.prog 20:=fun _ _ => by kernel_rfl
theorem ent_21:Ent Tryd.prog 21:=fun _ _ => by kernel_rfl
theorem ent_22:Ent Tryd.prog 22:=fun _ _ => by kernel_rfl
theorem ent_23:Ent Tryd.prog 23:=fun _ _ => by kernel_rfl
theorem ent_24:Ent Tryd.prog 24:=fun _ _ => by kernel_rfl
theorem ent_25:Ent Tryd.prog 25:=fun _ _ => by kernel_rfl
theorem ent_26:Ent Tryd.prog 26:=fun _ _ => by kernel_rfl
theorem ent_27:Ent Tryd.prog 27:=fun _ _ => by kernel_rfl
theorem ent_28:Ent Tryd.prog 28:=fun _ _ => by kernel_rfl
theorem ent_29:Ent Tryd.prog 29:=fun _ _ => by kernel_rfl
theorem ent_30:Ent Tryd.prog 30:=fun _ _ => by kernel_rfl
theorem ent_31:Ent Tryd.prog 31:=fun _ _ => by kernel_rfl
theorem ent_32:Ent Tryd.prog 32:=fun _ _ => by kernel_rfl
theorem ent_33:Ent Tryd.prog 33:=fun _ _ => by kernel_rfl
theorem ent_34:Ent Tryd.prog 34:=fun _ _ => by kernel_rfl
theorem ent_35:Ent Tryd.prog 35:=fun _ _ => by kernel_rfl
theorem ent_36:Ent Tryd.prog 36:=fun _ _ => by kernel_rfl
theorem ent_37:Ent Tryd.prog 37:=fun _ _ => by kernel_rfl
theorem ent_38:Ent Tryd.prog 38:=fun _ _ => by kernel_rfl
theorem ent_39:Ent Tryd.prog 39:=fun _ _ => by kernel_rfl
theorem ent_40:Ent Tryd.prog 40:=fun _ _ => by kernel_rfl
theorem ent_41:Ent Tryd.prog 41:=fun _ _ => by kernel_rfl
theorem ent_42:Ent Tryd.prog 42:=fun _ _ => by kernel_rfl
theorem ent_43:Ent Tryd.prog 43:=fun _ _ => by kernel_rfl
theorem ent_44:Ent Tryd.prog 44:=fun _ _ => by kernel_rfl
theorem ent_45:Ent Tryd.prog 45:=fun _ _ => by kernel_rfl
theorem ent_46:Ent Tryd.prog 46:=fun _ _ => by kernel_rfl
theorem ent_47:Ent Tryd.prog 47:=fun _ _ => by kernel_rfl
theorem ent_48:Ent Tryd.prog 48:=fun _ _ => by kernel_rfl
theorem ent_49:Ent Tryd.prog 49:=fun _ _ => by kernel_rfl
theorem ent_50:Ent Tryd.prog 50:=fun _ _ => by kernel_rfl
theorem ent_51:Ent Tryd.prog 51:=fun _ _ => by kernel_rfl
theorem ent_52:Ent Tryd.prog 52:=fun _ _ => by kernel_rfl
theorem ent_53:Ent Tryd.prog 53:=fun _ _ => by kernel_rfl
theorem ent_55:Ent Tryd.prog 55:=fun _ _ => by kernel_rfl
theorem ent_56:Ent Tryd.prog 56:=fun _ _ => by kernel_rfl
theorem ent_57:Ent Tryd.prog 57:=fun _ _ => by kernel_rfl
theorem ent_58:Ent Tryd.prog 58:=fun _ _ => by kernel_rfl
theorem ent_59:Ent Tryd.prog 59:=fun _ _ => by kernel_rfl
theorem ent_60:Ent Tryd.prog 60:=fun _ _ => by kernel_rfl
theorem ent_61:Ent Tryd.prog 61:=fun _ _ => by kernel_rfl
theorem ent_62:Ent Tryd.prog 62:=fun _ _ => by kernel_rfl
theorem ent_63:Ent Tryd.prog 63:=fun _ _ => by kernel_rfl
theorem ent_64:Ent Tryd.prog 64:=fun _ _ => by kernel_rfl
theorem ent_65:Ent Tryd.prog 65:=fun _ _ => by kernel_rfl
theorem ent_66:Ent Tryd.prog 66:=fun _ _ => by kernel_rfl
theorem ent_67:Ent Tryd.prog 67:=fun _ _ => by kernel_rfl
theorem ent_68:Ent Tryd.prog 68:=fun _ _ => by kernel_rfl
theorem ent_70:Ent Tryd.prog 70:=fun _ _ => by kernel_rfl
theorem ent_71:Ent Tryd.prog 71:=fun _ _ => by kernel_rfl
theorem ent_72:Ent Tryd.prog 72:=fun _ _ => by kernel_rfl
theorem ent_73:Ent Tryd.prog 73:=fun _ _ => by kernel_rfl
theorem ent_74:Ent Tryd.prog 74:=fun _ _ => by kernel_rfl
theorem ent_75:Ent Tryd.prog 75:=fun _ _ => by kernel_rfl
theorem ent_76:Ent Tryd.prog 76:=fun _ _ => by kernel_rfl
theorem ent_78:Ent Tryd.prog 78:=fun _ _ => by kernel_rfl
theorem ent_79:Ent Tryd.prog 79:=fun _ _ => by kernel_rfl
theorem ent_80:Ent Tryd.prog 80:=fun _ _ => by kernel_rfl
theorem ent_81:Ent Tryd.prog 81:=fun _ _ => by kernel_rfl
theorem ent_82:Ent Tryd.prog 82:=fun _ _ => by kernel_rfl
theorem ent_83:Ent Tryd.prog 83:=fun _ _ => by kernel_rfl
theorem fa_110_0:FA Tryd.prog 110 0 0:=fun _ _ _ => by kernel_rfl
theorem fa_110_1:FA Tryd.prog 110 1 1:=fun _ _ _ => by kernel_rfl
theorem fa_110_2:FA Tryd.prog 110 2 2:=fun _ _ _ => by kernel_rfl
theorem fa_110_3:FA Tryd.prog 110 3 3:=fun _ _ _ => by kernel_rfl
theorem fa_110_4:FA Tryd.prog 110 4 4:=fun _ _ _ => by kernel_rfl
theorem fa_128_0:FA Tryd.prog 128 0 0:=fun _ _ _ => by kernel_rfl
theorem fa_128_1:FA Tryd.prog 128 1 1:=fun _ _ _ => by kernel_rfl
theorem fa_128_2:FA Tryd.prog 128 2 2:=fun _ _ _ => by kernel_rfl
theorem fa_142_0:FA Tryd.prog 142 0 0:=fun _ _ _ => by kernel_rfl
theorem fa_142_1:FA Tryd.prog 142 1 1:=fun _ _ _ => by kernel_rfl
theorem fa_157_0:FA Tryd.prog 157 0 0:=fun _ _ _ => by kernel_rfl
theorem fa_157_1:FA Tryd.prog 157 1 1:=fun _ _ _ => by kernel_rfl
theorem fa_162_0:FA Tryd.prog 162 0 0:=fun _ _ _ => by kernel_rfl
theorem fa_162_1:FA Tryd.prog 162 1 1:=fun _ _ _ => by kernel_rfl
theorem fa_162_2:FA Tryd.prog 162 2 2:=fun _ _ _ => by kernel_rfl
theorem fa_53_0:FA Tryd.prog 53 0 0:=fun _ _ _ => by kernel_rfl
theorem fa_53_1:FA Tryd.prog 53 1 1:=fun _ _ _ => by kernel_rfl
theorem fa_56_0:FA Tryd.prog 56 0 0:=fun _ _ _ => by kernel_rfl
theorem fa_56_1:FA Tryd.prog 56 1 1:=fun _ _ _ => by kernel_rfl
theorem fa_61_0:FA Tryd.prog 61 0 0:=fun _ _ _ => by kernel_rfl
theorem fa_61_1:FA Tryd.prog 61 1 1:=fun _ _ _ => by kernel_rfl
theorem fa_61_2:FA Tryd.prog 61 2 2:=fun _ _ _ => by kernel_rfl
theorem fa_61_3:FA Tryd.prog 61 3 3:=fun _ _ _ => by kernel_rfl
theorem fa_72_0:FA Tryd.prog 72 0 0:=fun _ _ _ => by kernel_rfl
theorem fa_72_1:FA Tryd.prog 72 1 1:=fun _ _ _ => by kernel_rfl
theorem fa_74_0:FA Tryd.prog 74 0 0:=fun _ _ _ => by kernel_rfl
theorem fa_74_1:FA Tryd.prog 74 1 2:=fun _ _ _ => by kernel_rfl
theorem fa_77_0:FA Tryd.prog 77 0 0:=fun _ _ _ => by kernel_rfl
theorem fa_77_1:FA Tryd.prog 77 1 1:=fun _ _ _ => by kernel_rfl
theorem fa_77_2:FA Tryd.prog 77 2 2:=fun _ _ _ => by kernel_rfl
theorem fa_80_0:FA Tryd.prog 80 0 0:=fun _ _ _ => by kernel_rfl
theorem fa_80_1:FA Tryd.prog 80 1 1:=fun _ _ _ => by kernel_rfl
theorem fa_80_2:FA Tryd.prog 80 2 2:=fun _ _ _ => by kernel_rfl
theorem fa_87_0:FA Tryd.prog 87 0 0:=fun _ _ _ => by kernel_rfl
theorem fa_87_1:FA Tryd.prog 87 1 1:=fun _ _ _ => by kernel_rfl
theorem fa_87_2:FA Tryd.prog 87 2 2:=fun _ _ _ => by kernel_rfl
theorem fa_87_3:FA Tryd.prog 87 3 3:=fun _ _ _ => by kernel_rfl
theorem idx_111:IDX Tryd.prog 111 5:=idx (by kernel_rfl) (by kernel_rfl) Tryd.underlying3 rfl
theorem idx_153:IDX Tryd.prog 153 5:=idx (by kernel_rfl) (by kernel_rfl) Tryd.underlying36 rfl
theorem ifc_47:IFC Tryd.prog 47:=(by kernel_rfl:Tryd.prog.underlying 47=some (.interface (Tryd.prog.methodsAt 47)))
theorem int_151_21:INT Tryd.prog 151 21 .i32:=⟨by kernel_rfl,by kernel_rfl⟩
theorem int_151_3:INT Tryd.prog 151 3 .i64:=⟨by kernel_rfl,by kernel_rfl⟩
theorem int_21_3:INT Tryd.prog 21 3 .i64:=⟨by kernel_rfl,by kernel_rfl⟩
theorem int_21_36:INT Tryd.prog 21 36 .u32:=⟨by kernel_rfl,by kernel_rfl⟩
theorem int_21_5:INT Tryd.prog 21 5 .u8:=⟨by kernel_rfl,by kernel_rfl⟩
theorem int_36_21:INT Tryd.prog 36 21 .i32:=⟨by kernel_rfl,by kernel_rfl⟩
theorem int_36_3:INT Tryd.prog 36 3 .i64:=⟨by kernel_rfl,by kernel_rfl⟩
theorem int_36_5:INT Tryd.prog 36 5 .u8:=⟨by kernel_rfl,by kernel_rfl⟩
theorem int_3_151:INT Tryd.prog 3 151 .i8:=⟨by kernel_rfl,by kernel_rfl⟩
theorem int_3_21:INT Tryd.prog 3 21 .i32:=⟨by kernel_rfl,by kernel_rfl⟩
theorem int_3_36:INT Tryd.prog 3 36 .u32:=⟨by kernel_rfl,by kernel_rfl⟩
theorem int_3_5:INT Tryd.prog 3 5 .u8:=⟨by kernel_rfl,by kernel_rfl⟩
theorem int_5_151:INT Tryd.prog 5 151 .i8:=⟨by kernel_rfl,by kernel_rfl⟩
theorem int_5_21:INT Tryd.prog 5 21 .i32:=⟨by kernel_rfl,by kernel_rfl⟩
theorem int_5_3:INT Tryd.prog 5 3 .i64:=⟨by kernel_rfl,by kernel_rfl⟩
theorem int_5_36:INT Tryd.prog 5 36 .u32:=⟨by kernel_rfl,by kernel_rfl⟩
theorem inv_42_ReadByte : INV Tryd.prog 42 "ReadByte" 99 := fun _ _ _ => by kernel_rfl
theorem ld_106:LD1 Tryd.prog 106:=ld1 Tryd.underlying106 rfl
theorem ld_107:LD1 Tryd.prog 107:=ld1 Tryd.underlying107 rfl
theorem ld_123:LD1 Tryd.prog 123:=ld1 Tryd.underlying123 rfl
theorem ld_139:LD1 Tryd.prog 139:=ld1 Tryd.underlying139 rfl
theorem ld_2:LD1 Tryd.prog 2:=ld1 Tryd.underlying2 rfl
theorem ld_21:LD1 Tryd.prog 21:=ld1 Tryd.underlying21 rfl
theorem ld_22:LD1 Tryd.prog 22:=ld1 Tryd.underlying22 rfl
theorem ld_23:LD1 Tryd.prog 23:=ld1 Tryd.underlying23 rfl
theorem ld_24:LD1 Tryd.prog 24:=ld1 Tryd.underlying24 rfl
theorem ld_3:LD1 Tryd.prog 3:=ld1 Tryd.underlying3 rfl
theorem ld_36:LD1 Tryd.prog 36:=ld1 Tryd.underlying36 rfl
theorem ld_4:LD1 Tryd.prog 4:=ld1 Tryd.underlying4 rfl
theorem ld_47:LD1 Tryd.prog 47:=ld1 Tryd.underlying47 rfl
theorem ld_5:LD1 Tryd.prog 5:=ld1 Tryd.underlying5 rfl
theorem ld_54:LD1 Tryd.prog 54:=ld1 Tryd.underlying54 rfl
theorem ld_98:LD1 Tryd.prog 98:=ld1 Tryd.underlying98 rfl
theorem ldn_110:LDn Tryd.prog 110 5:=ldn Tryd.underlying110 rfl (by kernel_rfl)
theorem ldn_111:LDn Tryd.prog 111 5:=ldn Tryd.underlying111 rfl (by kernel_rfl)
theorem ldn_113:LDn Tryd.prog 113 5:=ldn Tryd.underlying113 rfl (by kernel_rfl)
theorem ldn_153:LDn Tryd.prog 153 5:=ldn Tryd.underlying153 rfl (by kernel_rfl)
theorem ldn_162:LDn Tryd.prog 162 3:=ldn Tryd.underlying162 rfl (by kernel_rfl)
theorem ldn_168:LDn Tryd.prog 168 2:=ldn Tryd.underlying168 rfl (by kernel_rfl)
theorem ldn_61:LDn Tryd.prog 61 4:=ldn Tryd.underlying61 rfl (by kernel_rfl)
theorem ldn_74:LDn Tryd.prog 74 4:=ldn Tryd.underlying74 rfl (by kernel_rfl)
theorem ldn_87:LDn Tryd.prog 87 4:=ldn Tryd.underlying87 rfl (by kernel_rfl)
theorem mk_104:MK Tryd.prog 104 110 40 ([.int .u32 0,.int .i64 0,.int .i64 0,.int .i64 0,.int .i64 0]):=⟨by kernel_rfl,_,_,rfl,rfl,by kernel_rfl,by kernel_rfl,by kernel_rfl⟩
theorem mk_106:MK Tryd.prog 106 113 120 ([.slice none 0 0,.slice none 0 0,.slice none 0 0,.slice none 0 0,.slice none 0 0]):=⟨by kernel_rfl,_,_,rfl,rfl,by kernel_rfl,by kernel_rfl,by kernel_rfl⟩
theorem mk_107:MK Tryd.prog 107 4 1 ([.bool false]):=⟨by kernel_rfl,_,_,rfl,rfl,by kernel_rfl,by kernel_rfl,by kernel_rfl⟩
theorem mk_135:MK Tryd.prog 135 144 2680 ([.slice none 0 0]++List.replicate 128 (.int .u32 0)++[.slice none 0 0]++List.replicate 128 (.int .u32 0)++[.slice none 0 0]++List.replicate 128 (.int .u32 0)++[.slice none 0 0]++List.replicate 128 (.int .u32 0)++[.slice none 0 0]++List.replicate 128 (.int .u32 0)):=⟨by kernel_rfl,_,_,rfl,rfl,by kernel_rfl,by kernel_rfl,by kernel_rfl⟩
theorem mk_139:MK Tryd.prog 139 157 8 ([.int .u32 0,.int .i32 0]):=⟨by kernel_rfl,_,_,rfl,rfl,by kernel_rfl,by kernel_rfl,by kernel_rfl⟩
theorem mk_159:MK Tryd.prog 159 162 24 ([.int .i64 0,.int .i64 0,.int .i64 0]):=⟨by kernel_rfl,_,_,rfl,rfl,by kernel_rfl,by kernel_rfl,by kernel_rfl⟩
theorem mk_174:MK Tryd.prog 174 176 16 ([.int .i64 0,.int .i64 0]):=⟨by kernel_rfl,_,_,rfl,rfl,by kernel_rfl,by kernel_rfl,by kernel_rfl⟩
theorem mk_22:MK Tryd.prog 22 36 4 ([.int .u32 0]):=⟨by kernel_rfl,_,_,rfl,rfl,by kernel_rfl,by kernel_rfl,by kernel_rfl⟩
theorem mk_23:MK Tryd.prog 23 3 8 ([.int .i64 0]):=⟨by kernel_rfl,_,_,rfl,rfl,by kernel_rfl,by kernel_rfl,by kernel_rfl⟩
theorem mk_24:MK Tryd.prog 24 5 1 ([.int .u8 0]):=⟨by kernel_rfl,_,_,rfl,rfl,by kernel_rfl,by kernel_rfl,by kernel_rfl⟩
theorem mki_132:MKI Tryd.prog 132:=fun _ _ => by kernel_rfl
theorem mki_42:MKI Tryd.prog 42:=fun _ _ => by kernel_rfl
theorem mki_69:MKI Tryd.prog 69:=fun _ _ => by kernel_rfl
theorem ptrc_132:PTRC Tryd.prog 132 134:=⟨by kernel_rfl,by kernel_rfl,by kernel_rfl⟩
theorem sl_104:SL Tryd.prog 104 110 5:=⟨by kernel_rfl,by kernel_rfl⟩
theorem sl_106:SL Tryd.prog 106 113 5:=⟨by kernel_rfl,by kernel_rfl⟩
theorem sl_107:SL Tryd.prog 107 4 1:=⟨by kernel_rfl,by kernel_rfl⟩
theorem sl_135:SL Tryd.prog 135 144 645:=⟨by kernel_rfl,by kernel_rfl⟩
theorem sl_139:SL Tryd.prog 139 157 2:=⟨by kernel_rfl,by kernel_rfl⟩
theorem sl_159:SL Tryd.prog 159 162 3:=⟨by kernel_rfl,by kernel_rfl⟩
theorem sl_174:SL Tryd.prog 174 176 2:=⟨by kernel_rfl,by kernel_rfl⟩
theorem sl_22:SL Tryd.prog 22 36 1:=⟨by kernel_rfl,by kernel_rfl⟩
theorem sl_23:SL Tryd.prog 23 3 1:=⟨by kernel_rfl,by kernel_rfl⟩
theorem sl_24:SL Tryd.prog 24 5 1:=⟨by kernel_rfl,by kernel_rfl⟩
theorem st_106:ST1 Tryd.prog 106:=st1 (by kernel_rfl)
theorem st_139:ST1 Tryd.prog 139:=st1 (by kernel_rfl)
theorem st_2:ST1 Tryd.prog 2:=st1 (by kernel_rfl)
theorem st_21:ST1 Tryd.prog 21:=st1 (by kernel_rfl)
theorem st_22:ST1 Tryd.prog 22:=st1 (by kernel_rfl)
theorem st_23:ST1 Tryd.prog 23:=st1 (by kernel_rfl)
theorem st_24:ST1 Tryd.prog 24:=st1 (by kernel_rfl)
theorem st_3:ST1 Tryd.prog 3:=st1 (by kernel_rfl)
theorem st_36:ST1 Tryd.prog 36:=st1 (by kernel_rfl)
theorem st_4:ST1 Tryd.prog 4:=st1 (by kernel_rfl)
theorem st_5:ST1 Tryd.prog 5:=st1 (by kernel_rfl)
theorem stn_108:STn Tryd.prog 108 5:=by unfold STn;kernel_rfl
theorem stn_110:STn Tryd.prog 110 5:=by unfold STn;kernel_rfl
theorem stn_111:STn Tryd.prog 111 5:=by unfold STn;kernel_rfl
theorem stn_142:STn Tryd.prog 142 129:=by unfold STn;kernel_rfl
theorem stn_162:STn Tryd.prog 162 3:=by unfold STn;kernel_rfl
theorem stn_170:STn Tryd.prog 170 19:=by unfold STn;kernel_rfl
theorem stn_182:STn Tryd.prog 182 16:=by unfold STn;kernel_rfl
theorem stn_61:STn Tryd.prog 61 4:=by unfold STn;kernel_rfl
theorem stn_74:STn Tryd.prog 74 4:=by unfold STn;kernel_rfl
theorem stn_87:STn Tryd.prog 87 4:=by unfold STn;kernel_rfl
theorem tas_123_42:TAS Tryd.prog 123 42:=fun _ _ _ => by kernel_rfl
theorem zer_106:ZER Tryd.prog 106 ([.slice none 0 0]):=⟨_,_,rfl,rfl,by kernel_rfl⟩
theorem zer_108:ZER Tryd.prog 108 ([.slice none 0 0,.slice none 0 0,.slice none 0 0,.slice none 0 0,.slice none 0 0]):=⟨_,_,rfl,rfl,by kernel_rfl⟩
theorem zer_110:ZER Tryd.prog 110 ([.int .u32 0,.int .i64 0,.int .i64 0,.int .i64 0,.int .i64 0]):=⟨_,_,rfl,rfl,by kernel_rfl⟩
theorem zer_111:ZER Tryd.prog 111 ([.int .i64 0,.int .i64 0,.int .i64 0,.int .i64 0,.int .i64 0]):=⟨_,_,rfl,rfl,by kernel_rfl⟩
theorem zer_113:ZER Tryd.prog 113 ([.slice none 0 0,.slice none 0 0,.slice none 0 0,.slice none 0 0,.slice none 0 0]):=⟨_,_,rfl,rfl,by kernel_rfl⟩
theorem zer_142:ZER Tryd.prog 142 ([.slice none 0 0]++List.replicate 128 (.int .u32 0)):=⟨_,_,rfl,rfl,by kernel_rfl⟩
theorem zer_162:ZER Tryd.prog 162 ([.int .i64 0,.int .i64 0,.int .i64 0]):=⟨_,_,rfl,rfl,by kernel_rfl⟩
theorem zer_168:ZER Tryd.prog 168 ([.int .u32 0,.int .u32 0]):=⟨_,_,rfl,rfl,by kernel_rfl⟩
theorem zer_170:ZER Tryd.prog 170 (List.replicate 19 (.int .u32 0)):=⟨_,_,rfl,rfl,by kernel_rfl⟩
theorem zer_182:ZER Tryd.prog 182 (List.replicate 16 (.int .u32 0)):=⟨_,_,rfl,rfl,by kernel_rfl⟩
theorem zer_22:ZER Tryd.prog 22 ([.slice none 0 0]):=⟨_,_,rfl,rfl,by kernel_rfl⟩
theorem zer_3:ZER Tryd.prog 3 ([.int .i64 0]):=⟨_,_,rfl,rfl,by kernel_rfl⟩
theorem zer_61:ZER Tryd.prog 61 ([.int .i64 0,.int .i64 0,.int .i64 0,.slice none 0 0]):=⟨_,_,rfl,rfl,by kernel_rfl⟩
theorem zer_74:ZER Tryd.prog 74 ([.int .i64 0,.int .i64 0,.int .i64 0,.int .i64 0]):=⟨_,_,rfl,rfl,by kernel_rfl⟩
theorem zer_87:ZER Tryd.prog 87 ([.int .u32 0,.int .i32 0,.int .u32 0,.slice none 0 0]):=⟨_,_,rfl,rfl,by kernel_rfl⟩
theorem zer_88:ZER Tryd.prog 88 ([.int .u32 0,.int .i32 0,.int .u32 0,.slice none 0 0,.int .u32 0,.int .i32 0,.int .u32 0,.slice none 0 0,.int .u32 0,.int .i32 0,.int .u32 0,.slice none 0 0,.int .u32 0,.int .i32 0,.int .u32 0,.slice none 0 0]):=⟨_,_,rfl,rfl,by kernel_rfl⟩
theorem zer_89:ZER Tryd.prog 89 ([.bool false,.bool false,.bool false,.bool false]):=⟨_,_,rfl,rfl,by kernel_rfl⟩
abbrev nG:Nat:=11
def tab_distanceMapTable:List Nat:=[24,7,23,25,40,6,39,41,22,26,38,42,56,5,55,57,21,27,54,58,37,43,72,4,71,73,20,28,53,59,70,74,36,44,88,69,75,52,60,3,87,89,19,29,86,90,35,45,68,76,85,91,51,61,104,2,103,105,18,30,102,106,34,46,84,92,67,77,101,107,50,62,120,1,119,121,83,93,17,31,100,108,66,78,118,122,33,47,117,123,49,63,99,109,82,94,0,116,124,65,79,16,32,98,110,48,115,125,81,95,64,114,126,97,111,80,113,127,96,112]
def tab_codeLengthCodeOrder:List Nat:=[17,18,0,1,2,3,4,5,16,6,7,8,9,10,11,12,13,14,15]
def tab_repeatBits:List Nat:=[2,3,7]
def tab_repeatOffsets:List Nat:=[3,3,11]
def tab_alphabetSizes:List Nat:=[280,256,256,256,40]
def tab_reverseBits:List Nat:=[0,128,64,192,32,160,96,224,16,144,80,208,48,176,112,240,8,136,72,200,40,168,104,232,24,152,88,216,56,184,120,248,4,132,68,196,36,164,100,228,20,148,84,212,52,180,116,244,12,140,76,204,44,172,108,236,28,156,92,220,60,188,124,252,2,130,66,194,34,162,98,226,18,146,82,210,50,178,114,242,10,138,74,202,42,170,106,234,26,154,90,218,58,186,122,250,6,134,70,198,38,166,102,230,22,150,86,214,54,182,118,246,14,142,78,206,46,174,110,238,30,158,94,222,62,190,126,254,1,129,65,193,33,161,97,225,17,145,81,209,49,177,113,241,9,137,73,201,41,169,105,233,25,153,89,217,57,185,121,249,5,133,69,197,37,165,101,229,21,149,85,213,53,181,117,245,13,141,77,205,45,173,109,237,29,157,93,221,61,189,125,253,3,131,67,195,35,163,99,227,19,147,83,211,51,179,115,243,11,139,75,203,43,171,107,235,27,155,91,219,59,187,123,251,7,135,71,199,39,167,103,231,23,151,87,215,55,183,119,247,15,143,79,207,47,175,111,239,31,159,95,223,63,191,127,255]
theorem readByte_some (w:World) (r sb so n cap i:Nat) (pr:Int) (c:Nat)
  (hb:Blk w r [.slice (some ⟨sb,so,none⟩) n cap,.int .i64 i,.int .i64 pr] 80)
  (hc:w.cell? ⟨sb,so+i,none⟩=some (.int .u8 c)) (hsb:sb≠r) (hi:i<n) (hn:n≤9223372036854775807) :
  Calls Tryd.prog 99 #[.pointer (some ⟨r,0,none⟩)] w fun e w' => e=.returned (.tuple #[.int .u8 c,.nilIface]) ∧
   Blk w' r [.slice (some ⟨sb,so,none⟩) n cap,.int .i64 (i+1:Nat),.int .i64 (-1)] 80∧Frm [r] w w':=by
 have H:=St.ofBlk hb
 have hS:sb ∉ [r]:=by simpa using hsb
 refine enter (m:=37) Tryd.func99 O Tryd.ntmps99 O (Cy (Lo O (AI O) (Lo O (Y.asg O) (Lt (Cy (Lo O (YP O) (Lo O (Y.nilP O) (Lo O (Y.fa fa_80_2 O) (VL.putI H 0 st_3 O O O O ?_)))))))))
 intro w H
 refine Lt (Cs (Cs (Cd mixedP (by kernel_rfl) ?_)))
 intro w hsame
 replace H:=H.same hsame
 refine So O (YP O) (So O (Y.nilP O) (So O (Y.fa fa_80_1 O) (So O (Y.ld ld_2 O (H.cell 0 O O)) (So O (YP O) (So O (Y.nilP O) (So O (Y.fa fa_80_0 O) (So O (Y.ld ld_24 O (H.cell 0 O O)) (So O (Y.len sl_24 O) (So O (Y.geq O O) (Sn (tn (CF O (by omega) (Ck (tn (Cs (Cd mixedP (by kernel_rfl) ?_))))))))))))))))
 intro w hsame
 replace H:=H.same hsame
 refine So O (YP O) (So O (Y.nilP O) (So O (Y.fa fa_80_0 O) (So O (Y.ld ld_24 O (H.cell 0 O O)) (So O (YP O) (So O (Y.nilP O) (So O (Y.fa fa_80_1 O) (So O (Y.ld ld_2 O (H.cell 0 O O)) (So O (Y.ixS1 _ sl_24 O O O (by omega)) (So O (Y.ld ld_5 O (H.old hc hS)) (So O (AI O) (Sn (tn (Cy (Lo O (YP O) (Lo O (Y.nilP O) (Lo O (Y.fa fa_80_1 O) (Lo O (Y.ld ld_2 O (H.cell 0 O O)) (Lo O (Y.add O O (w64 (by omega))) ?_))))))))))))))))))
 refine Lo O (Y.nilP O) (Lo O (Y.fa fa_80_1 O) (VL.putI H 0 st_2 O O O O ?_))
 intro w H
 refine Lt (Cy (Lo O (YI O) (Lo O (AI O) (Lo O (Y.asg O) (Lt (Ct ?_))))))
 exact Done.ret2 O O O ⟨rfl,H.blk (i:=0) rfl,H.frm⟩
theorem readByte_end (w:World) (r sb so n cap i:Nat) (pr:Int) (v:Value)
  (hb:Blk w r [.slice (some ⟨sb,so,none⟩) n cap,.int .i64 i,.int .i64 pr] 80)
  (hv:w.cell? ⟨1,0,none⟩=some v) (hg:1<r) (hi:n≤i) (hn:n≤9223372036854775807) :
  Calls Tryd.prog 99 #[.pointer (some ⟨r,0,none⟩)] w fun e w' => e=.returned (.tuple #[.int .u8 0,v]) ∧
   Blk w' r [.slice (some ⟨sb,so,none⟩) n cap,.int .i64 i,.int .i64 (-1)] 80∧Frm [r] w w':=by
 have H:=St.ofBlk hb
 have hS:1 ∉ [r]:=by simp;omega
 refine enter (m:=37) Tryd.func99 O Tryd.ntmps99 O (Cy (Lo O (AI O) (Lo O (Y.asg O) (Lt (Cy (Lo O (YP O) (Lo O (Y.nilP O) (Lo O (Y.fa fa_80_2 O) (VL.putI H 0 st_3 O O O O ?_)))))))))
 intro w H
 refine Lt (Cs (Cs (Cd mixedP (by kernel_rfl) ?_)))
 intro w hsame
 replace H:=H.same hsame
 refine So O (YP O) (So O (Y.nilP O) (So O (Y.fa fa_80_1 O) (So O (Y.ld ld_2 O (H.cell 0 O O)) (So O (YP O) (So O (Y.nilP O) (So O (Y.fa fa_80_0 O) (So O (Y.ld ld_24 O (H.cell 0 O O)) (So O (Y.len sl_24 O) (So O (Y.geq O O) (Sn (tn (CT O (by omega) (Cs (Cd mixedP (by kernel_rfl) ?_))))))))))))))
 intro w hsame
 replace H:=H.same hsame
 refine So O (Y.ld ld_47 O (H.old hv hS)) (So O (AI O) (So O (Y.asg O) (Sn (tn (Ct (thn_r ?_))))))
 exact Done.ret2 O O O ⟨rfl,H.blk (i:=0) rfl,H.frm⟩
def NoP (Q:Post):Prop:=∀ c ρ w,¬ Q (.panic c) ρ w
theorem NoP.thn {K:Env→World→Prop} {Q:Post} (h:NoP Q):NoP (thn K Q):=h
theorem NoP.blk {id:Nat} {Q:Post} (h:NoP Q):NoP (blk id Q):=h
theorem NoP.jmp {l:Nat} {J:Env→World→Prop} {Q:Post} (h:NoP Q):NoP (jmp l J Q):=h
theorem NoP.nojmp {Q:Post} (h:NoP Q):NoP (nojmp Q):=h
theorem NoP.done {P:Program} {fn:Func} {R:Ending→World→Prop}:NoP (Done P fn R):=fun _ _ _ h => h
def VH (P:Program) (n:Nat) (ops:Array Oper) (Q:Post) (I:World→Prop) (fuel:Nat) (listed:Array Bool) (ρ:Env) (w:World):Prop :=
 NoP Q→∀ a,Fr n ρ a→wpAnyH P .any ops (lift n Q) I fuel listed a w
section
variable {P:Program} {n:Nat} {Q:Post} {I:World→Prop} {fuel:Nat} {listed:Array Bool} {ρ:Env} {w:World} {l:List Oper}
theorem VC.held {id:Nat} (I:World→Prop) (hm:P.follows .mixedOrders=true) (hQ:NoP Q)
  (h:∀ w',Same w w'→VH P n l.toArray Q I l.length (Array.replicate l.length false) ρ w'):VC P n (.region id l.toArray true) Q ρ w:=fun a ha => by
 refine wp_region_held (S:=I) hm ?_
 have:=h w.drew ⟨rfl,rfl,rfl,rfl⟩ hQ a ha
 simpa using this
theorem Ht (i:Nat) {op:Op} {ty:TypeId} {pos:String} {after:Array Edge} {d:Nat} {v:Value} (hi:l[i]?=some ⟨some d,op,ty,pos,after,none⟩)
  (hs:Region.noSelect l.toArray=true) (hf:Region.free .any l.toArray listed i=true) (hr:(Region.ready .any l.toArray listed).contains i=true)
  (hd:Nat.blt d n=true) (hI:I w) (hy:∀ w,I w→Yld P (ev ρ) ⟨some d,op,ty,pos,after,none⟩ w v w)
  (h:VH P n l.toArray Q I fuel (listed.setIfInBounds i true) (upd ρ d v) w):VH P n l.toArray Q I (fuel+1) listed ρ w:=fun hQ a ha =>
 wpAnyH_take (oi:=⟨some d,op,ty,pos,after,none⟩) (v:=v) (by simpa using hi) hs hf hr (fun c a w ⟨ρ,_,hq⟩ => absurd hq (hQ c ρ w))
  (.inl ⟨by simp [Region.wanted],fun w hw => by rw [ha.eval];exact hy w hw⟩) hI (h hQ _ (ha.put hd v))
theorem VH.op (i:Nat) {op:Op} {ty:TypeId} {pos:String} {after:Array Edge} {d:Nat} {v:Value} {w':World} (hi:l[i]?=some ⟨some d,op,ty,pos,after,none⟩)
  (hr:Region.ready .any l.toArray listed=[i]) (hd:Nat.blt d n=true) (hy:Yld P (ev ρ) ⟨some d,op,ty,pos,after,none⟩ w v w') (hI:I w')
  (h:VH P n l.toArray Q I fuel (listed.setIfInBounds i true) (upd ρ d v) w'):VH P n l.toArray Q I (fuel+1) listed ρ w:=fun hQ a ha => by
 refine wpAnyH_all hr (by simp) fun j hj => ?_
 obtain rfl:j=i:=by simpa using hj
 unfold wpOp
 simp only [show l.toArray[j]?=some ⟨some d,op,ty,pos,after,none⟩ by simpa using hi]
 rw [if_pos (by simp [Region.wanted])]
 refine .inl ?_
 unfold Oper.wp
 rw [ha.eval,hy]
 exact ⟨hI,h hQ _ (ha.put hd v)⟩
theorem VH.st (i:Nat) {op:Op} {ty:TypeId} {pos:String} {after:Array Edge} {w':World} (hi:l[i]?=some ⟨none,op,ty,pos,after,none⟩)
  (hr:Region.ready .any l.toArray listed=[i]) (hy:Skp P (ev ρ) ⟨none,op,ty,pos,after,none⟩ w w') (hI:I w')
  (h:VH P n l.toArray Q I fuel (listed.setIfInBounds i true) ρ w'):VH P n l.toArray Q I (fuel+1) listed ρ w:=fun hQ a ha => by
 refine wpAnyH_all hr (by simp) fun j hj => ?_
 obtain rfl:j=i:=by simpa using hj
 unfold wpOp
 simp only [show l.toArray[j]?=some ⟨none,op,ty,pos,after,none⟩ by simpa using hi]
 rw [if_pos (by simp [Region.wanted])]
 refine .inl ?_
 unfold Oper.wp
 rw [ha.eval,hy]
 exact ⟨hI,h hQ _ ha⟩
theorem VH.call (i:Nat) {f:FuncId} {xs:Array Operand} {ts:Array TypeId} {ty:TypeId} {pos:String} {after:Array Edge} {d:Nat} {vs:List Value} {R:Ending→World→Prop}
  (hi:l[i]?=some ⟨some d,.call ⟨.value (.func f),xs,ts⟩,ty,pos,after,none⟩) (hr:Region.ready .any l.toArray listed=[i])
  (hd:Nat.blt d n=true) (he:Ent P f) (hc:Calls P f vs.toArray w R) (hx:xs.toList.map (ev ρ)=vs)
  (h:∀ e w',R e w'→∃ v,e=.returned v∧I w'∧VH P n l.toArray Q I fuel (listed.setIfInBounds i true) (upd ρ d v) w'):VH P n l.toArray Q I (fuel+1) listed ρ w:=fun hQ a ha => by
 refine wpAnyH_all hr (by simp) fun j hj => ?_
 obtain rfl:j=i:=by simpa using hj
 unfold wpOp
 simp only [show l.toArray[j]?=some ⟨some d,.call ⟨.value (.func f),xs,ts⟩,ty,pos,after,none⟩ by simpa using hi]
 rw [if_pos (by simp [Region.wanted])]
 refine .inl ?_
 have hr:(execOp (ev ρ) ⟨some d,.call ⟨.value (.func f),xs,ts⟩,ty,pos,after,none⟩).run P w=.ok (.enter f vs.toArray) w:=by
  have hx:xs.map (ev ρ)=vs.toArray:=by apply Array.ext';rw [Array.toList_map,hx]
  have:=he vs.toArray w
  simp only [execOp,resolve,Deferred.ofValue,ev,Sem.run_bind,Sem.run_pure,Result.andThen_ok,hx,Go.invoke,Array.append_empty]
  simpa using this
 unfold Oper.wp
 rw [ha.eval,hr]
 refine hc.mono fun e w' hR => ?_
 obtain ⟨v,rfl,hI,hv⟩:=h e w' hR
 exact ⟨hI,hv hQ _ (ha.put hd v)⟩
theorem VH.callP (i:Nat) {f:FuncId} {xs:Array Operand} {ts:Array TypeId} {ty:TypeId} {pos:String} {after:Array Edge} {d:Nat} {vs:List Value} {v:Value}
  (hi:l[i]?=some ⟨some d,.call ⟨.value (.func f),xs,ts⟩,ty,pos,after,none⟩) (hr:Region.ready .any l.toArray listed=[i])
  (hd:Nat.blt d n=true) (he:Ent P f) (hc:Calls P f vs.toArray w fun e w' => e=.returned v∧w'=w) (hx:xs.toList.map (ev ρ)=vs) (hI:I w)
  (h:VH P n l.toArray Q I fuel (listed.setIfInBounds i true) (upd ρ d v) w):VH P n l.toArray Q I (fuel+1) listed ρ w :=
 VH.call i hi hr hd he hc hx fun e w' hR => ⟨v,hR.1,hR.2 ▸ hI,hR.2 ▸ h⟩
theorem VH.nil (hr:Region.ready .any l.toArray listed=[]) (h:Q .normal ρ w):VH P n l.toArray Q I fuel listed ρ w:=fun _ a ha => wpAnyH_done hr ⟨ρ,ha,h⟩ fuel
end
theorem VH.put {P:Program} {n:Nat} {Q:Post} {fuel:Nat} {listed:Array Bool} {ρ:Env} {w w0:World} {S:List Nat} {lo:List Oper} {l:List Res} {ty t tt:TypeId} {pos:String} {after:Array Edge} {x y:Operand} {b off:Nat} {cs:List Value} {v old:Value}
  (i:Nat) (hio:lo[i]?=some ⟨none,.store t x y,ty,pos,after,none⟩) (hr:Region.ready .any lo.toArray listed=[i]) (H:St w0 S l w) (j:Nat) (F:ST1 P t) (hx:ev ρ x=.pointer (some ⟨b,off,none⟩)) (hi:l[j]?=some (blkR b cs tt)) (hy:ev ρ y=v) (hv:v.oneCell'=true) (hc:cs[off]?=some old)
  (h:∀ w',St w0 S (l.set j (blkR b (cs.set off v) tt)) w'→VH P n lo.toArray Q (Frm S w0) fuel (listed.setIfInBounds i true) ρ w'):VH P n lo.toArray Q (Frm S w0) (fuel+1) listed ρ w :=
 VH.st i hio hr (Sk.st F hx hy hv (H.cell j hi hc) (H.fz j hi)) (H.put j v hi).frm (h _ (H.put j v hi))
theorem VH.make {P:Program} {n:Nat} {Q:Post} {fuel:Nat} {listed:Array Bool} {ρ:Env} {w w0:World} {S:List Nat} {lo:List Oper} {l:List Res} {ty t:TypeId} {pos:String} {after:Array Edge} {x y:Operand} {d el by_:Nat} {zs:List Value} {kl kc:IntKind} {m c:Int}
  (i:Nat) (hio:lo[i]?=some ⟨some d,.makeSlice t x y,ty,pos,after,none⟩) (hrd:Region.ready .any lo.toArray listed=[i]) (H:St w0 S l w) (F:MK P t el by_ zs) (lN cN:Nat) (hx:ev ρ x=.int kl m) (hy:ev ρ y=.int kc c) (hm:m=(lN:Int)) (hc:c=(cN:Int)) (hlc:lN≤cN) (hb:by_ * cN≤281474976710656) (h63:cN≤9223372036854775807) (hd:Nat.blt d n=true)
  (h:∀ w' b,w.heap.size≤b→w0.heap.size≤b→St w0 S (blkR b (mkCells cN zs) el :: l) w'→VH P n lo.toArray Q (Frm S w0) fuel (listed.setIfInBounds i true) (upd ρ d (.slice (some ⟨b,0,none⟩) lN cN)) w') :
  VH P n lo.toArray Q (Frm S w0) (fuel+1) listed ρ w:=by
 subst hm hc
 obtain ⟨hu,i2,z,h1,h2,h3,h4,h5⟩:=F
 subst h5
 have hb':((i2.bytes * cN:Nat):Int)≤281474976710656:=by omega
 rw [Int.natCast_mul] at hb'
 have hr:=run_make (P:=P) w t el i2 z hu h1 h2 kl kc lN cN (by omega) (by omega) hb' (by omega)
 have e:madeCells z.cells ((cN:Int).toNat * i2.size)=(mkCells cN zs).toArray:=by
  have:=madeCells_list zs cN
  rw [← this,h4,← h3]
  rfl
 rw [e] at hr
 simp only [Int.toNat_natCast] at hr
 refine VH.op i hio hrd hd (v:=.slice (some ⟨w.heap.size,0,none⟩) lN cN) (w':=w.alloc (.cells (mkCells cN zs).toArray el)) ?_ (H.new _ el).frm (h _ _ (Nat.le_refl _) H.high (H.new _ el))
 unfold Yld
 simp only [execOp,hx,hy,Sem.run_bind,hr,Result.andThen_ok]
 rfl
theorem VH.putG {P:Program} {n:Nat} {Q:Post} {I:World→Prop} {fuel:Nat} {listed:Array Bool} {ρ:Env} {w w0:World} {S:List Nat} {lo:List Oper} {l:List Res} {ty t tt:TypeId} {pos:String} {after:Array Edge} {x y:Operand} {b off:Nat} {cs:List Value} {v old:Value}
  (i:Nat) (hio:lo[i]?=some ⟨none,.store t x y,ty,pos,after,none⟩) (hr:Region.ready .any lo.toArray listed=[i]) (H:St w0 S l w) (j:Nat) (F:ST1 P t) (hx:ev ρ x=.pointer (some ⟨b,off,none⟩)) (hi:l[j]?=some (blkR b cs tt)) (hy:ev ρ y=v) (hv:v.oneCell'=true) (hc:cs[off]?=some old)
  (h:∀ w',Frm [b] w w'→St w0 S (l.set j (blkR b (cs.set off v) tt)) w'→I w'∧VH P n lo.toArray Q I fuel (listed.setIfInBounds i true) ρ w'):VH P n lo.toArray Q I (fuel+1) listed ρ w :=
 have hh:=h _ (Frm.put w _ v (by simp)) (H.put j v hi)
 VH.st i hio hr (Sk.st F hx hy hv (H.cell j hi hc) (H.fz j hi)) hh.1 hh.2
theorem VH.putI {P:Program} {n:Nat} {Q:Post} {fuel:Nat} {listed:Array Bool} {ρ:Env} {w w0:World} {S:List Nat} {lo:List Oper} {l:List Res} {ty t tt:TypeId} {pos:String} {after:Array Edge} {x y:Operand} {b off:Nat} {cs:List Value} {k:IntKind} {m:Int} {old:Value}
  (i:Nat) (hio:lo[i]?=some ⟨none,.store t x y,ty,pos,after,none⟩) (hr:Region.ready .any lo.toArray listed=[i]) (H:St w0 S l w) (j:Nat) (F:ST1 P t) (hx:ev ρ x=.pointer (some ⟨b,off,none⟩)) (hi:l[j]?=some (blkR b cs tt)) (hy:ev ρ y=.int k m) (hc:cs[off]?=some old)
  (h:∀ w',St w0 S (l.set j (blkR b (cs.set off (.int k m)) tt)) w'→VH P n lo.toArray Q (Frm S w0) fuel (listed.setIfInBounds i true) ρ w'):VH P n lo.toArray Q (Frm S w0) (fuel+1) listed ρ w:=VH.put i hio hr H j F hx hi hy rfl hc h
abbrev Bits:=List Bool
def val:Bits→Nat
 | [] => 0
 | b :: r => b.toNat+2 * val r
theorem val_lt:∀ l:Bits,val l<2 ^ l.length
 | [] => by simp [val]
 | b :: r => by
  have:=val_lt r
  have hb:b.toNat≤1:=Bool.toNat_le b
  simp only [val,List.length_cons,Nat.pow_succ]
  omega
theorem val_append:∀ a b:Bits,val (a++b)=val a+2 ^ a.length * val b
 | [],b => by simp [val]
 | x :: a,b => by
  have h:=val_append a b
  simp only [List.cons_append,val,List.length_cons,Nat.pow_succ,h]
  rw [Nat.mul_comm (2 ^ a.length) 2,Nat.mul_assoc]
  omega
theorem val_take (l:Bits) (n:Nat):val (l.take n)=val l % 2 ^ n:=by
 induction l generalizing n with
 | nil => simp [val]
 | cons b r ih =>
  cases n with
  | zero => simp [val,Nat.mod_one]
  | succ n =>
   have hb:b.toNat≤1:=Bool.toNat_le b
   simp only [List.take_succ_cons,val,ih,Nat.pow_succ]
   rw [Nat.mul_comm (2 ^ n) 2,Nat.mod_mul,show (b.toNat+2 * val r) / 2=val r by omega]
   omega
theorem val_drop (l:Bits) (n:Nat):val (l.drop n)=val l / 2 ^ n:=by
 induction l generalizing n with
 | nil => simp [val]
 | cons b r ih =>
  cases n with
  | zero => simp [val]
  | succ n =>
   have hb:b.toNat≤1:=Bool.toNat_le b
   simp only [List.drop_succ_cons,val,ih,Nat.pow_succ]
   rw [Nat.mul_comm (2 ^ n) 2,← Nat.div_div_eq_div_mul]
   congr 1
   omega
def bitsN:Nat→Nat→Bits
 | _,0 => []
 | c,n+1 => (c % 2 == 1) :: bitsN (c / 2) n
theorem bnl:∀ (c n:Nat),(bitsN c n).length=n
 | _,0 => rfl
 | c,n+1 => by simp [bitsN,bnl]
theorem val_bitsN:∀ (c n:Nat),val (bitsN c n)=c % 2 ^ n
 | c,0 => by simp [bitsN,val,Nat.mod_one]
 | c,n+1 => by
  have h:=val_bitsN (c / 2) n
  simp only [bitsN,val,h,Nat.pow_succ]
  rw [Nat.mul_comm (2 ^ n) 2,Nat.mod_mul]
  have hb:(c % 2 == 1).toNat=c % 2:=by
   rcases Nat.mod_two_eq_zero_or_one c with h | h <;> simp [h]
  omega
theorem bitsN_val:∀ l:Bits,bitsN (val l) l.length=l
 | [] => rfl
 | b :: r => by
  have h:=bitsN_val r
  simp only [val,List.length_cons,bitsN]
  have h2:(b.toNat+2 * val r) / 2=val r:=by have:=Bool.toNat_le b;omega
  have h3:((b.toNat+2 * val r) % 2 == 1)=b:=by cases b <;> simp <;> omega
  rw [h2,h3,h]
def byteBits (c:Nat):Bits:=bitsN c 8
def bitsOf (s:List Nat):Bits:=s.flatMap byteBits
theorem bitsOf_cons (c:Nat) (s:List Nat):bitsOf (c :: s)=byteBits c++bitsOf s:=rfl
theorem bitsOf_append (s t:List Nat):bitsOf (s++t)=bitsOf s++bitsOf t:=by simp [bitsOf]
theorem byteBits_length (c:Nat):(byteBits c).length=8:=bnl c 8
theorem bitsOf_length:∀ s:List Nat,(bitsOf s).length=8 * s.length
 | [] => rfl
 | c :: s => by rw [bitsOf_cons,List.length_append,byteBits_length,bitsOf_length s,List.length_cons];omega
theorem bitsOf_drop (s:List Nat) (i:Nat) (h:i<s.length):bitsOf (s.drop i)=byteBits s[i]++bitsOf (s.drop (i+1)):=by
 rw [List.drop_eq_getElem_cons h,bitsOf_cons]
structure Reg (s:List Nat) (R:Bits) (i nb:Nat):Prop where
 i_le:i≤s.length
 nb_le:nb≤R.length
 rest:R.drop nb=bitsOf (s.drop i)
theorem Reg.length {s:List Nat} {R:Bits} {i nb:Nat} (h:Reg s R i nb):R.length=nb+8 * (s.length - i):=by
 have:=congrArg List.length h.rest
 rw [List.length_drop,bitsOf_length,List.length_drop] at this
 have:=h.nb_le
 omega
theorem Reg.more {s:List Nat} {R:Bits} {i nb:Nat} (h:Reg s R i nb) (hi:i<s.length):Reg s R (i+1) (nb+8):=by
 have hl:=h.length
 refine ⟨hi,by omega,?_⟩
 rw [← List.drop_drop,h.rest,bitsOf_drop s i hi]
 have:(byteBits s[i]).length=8:=byteBits_length _
 rw [← this,List.drop_left]
theorem Reg.val_more {s:List Nat} {R:Bits} {i nb:Nat} (h:Reg s R i nb) (hi:i<s.length) (hc:s[i]<256):val (R.take (nb+8))=val (R.take nb)+s[i] * 2 ^ nb:=by
 have h1:R.take (nb+8)=R.take nb++byteBits s[i]:=by
  have h8:(byteBits s[i]).length=8:=byteBits_length _
  rw [List.take_add,h.rest,bitsOf_drop s i hi]
  congr 1
 have hl:(R.take nb).length=nb:=by rw [List.length_take];have:=h.nb_le;omega
 rw [h1,val_append,hl,byteBits,val_bitsN]
 rw [Nat.mod_eq_of_lt (by omega),Nat.mul_comm]
theorem Reg.less {s:List Nat} {R:Bits} {i nb:Nat} (h:Reg s R i nb) {n:Nat} (hn:n≤nb):Reg s (R.drop n) i (nb - n):=by
 refine ⟨h.i_le,by rw [List.length_drop];have:=h.nb_le;omega,?_⟩
 rw [List.drop_drop,show n+(nb - n)=nb by omega,h.rest]
theorem Reg.val_less {R:Bits} {nb n:Nat} (hn:n≤nb) (hnb:nb≤R.length):val ((R.drop n).take (nb - n))=val (R.take nb) / 2 ^ n:=by
 rw [← val_drop,List.drop_take]
theorem take_val {R:Bits} {nb n:Nat} (hn:n≤nb):val (R.take n)=val (R.take nb) % 2 ^ n:=by
 rw [← val_take,List.take_take,Nat.min_eq_left hn]
theorem val_take_lt (R:Bits) (n:Nat):val (R.take n)<2 ^ n:=by
 rw [val_take];exact Nat.mod_lt _ (Nat.two_pow_pos n)
theorem or32 {a b n:Nat} (ha:a<2 ^ n) (hb:a+b * 2 ^ n<2 ^ 32):orI .u32 (a:Int) ((b * 2 ^ n:Nat):Int)=((a+b * 2 ^ n:Nat):Int):=by
 have hn:(a ||| b * 2 ^ n)=a+b * 2 ^ n:=by
  have:=Nat.shiftLeft_add_eq_or_of_lt ha b
  rw [Nat.shiftLeft_eq] at this
  rw [Nat.or_comm,← this,Nat.add_comm]
 have h1:a<2 ^ 32:=by omega
 have h2:b * 2 ^ n<2 ^ 32:=by omega
 show IntKind.u32.wrap _=_
 rw [wu32m]
 show ((BitVec.ofInt 32 (a:Int) ||| BitVec.ofInt 32 ((b * 2 ^ n:Nat):Int)).toNat:Int) % 4294967296=_
 rw [BitVec.toNat_or,BitVec.ofInt_natCast,BitVec.ofInt_natCast,BitVec.toNat_ofNat,BitVec.toNat_ofNat,Nat.mod_eq_of_lt h1,Nat.mod_eq_of_lt h2,hn]
 omega
theorem and32 {a n:Nat} (ha:a<2 ^ 32) (hn:n≤31):andI .u32 (a:Int) ((2 ^ n - 1:Nat):Int)=((a % 2 ^ n:Nat):Int):=by
 have hp:(2:Nat) ^ n<2 ^ 32:=Nat.pow_lt_pow_right (by omega) (by omega)
 have h2:2 ^ n - 1<2 ^ 32:=by omega
 show IntKind.u32.wrap _=_
 rw [wu32m]
 show ((BitVec.ofInt 32 (a:Int) &&& BitVec.ofInt 32 ((2 ^ n - 1:Nat):Int)).toNat:Int) % 4294967296=_
 rw [BitVec.toNat_and,BitVec.ofInt_natCast,BitVec.ofInt_natCast,BitVec.toNat_ofNat,BitVec.toNat_ofNat,Nat.mod_eq_of_lt ha,Nat.mod_eq_of_lt h2,Nat.and_two_pow_sub_one_eq_mod]
 have:a % 2 ^ n≤a:=Nat.mod_le _ _
 omega
theorem shl32 {a n:Nat} (hn:n≤31) (h:a * 2 ^ n<2 ^ 32):IntKind.u32.wrap ((a:Int) * 2 ^ min (n:Int).toNat IntKind.u32.bits)=((a * 2 ^ n:Nat):Int):=by
 have:min (n:Int).toNat IntKind.u32.bits=n:=by
  simp only [Int.toNat_natCast]
  exact Nat.min_eq_left (by show n≤32;omega)
 rw [this,wu32m]
 have:((a:Int) * 2 ^ n)=((a * 2 ^ n:Nat):Int):=by simp
 rw [this]
 omega
theorem shr32 {a n:Nat} (hn:n≤31):(a:Int).fdiv (2 ^ min (n:Int).toNat IntKind.u32.bits)=((a / 2 ^ n:Nat):Int):=by
 have:min (n:Int).toNat IntKind.u32.bits=n:=by
  simp only [Int.toNat_natCast]
  exact Nat.min_eq_left (by show n≤32;omega)
 rw [this,show ((2:Int) ^ n)=((2 ^ n:Nat):Int) by simp,Int.fdiv_eq_ediv_of_nonneg _ (Int.natCast_nonneg _)]
 exact (Int.natCast_ediv a (2 ^ n)).symm
end Go.Proofs.YtinkhckpckfajaaDoor
