/-
  A picture is written and read: part 1 of 13 (Ve, Ops, Mem, Ops2, Mem2, Ops3, Facts, Read, Draw, Bits).
-/
import Derived.WalkKit
import Derived.StillTailTactics
import Derived.Deep.QuietTactic
import Derived.BigQuiet
import Derived.OwnWalk
import Derived.Laws.MakeOwn
import Derived.Below
import Derived.KernelRfl
import Derived.Laws.Tables
import Derived.LaidEql
import Derived.WideLaws
import Derived.Test.YtmgemcffhbnpfaaGreatDoorProg
import Derived.OrdersHeld
set_option linter.unusedVariables false
set_option linter.unusedSimpArgs false
namespace Go.Proofs.YtmgemcffhbnpfaaGreatDoor
theorem O.{u} {α : Sort u} {a : α} : a = a:=rfl
theorem ω{p:Prop}(h:p:=by omega):p:=h
theorem κ{p:Prop}(h:p:=by kernel_rfl):p:=h
theorem η{p:Prop}(h:p:=by assumption):p:=h
theorem δ{p:Prop}(h:p:=by decide):p:=h
abbrev pT(b:Nat):Value:=.pointer (some ⟨b,0,none⟩)
abbrev aT(b:Nat):Option Addr:=some ⟨b,0,none⟩
abbrev iT(n:Nat):Value:=.int .i64 (n:Int)
open Go
abbrev dK:=Nat→Value
def eW (ρ:dK) (d:Nat) (v:Value):dK:=fun k => bif Nat.beq k d then v else ρ k
def MF:dK:=fun _ => undef
def ev (ρ:dK):Operand→Value
 | .tmp t => ρ t
 | .const v => v
 | .global g => .pointer (some ⟨g,0,none⟩)
 | .func f => .func (.func f) #[] #[]
structure Fr (n:Nat) (ρ:dK) (a:Act):Prop where
 size:a.tmps.size=n
 get:∀ k,a.tmps.getD k undef=ρ k
 defers:a.defers=[]
theorem Fr.eval {n:Nat} {ρ:dK} {a:Act} (h:Fr n ρ a):a.eval=ev ρ:=by
 funext x
 cases x with
 | tmp t => exact h.get t
 | const v => rfl
 | global g => rfl
 | func f => rfl
theorem Fr.put {n:Nat} {ρ:dK} {a:Act} (h:Fr n ρ a) {d:Nat} (hd:Nat.blt d n=true) (v:Value):Fr n (eW ρ d v) (a.put (some d) v):=by
 have hd':d<n:=by simpa [Nat.blt_eq] using hd
 refine ⟨by simp [Act.put,h.size],fun k => ?_,by simp [Act.put,h.defers]⟩
 show (a.tmps.setIfInBounds d v).getD k undef=bif Nat.beq k d then v else ρ k
 by_cases hk:k=d
 ·subst hk
  simp [Array.getD_eq_getD_getElem?,Array.getElem?_setIfInBounds,h.size,hd']
 ·have hb:Nat.beq k d=false:=by
   cases hb:Nat.beq k d with
   | true => exact absurd (Nat.eq_of_beq_eq_true hb) hk
   | false => rfl
  rw [hb,← h.get k]
  simp [Array.getD_eq_getD_getElem?,Array.getElem?_setIfInBounds,Ne.symm hk]
theorem Fr.yielded {n:Nat} {ρ:dK} {a:Act} (h:Fr n ρ a) (ops:Array Oper) {j dj:Nat} (hj:(ops[j]?).bind (·.dst)=some dj) (hd:Nat.blt dj n=true) {b:Bool} (hb:ρ dj=.bool b):Go.yielded ops a.tmps j=some b:=by
 have hd':dj<a.tmps.size:=by rw [h.size];simpa [Nat.blt_eq] using hd
 have hg:=h.get dj
 rw [hb] at hg
 have:a.tmps[dj]?=some (.bool b):=by
  rw [Array.getD_eq_getD_getElem?] at hg
  rw [Array.getElem?_eq_getElem hd'] at hg ⊢
  simpa using hg
 simp [Go.yielded,hj,this]
abbrev cY:=Exit→dK→World→Prop
def FN (n:Nat) (Q:cY):Exit→Act→World→Prop:=fun e a w => ∃ ρ,Fr n ρ a∧Q e ρ w
def VC (P:Program) (n:Nat) (c:Code) (Q:cY) (ρ:dK) (w:World):Prop:=∀ a,Fr n ρ a→c.wp P (FN n Q) a w
def VL (P:Program) (n:Nat) (ops:Array Oper) (Q:cY) (l:List Oper) (ρ:dK) (w:World):Prop:=∀ a,Fr n ρ a→wpList P ops (FN n Q) l a w
def Ey (K:dK→World→Prop) (Q:cY):cY
 | .normal,ρ,w => K ρ w
 | e,ρ,w => Q e ρ w
def blk (id:Nat) (Q:cY):cY
 | .exit id',ρ,w => if id'=id then Q .normal ρ w else Q (.exit id') ρ w
 | e,ρ,w => Q e ρ w
section
variable {P:Program} {n:Nat} {Q:cY} {ρ:dK} {w:World}
theorem VC.mono {c:Code} {Q':cY} (h:VC P n c Q ρ w) (hq:∀ e ρ w,Q e ρ w→Q' e ρ w):VC P n c Q' ρ w :=
 fun a ha => wp_mono (h a ha) fun e a w ⟨ρ,hf,hQ⟩ => ⟨ρ,hf,hq _ _ _ hQ⟩
theorem Cs {x y:Code} (h:VC P n x (Ey (VC P n y Q) Q) ρ w):VC P n (.seq x y) Q ρ w:=fun a ha =>
 wp_seq (wp_mono (h a ha) fun e a w ⟨ρ',hf,hQ⟩ => by
  cases e <;> first | exact hQ a hf | exact ⟨ρ',hf,hQ⟩)
theorem LX {x y:Code} (J:dK→World→Prop) (h:VC P n x (Ey J Q) ρ w) (k:∀ ρ' w',J ρ' w'→VC P n y Q ρ' w'):VC P n (.seq x y) Q ρ w :=
 Cs (h.mono fun e ρ w hQ => by cases e <;> first | exact k _ _ hQ | exact hQ)
theorem aH {c:Code} {K:dK→World→Prop} (J:dK→World→Prop) (h:VC P n c (Ey J Q) ρ w) (k:∀ ρ' w',J ρ' w'→K ρ' w'):VC P n c (Ey K Q) ρ w :=
 h.mono fun e ρ w hQ => by cases e <;> first | exact k _ _ hQ | exact hQ
theorem Ck (h:Q .normal ρ w):VC P n .skip Q ρ w:=fun a ha => wp_skip ⟨ρ,ha,h⟩
theorem Ct (h:Q .ret ρ w):VC P n .ret Q ρ w:=fun a ha => wp_ret ⟨ρ,ha,h⟩
theorem Cx {id:Nat} (h:Q (.exit id) ρ w):VC P n (.exit id) Q ρ w:=fun a ha => wp_exit ⟨ρ,ha,h⟩
theorem VC.goto {l:Nat} (h:Q (.goto l) ρ w):VC P n (.goto l) Q ρ w:=fun a ha => wp_goto ⟨ρ,ha,h⟩
theorem VC.label {l:Nat} (h:Q .normal ρ w):VC P n (.label l) Q ρ w:=fun a ha => wp_label ⟨ρ,ha,h⟩
theorem Cb {id:Nat} {c:Code} (h:VC P n c (blk id Q) ρ w):VC P n (.block id c) Q ρ w:=fun a ha =>
 wp_block (wp_mono (h a ha) fun e a w ⟨ρ',hf,hQ⟩ => by
  cases e with
  | exit id' =>
   simp only [Exit.inBlock]
   simp only [blk] at hQ
   by_cases hid:id'=id
   ·rw [if_pos hid] at hQ ⊢;exact ⟨ρ',hf,hQ⟩
   ·rw [if_neg hid] at hQ ⊢;exact ⟨ρ',hf,hQ⟩
  | _ => exact ⟨ρ',hf,hQ⟩)
theorem VC.cond {c:Operand} {x y:Code} {p:Prop} [Decidable p] (hc:ev ρ c=.bool (decide p)) (ht:p→VC P n x Q ρ w) (hf:¬ p→VC P n y Q ρ w):VC P n (.cond c x y) Q ρ w:=fun a ha => by
 have he:a.eval c=.bool (decide p):=by rw [ha.eval];exact hc
 by_cases hp:p
 ·exact wp_cond_true (by rw [he,decide_eq_true hp]) (ht hp a ha)
 ·exact wp_cond_false (by rw [he,decide_eq_false hp]) (hf hp a ha)
theorem CB {c:Operand} {x y:Code} {b:Bool} (hc:ev ρ c=.bool b) (ht:b=true→VC P n x Q ρ w) (hf:b=false→VC P n y Q ρ w):VC P n (.cond c x y) Q ρ w:=fun a ha => by
 have he:a.eval c=.bool b:=by rw [ha.eval];exact hc
 cases b
 ·exact wp_cond_false he (hf rfl a ha)
 ·exact wp_cond_true he (ht rfl a ha)
theorem Cp{c:Operand}{x y:Code}(hb:ev ρ c=.bool true)(h:VC P n x Q ρ w):VC P n (.cond c x y) Q ρ w:=CB hb (fun _ => h) (fun h => nomatch h)
theorem Cq{c:Operand}{x y:Code}(hb:ev ρ c=.bool false)(h:VC P n y Q ρ w):VC P n (.cond c x y) Q ρ w:=CB hb (fun h => nomatch h) (fun _ => h)
theorem CT {c:Operand} {x y:Code} {p:Prop} [Decidable p] (hc:ev ρ c=.bool (decide p)) (hp:p) (ht:VC P n x Q ρ w):VC P n (.cond c x y) Q ρ w:=VC.cond hc (fun _ => ht) fun h => absurd hp h
theorem CF {c:Operand} {x y:Code} {p:Prop} [Decidable p] (hc:ev ρ c=.bool (decide p)) (hp:¬ p) (hf:VC P n y Q ρ w):VC P n (.cond c x y) Q ρ w:=VC.cond hc (fun h => absurd h hp) fun _ => hf
theorem Cl {c:Code} (I:Nat→dK→World→Prop) (m:Nat) (h0:I m ρ w)
  (round:∀ m ρ w,I m ρ w→VC P n c (Ey (fun ρ' w' => ∃ m',m'<m∧I m' ρ' w') Q) ρ w):VC P n (.loop c) Q ρ w:=by
 intro a ha
 let J:Nat→Act→World→Prop:=fun m a w => ∃ ρ,Fr n ρ a∧I m ρ w
 have key:∀ m a w,J m a w→∀ (b:Frame) (k:List Item) (cs:List Frame),
   ∃ e a' w',FN n Q e a' w'∧Arrives P (lone (b.at a (.code c :: .inLoop c :: k)) cs w) b k cs e a' w':=by
  intro m
  induction m using Nat.strongRecOn with
  | _ m ih =>
   intro a w ⟨ρ,hf,hI⟩ b k cs
   obtain ⟨e,a₁,w₁,⟨ρ₁,hf₁,hq⟩,harr⟩:=round m ρ w hI a hf b (.inLoop c :: k) cs
   cases e with
   | normal =>
    obtain ⟨m',hlt,hI'⟩:=hq
    obtain ⟨e₂,a₂,w₂,hq₂,harr₂⟩:=ih m' hlt a₁ w₁ ⟨ρ₁,hf₁,hI'⟩ b k cs
    exact ⟨e₂,a₂,w₂,hq₂,.of_steps (Steps.trans harr (.one step_inLoop)) harr₂⟩
   | exit id => exact ⟨_,a₁,w₁,⟨ρ₁,hf₁,hq⟩,.pass (x:=.inLoop c) rfl (fun _ _ => .inl (by simp)) harr⟩
   | goto l => exact ⟨_,a₁,w₁,⟨ρ₁,hf₁,hq⟩,.pass (x:=.inLoop c) rfl (fun _ _ => .inl (by simp)) harr⟩
   | ret => exact ⟨_,a₁,w₁,⟨ρ₁,hf₁,hq⟩,.pass (x:=.inLoop c) rfl (fun _ _ => .inl (by simp)) harr⟩
   | panic ch => exact ⟨_,a₁,w₁,⟨ρ₁,hf₁,hq⟩,.pass (x:=.inLoop c) rfl (fun _ _ => .inl (by simp)) harr⟩
   | outgrown => exact ⟨_,a₁,w₁,⟨ρ₁,hf₁,hq⟩,.pass (x:=.inLoop c) rfl (fun _ _ => .inl (by simp)) harr⟩
 intro b k cs
 obtain ⟨e,a',w',hq,harr⟩:=key m a w ⟨ρ,ha,h0⟩ b k cs
 exact ⟨e,a',w',hq,.of_steps (.one step_loop) harr⟩
def K9 (l:Nat) (J:dK→World→Prop) (Q:cY):cY
 | .goto l',ρ,w => l'=l∧J ρ w
 | e,ρ,w => Q e ρ w
def DT (Q:cY):cY
 | .goto _,_,_ => False
 | e,ρ,w => Q e ρ w
theorem VC.scope {c rest:Code} {l:Nat} (J:dK→World→Prop) (hl:findLabel c l=some rest) (h:VC P n c (K9 l J Q) ρ w) (k:∀ ρ' w',J ρ' w'→VC P n rest (DT Q) ρ' w'):VC P n (.scope c) Q ρ w:=by
 intro a ha b kk cs
 obtain ⟨e,a₁,w₁,⟨ρ₁,hf₁,hq⟩,harr⟩:=h a ha b (.inScope c :: kk) cs
 cases e with
 | normal => exact ⟨.normal,a₁,w₁,⟨ρ₁,hf₁,hq⟩,.head step_scope (Steps.trans harr (.one step_inScope))⟩
 | exit id => exact ⟨.exit id,a₁,w₁,⟨ρ₁,hf₁,hq⟩,fun k' hk => .head step_scope (harr k' (by simp [exitTo,hk]))⟩
 | ret => exact ⟨_,a₁,w₁,⟨ρ₁,hf₁,hq⟩,.of_steps (.one step_scope) harr⟩
 | panic ch => exact ⟨_,a₁,w₁,⟨ρ₁,hf₁,hq⟩,.of_steps (.one step_scope) harr⟩
 | outgrown => exact ⟨_,a₁,w₁,⟨ρ₁,hf₁,hq⟩,.of_steps (.one step_scope) harr⟩
 | goto l' =>
  obtain ⟨rfl,hJ⟩:=hq
  have h1:Steps P (lone (b.at a (.code (.scope c) :: kk)) cs w) (lone (b.at a₁ (.code rest :: .inScope c :: kk)) cs w₁) :=
   .head step_scope (harr _ (by simp [gotoIn,hl]))
  obtain ⟨e,a₂,w₂,⟨ρ₂,hf₂,hq₂⟩,harr₂⟩:=k ρ₁ w₁ hJ a₁ hf₁ b (.inScope c :: kk) cs
  cases e with
  | normal => exact ⟨.normal,a₂,w₂,⟨ρ₂,hf₂,hq₂⟩,h1.trans (Steps.trans harr₂ (.one step_inScope))⟩
  | exit id => exact ⟨.exit id,a₂,w₂,⟨ρ₂,hf₂,hq₂⟩,fun k' hk => h1.trans (harr₂ k' (by simp [exitTo,hk]))⟩
  | ret => exact ⟨_,a₂,w₂,⟨ρ₂,hf₂,hq₂⟩,.of_steps h1 harr₂⟩
  | panic ch => exact ⟨_,a₂,w₂,⟨ρ₂,hf₂,hq₂⟩,.of_steps h1 harr₂⟩
  | outgrown => exact ⟨_,a₂,w₂,⟨ρ₂,hf₂,hq₂⟩,.of_steps h1 harr₂⟩
  | goto l => exact hq₂.elim
theorem Fz {c X:Code} {l:Nat} (J:dK→World→Prop) (hl:findLabel c l=some (.seq .skip X)) (k:∀ ρ' w',J ρ' w'→VC P n X (DT Q) ρ' w')
  (h:(∀ ρ' w',J ρ' w'→VC P n X (K9 l J Q) ρ' w')→VC P n c (K9 l J Q) ρ w):VC P n (.scope c) Q ρ w :=
 VC.scope J hl (h fun ρ' w' hJ => (k ρ' w' hJ).mono fun e ρ w hQ => by cases e <;> first | exact hQ | exact hQ.elim)
  fun ρ' w' hJ => Cs (Ck (k ρ' w' hJ))
theorem Le {l:Nat} {J:dK→World→Prop} (h:Q .ret ρ w):K9 l J Q .ret ρ w:=h
theorem LQ {l:Nat} {J:dK→World→Prop} (h:J ρ w):K9 l J Q (.goto l) ρ w:=⟨rfl,h⟩
theorem Jv (h:Q .ret ρ w):DT Q .ret ρ w:=h
theorem tn {K:dK→World→Prop} (h:K ρ w):Ey K Q .normal ρ w:=h
theorem aE {K:dK→World→Prop} (h:Q .ret ρ w):Ey K Q .ret ρ w:=h
theorem ax {K:dK→World→Prop} {id:Nat} (h:Q (.exit id) ρ w):Ey K Q (.exit id) ρ w:=h
theorem Ha {K:dK→World→Prop} {id:Nat} (h:Q (.goto id) ρ w):Ey K Q (.goto id) ρ w:=h
theorem aF {id:Nat} (h:Q .normal ρ w):blk id Q .normal ρ w:=h
theorem bL {id:Nat} (h:Q .ret ρ w):blk id Q .ret ρ w:=h
theorem br {id:Nat} (h:Q .normal ρ w):blk id Q (.exit id) ρ w:=by simp only [blk,if_true];exact h
theorem FR {id id':Nat} (hne:Nat.beq id' id=false) (h:Q (.exit id') ρ w):blk id Q (.exit id') ρ w:=by
 simp only [blk]
 rw [if_neg (fun e => by subst e;simp at hne)]
 exact h
theorem Cr {id:Nat} {l:List Oper} (h:VL P n l.toArray Q l ρ w):VC P n (.region id l.toArray false) Q ρ w:=fun a ha => wp_region_lit (h a ha)
theorem Ln {ops:Array Oper} (h:Q .normal ρ w):VL P n ops Q [] ρ w:=fun a ha => ⟨ρ,ha,h⟩
theorem Cy {id : Nat} {l : List Oper} {y : Code} (h : VL P n l.toArray (Ey (VC P n y Q) Q) l ρ w) : VC P n (.seq (.region id l.toArray false) y) Q ρ w:=Cs (Cr h)
theorem Lt {ops : Array Oper} {K : dK → World → Prop} (h : K ρ w) : VL P n ops (Ey K Q) [] ρ w:=Ln (tn h)
def dE (P:Program) (e:Operand→Value) (o:Oper) (w:World) (v:Value) (w':World):Prop:=(execOp e o).run P w=.ok (.value v) w'
def IW (P:Program) (e:Operand→Value) (o:Oper) (w:World) (w':World):Prop:=(execOp e o).run P w=.ok .skip w'
theorem Lo {ops:Array Oper} {rest:List Oper} {op:Op} {ty:TypeId} {pos:String} {after:Array Edge} {d:Nat} {v:Value} {w':World}
  (hd:Nat.blt d n=true) (hy:dE P (ev ρ) ⟨some d,op,ty,pos,after,none⟩ w v w') (h:VL P n ops Q rest (eW ρ d v) w') :
  VL P n ops Q (⟨some d,op,ty,pos,after,none⟩ :: rest) ρ w:=fun a ha => by
 unfold wpList
 rw [if_pos (by simp [Region.wanted])]
 refine .inl ?_
 unfold Oper.wp
 rw [ha.eval,hy]
 exact h _ (ha.put hd v)
theorem xZ {ops:Array Oper} {rest:List Oper} {op:Op} {ty:TypeId} {pos:String} {after:Array Edge} {w':World}
  (hy:IW P (ev ρ) ⟨none,op,ty,pos,after,none⟩ w w') (h:VL P n ops Q rest ρ w') :
  VL P n ops Q (⟨none,op,ty,pos,after,none⟩ :: rest) ρ w:=fun a ha => by
 unfold wpList
 rw [if_pos (by simp [Region.wanted])]
 refine .inl ?_
 unfold Oper.wp
 rw [ha.eval,hy]
 exact h _ ha
theorem LG {l:List Oper} {rest:List Oper} {op:Op} {ty:TypeId} {pos:String} {after:Array Edge} {d:Nat} {v:Value} {w':World} {j dj:Nat} {b:Bool}
  (hj:(l[j]?).bind (·.dst)=some dj) (hdj:Nat.blt dj n=true) (hb:ρ dj=.bool b)
  (hd:Nat.blt d n=true) (hy:dE P (ev ρ) ⟨some d,op,ty,pos,after,some (j,b)⟩ w v w') (h:VL P n l.toArray Q rest (eW ρ d v) w') :
  VL P n l.toArray Q (⟨some d,op,ty,pos,after,some (j,b)⟩ :: rest) ρ w:=fun a ha => by
 unfold wpList
 rw [if_pos (by simp [Region.wanted,ha.yielded l.toArray (j:=j) (by simpa using hj) hdj hb])]
 refine .inl ?_
 unfold Oper.wp
 rw [ha.eval,hy]
 exact h _ (ha.put hd v)
theorem GX {l:List Oper} {rest:List Oper} {op:Op} {ty:TypeId} {pos:String} {after:Array Edge} {d:Nat} {j dj:Nat} {b b':Bool}
  (hj:(l[j]?).bind (·.dst)=some dj) (hdj:Nat.blt dj n=true) (hb:ρ dj=.bool b) (hbb:b=!b')
  (hd:Nat.blt d n=true) (h:VL P n l.toArray Q rest (eW ρ d undef) w) :
  VL P n l.toArray Q (⟨some d,op,ty,pos,after,some (j,b')⟩ :: rest) ρ w:=fun a ha => by
 unfold wpList
 rw [if_neg (by simp [Region.wanted,ha.yielded l.toArray (j:=j) (by simpa using hj) hdj hb,hbb])]
 exact h _ (ha.put hd _)
theorem Lp{ops:Array Oper}{rest:List Oper}{op:Op}{ty:TypeId}{pos:String}{after:Array Edge}{d:Nat}{v:Value}{w':World}(hy:dE P (ev ρ) ⟨some d,op,ty,pos,after,none⟩ w v w')(h:VL P n ops Q rest (eW ρ d v) w')(hd:Nat.blt d n=true:=by exact rfl):VL P n ops Q (⟨some d,op,ty,pos,after,none⟩::rest) ρ w:=Lo hd hy h
theorem Lg{l rest:List Oper}{op:Op}{ty:TypeId}{pos:String}{after:Array Edge}{d:Nat}{v:Value}{w':World}{j dj:Nat}{b:Bool}(hy:dE P (ev ρ) ⟨some d,op,ty,pos,after,some (j,b)⟩ w v w')(h:VL P n l.toArray Q rest (eW ρ d v) w')(hj:(l[j]?).bind (·.dst)=some dj:=by exact rfl)(hdj:Nat.blt dj n=true:=by exact rfl)(hb:ρ dj=.bool b:=by exact rfl)(hd:Nat.blt d n=true:=by exact rfl):VL P n l.toArray Q (⟨some d,op,ty,pos,after,some (j,b)⟩::rest) ρ w:=LG hj hdj hb hd hy h
theorem Lk{l rest:List Oper}{op:Op}{ty:TypeId}{pos:String}{after:Array Edge}{d:Nat}{j dj:Nat}{b b':Bool}(h:VL P n l.toArray Q rest (eW ρ d undef) w)(hj:(l[j]?).bind (·.dst)=some dj:=by exact rfl)(hdj:Nat.blt dj n=true:=by exact rfl)(hb:ρ dj=.bool b:=by exact rfl)(hbb:b=!b':=by exact rfl)(hd:Nat.blt d n=true:=by exact rfl):VL P n l.toArray Q (⟨some d,op,ty,pos,after,some (j,b')⟩::rest) ρ w:=GX hj hdj hb hbb hd h
def fZ (P:Program) (f:FuncId):Prop:=∀ (args:Array Value) (w:World),(callFunc f args).run P w=.ok (.enter f args) w
theorem aS {ops:Array Oper} {rest:List Oper} {f:FuncId} {xs:Array Operand} {ts:Array TypeId} {ty:TypeId} {pos:String} {after:Array Edge} {d:Nat} {vs:List Value} {R:Ending→World→Prop}
  (hd:Nat.blt d n=true) (he:fZ P f) (hc:Calls P f vs.toArray w R) (hx:xs.toList.map (ev ρ)=vs)
  (h:∀ e w',R e w'→∃ v,e=.returned v∧VL P n ops Q rest (eW ρ d v) w') :
  VL P n ops Q (⟨some d,.call ⟨.value (.func f),xs,ts⟩,ty,pos,after,none⟩ :: rest) ρ w:=fun a ha => by
 unfold wpList
 rw [if_pos (by simp [Region.wanted])]
 refine .inl ?_
 have hr:(execOp (ev ρ) ⟨some d,.call ⟨.value (.func f),xs,ts⟩,ty,pos,after,none⟩).run P w=.ok (.enter f vs.toArray) w:=by
  have hx:xs.map (ev ρ)=vs.toArray:=by apply Array.ext';rw [Array.toList_map,hx]
  have:=he vs.toArray w
  simp only [execOp,resolve,Deferred.ofValue,ev,Sem.run_bind,Sem.run_pure,Result.andThen_ok,hx,Go.invoke,Array.append_empty]
  simpa using this
 unfold Oper.wp
 rw [ha.eval,hr]
 refine hc.mono fun e w' hR => ?_
 obtain ⟨v,rfl,hv⟩:=h e w' hR
 exact hv _ (ha.put hd v)
end
def VS (P:Program) (n:Nat) (ops:Array Oper) (w:World) (K:dK→Prop) (l:List Oper) (ρ:dK):Prop:=∀ a,Fr n ρ a→wpStill P ops w (fun a' => ∃ ρ',Fr n ρ' a'∧K ρ') l a
structure CI (w w':World):Prop where
 heap:w'.heap=w.heap
 os:w'.os=w.os
 tape:w'.tape=w.tape
 output:w'.output=w.output
theorem oH {P:Program} {ops:Array Oper} {w:World} {K K':Act→Prop} (h:∀ a,K a→K' a):∀ (l:List Oper) (a:Act),wpStill P ops w K l a→wpStill P ops w K' l a
 | [],a,hh => h a hh
 | o :: rest,a,hh => by
  unfold wpStill at hh ⊢
  split
  ·rename_i hw;rw [if_pos hw] at hh;exact Oper.still_mono (oH h rest) hh
  ·rename_i hw;rw [if_neg hw] at hh;exact oH h rest _ hh
section
variable {P:Program} {n:Nat} {Q:cY} {ρ:dK} {w:World}
theorem ar {id:Nat} {l:List Oper} (k:Nat) (hm:P.follows .mixedOrders=true) (hB:Region.lexTailB .any l.toArray k=true)
  (h:∀ w',CI w w'→VS P n l.toArray w' (fun ρ' => VL P n l.toArray Q (l.drop k) ρ' w') (l.take k) ρ):VC P n (.region id l.toArray true) Q ρ w:=fun a ha =>
 wp_region_still_tail k hm hB (oH (fun a' ⟨ρ',hf,hv⟩ => hv a' hf) _ _ (h w.drew ⟨rfl,rfl,rfl,rfl⟩ a ha))
theorem Cd {id:Nat} {l:List Oper} (hm:P.follows .mixedOrders=true) (hB:Region.lexB .any l.toArray=true)
  (h:∀ w',CI w w'→VS P n l.toArray w' (fun ρ' => Q .normal ρ' w') l ρ):VC P n (.region id l.toArray true) Q ρ w:=fun a ha =>
 wp_region_still_lit hm hB (h w.drew ⟨rfl,rfl,rfl,rfl⟩ a ha)
theorem Sn {ops:Array Oper} {K:dK→Prop} (h:K ρ):VS P n ops w K [] ρ:=fun a ha => ⟨ρ,ha,h⟩
theorem So {ops:Array Oper} {K:dK→Prop} {rest:List Oper} {op:Op} {ty:TypeId} {pos:String} {after:Array Edge} {d:Nat} {v:Value}
  (hd:Nat.blt d n=true) (hy:dE P (ev ρ) ⟨some d,op,ty,pos,after,none⟩ w v w) (h:VS P n ops w K rest (eW ρ d v)) :
  VS P n ops w K (⟨some d,op,ty,pos,after,none⟩ :: rest) ρ:=fun a ha => by
 unfold wpStill
 rw [if_pos (by simp [Region.wanted])]
 unfold Oper.still
 rw [ha.eval,hy]
 exact ⟨rfl,h _ (ha.put hd v)⟩
theorem Sp{ops:Array Oper}{K:dK → Prop}{rest:List Oper}{op:Op}{ty:TypeId}{pos:String}{after:Array Edge}{d:Nat}{v:Value}(hy:dE P (ev ρ) ⟨some d,op,ty,pos,after,none⟩ w v w)(h:VS P n ops w K rest (eW ρ d v))(hd:Nat.blt d n=true:=by exact rfl):VS P n ops w K (⟨some d,op,ty,pos,after,none⟩::rest) ρ:=So hd hy h
theorem cz {l:List Oper} {K:dK→Prop} {rest:List Oper} {op:Op} {ty:TypeId} {pos:String} {after:Array Edge} {d:Nat} {v:Value} {j dj:Nat} {b:Bool}
  (hj:(l[j]?).bind (·.dst)=some dj) (hdj:Nat.blt dj n=true) (hb:ρ dj=.bool b)
  (hd:Nat.blt d n=true) (hy:dE P (ev ρ) ⟨some d,op,ty,pos,after,some (j,b)⟩ w v w) (h:VS P n l.toArray w K rest (eW ρ d v)) :
  VS P n l.toArray w K (⟨some d,op,ty,pos,after,some (j,b)⟩ :: rest) ρ:=fun a ha => by
 unfold wpStill
 rw [if_pos (by simp [Region.wanted,ha.yielded l.toArray (j:=j) (by simpa using hj) hdj hb])]
 unfold Oper.still
 rw [ha.eval,hy]
 exact ⟨rfl,h _ (ha.put hd v)⟩
theorem aY {l:List Oper} {K:dK→Prop} {rest:List Oper} {op:Op} {ty:TypeId} {pos:String} {after:Array Edge} {d:Nat} {j dj:Nat} {b b':Bool}
  (hj:(l[j]?).bind (·.dst)=some dj) (hdj:Nat.blt dj n=true) (hb:ρ dj=.bool b) (hbb:b=!b')
  (hd:Nat.blt d n=true) (h:VS P n l.toArray w K rest (eW ρ d undef)) :
  VS P n l.toArray w K (⟨some d,op,ty,pos,after,some (j,b')⟩ :: rest) ρ:=fun a ha => by
 unfold wpStill
 rw [if_neg (by simp [Region.wanted,ha.yielded l.toArray (j:=j) (by simpa using hj) hdj hb,hbb])]
 exact h _ (ha.put hd _)
theorem bJ {ops:Array Oper} {K:dK→Prop} {rest:List Oper} {f:FuncId} {xs:Array Operand} {ts:Array TypeId} {ty:TypeId} {pos:String} {after:Array Edge} {d:Nat} {vs:List Value} {v:Value}
  (hd:Nat.blt d n=true) (he:fZ P f) (hc:Calls P f vs.toArray w fun e w' => e=.returned v∧w'=w) (hx:xs.toList.map (ev ρ)=vs)
  (h:VS P n ops w K rest (eW ρ d v)) :
  VS P n ops w K (⟨some d,.call ⟨.value (.func f),xs,ts⟩,ty,pos,after,none⟩ :: rest) ρ:=fun a ha => by
 unfold wpStill
 rw [if_pos (by simp [Region.wanted])]
 have hr:(execOp (ev ρ) ⟨some d,.call ⟨.value (.func f),xs,ts⟩,ty,pos,after,none⟩).run P w=.ok (.enter f vs.toArray) w:=by
  have hx:xs.map (ev ρ)=vs.toArray:=by apply Array.ext';rw [Array.toList_map,hx]
  have:=he vs.toArray w
  simp only [execOp,resolve,Deferred.ofValue,ev,Sem.run_bind,Sem.run_pure,Result.andThen_ok,hx,Go.invoke,Array.append_empty]
  simpa using this
 unfold Oper.still
 rw [ha.eval,hr]
 exact ⟨rfl,v,hc,h _ (ha.put hd v)⟩
def zt (vs:List Value):dK:=fun k => vs.getD k undef
def aO (P:Program) (fn:Func) (R:Ending→World→Prop):cY
 | .ret,ρ,w | .normal,ρ,w => ∃ v,(∀ tmps:Array Value,(∀ k,tmps.getD k undef=ρ k)→(results fn tmps).run P w=.ok v w)∧R (.returned v) w
 | _,_,_ => False
theorem enter {f:FuncId} {fn:Func} {c:Code} {vs:List Value} {R:Ending→World→Prop} {m:Nat} (hf:P.funcs[f]?=some fn) (hb:fn.body=some c) (hm:fn.ntmps=m) (hn:Nat.ble vs.length m=true)
  (h:VC P m c (aO P fn R) (zt vs) w):Calls P f vs.toArray w R:=by
 subst hm
 have hn:=Nat.le_of_ble_eq_true hn
 refine calls_of_wp hf hb ?_
 have ha:Fr fn.ntmps (zt vs) { tmps:=vs.toArray++Array.replicate (fn.ntmps - vs.toArray.size) undef,defers:=[] }:=by
  refine ⟨by simp;omega,fun k => ?_,rfl⟩
  simp only [zt,Array.getD_eq_getD_getElem?,Array.getElem?_append,List.size_toArray,List.getElem?_toArray,List.getD_eq_getElem?_getD]
  by_cases hk:k<vs.length
  ·simp [hk]
  ·rw [if_neg hk,Array.getElem?_replicate,List.getElem?_eq_none ω]
   split <;> rfl
 refine wp_mono (h _ ha) fun e a w ⟨ρ,hf,hQ⟩ => ?_
 cases e with
 | ret => obtain ⟨v,h1,h2⟩:=hQ;exact ⟨hf.defers,v,h1 _ hf.get,h2⟩
 | normal => obtain ⟨v,h1,h2⟩:=hQ;exact ⟨hf.defers,v,h1 _ hf.get,h2⟩
 | _ => exact hQ.elim
theorem lu {fn:Func} {R:Ending→World→Prop} (hr:fn.results=#[]) (h:R (.returned (.tuple #[])) w):aO P fn R .normal ρ w:=⟨_,fun tmps _ => results_none hr tmps P w,h⟩
theorem ak {fn:Func} {R:Ending→World→Prop} {t:Nat} {v:Value} (hr:fn.results=#[.tmp t]) (hv:ρ t=v) (h:R (.returned v) w):aO P fn R .ret ρ w :=
 ⟨v,fun tmps ht => by rw [results_tmp hr tmps P w,ht,hv],h⟩
theorem cr {fn:Func} {R:Ending→World→Prop} {t t':Nat} {v v':Value} (hr:fn.results=#[.tmp t,.tmp t']) (hv:ρ t=v) (hv':ρ t'=v') (h:R (.returned (.tuple #[v,v'])) w):aO P fn R .ret ρ w :=
 ⟨_,fun tmps ht => by rw [results_tmp2 hr tmps P w,ht,ht,hv,hv'],h⟩
theorem km {fn:Func} {R:Ending→World→Prop} {a b c:Nat} {v1 v2 v3:Value} (hr:fn.results=#[.tmp a,.tmp b,.tmp c]) (h1:ρ a=v1) (h2:ρ b=v2) (h3:ρ c=v3) (h:R (.returned (.tuple #[v1,v2,v3])) w):aO P fn R .ret ρ w :=
 ⟨_,fun tmps ht => by simp only [results,hr];simp [ht,h1,h2,h3],h⟩
theorem fJ {fn:Func} {R:Ending→World→Prop} {a b c d:Nat} {v1 v2 v3 v4:Value} (hr:fn.results=#[.tmp a,.tmp b,.tmp c,.tmp d]) (h1:ρ a=v1) (h2:ρ b=v2) (h3:ρ c=v3) (h4:ρ d=v4) (h:R (.returned (.tuple #[v1,v2,v3,v4])) w):aO P fn R .ret ρ w :=
 ⟨_,fun tmps ht => by simp only [results,hr];simp [ht,h1,h2,h3,h4],h⟩
theorem mL {fn:Func} {R:Ending→World→Prop} {a b c d e:Nat} {v1 v2 v3 v4 v5:Value} (hr:fn.results=#[.tmp a,.tmp b,.tmp c,.tmp d,.tmp e]) (h1:ρ a=v1) (h2:ρ b=v2) (h3:ρ c=v3) (h4:ρ d=v4) (h5:ρ e=v5) (h:R (.returned (.tuple #[v1,v2,v3,v4,v5])) w):aO P fn R .ret ρ w :=
 ⟨_,fun tmps ht => by simp only [results,hr];simp [ht,h1,h2,h3,h4,h5],h⟩
end
end Go.Proofs.YtmgemcffhbnpfaaGreatDoor
namespace Go.Proofs.YtmgemcffhbnpfaaGreatDoor
open Go
def qB:TypeDesc→Bool
 | .struct _ | .array _ _ => false
 | _ => true
def x6 (P:Program) (t:TypeId):Prop:=∀ (a:Addr) (w:World) (v:Value),w.cell? a=some v→(Instr.loadAt t (.pointer (some a))).run P w=.ok v w
def C5 (P:Program) (t:TypeId) (k:Nat):Prop:=∀ (b off:Nat) (w:World) (cs:List Value),cs.length=k→(∀ j,j<k→w.cell? ⟨b,off+j,none⟩=cs[j]?)→(Instr.loadAt t (.pointer (some ⟨b,off,none⟩))).run P w=.ok (.agg cs.toArray) w
def vK (P:Program) (t:TypeId):Prop:=∀ (a:Addr) (w:World) (v old:Value),w.cell? a=some old→w.frozen? a=false→v.oneCell'=true→(Instr.storeAt t (.pointer (some a)) v).run P w=.ok () (w.setCell a v)
def FA (P:Program) (s f k:Nat):Prop:=∀ (b off:Nat) (w:World),(Instr.fieldAt s (.pointer (some ⟨b,off,none⟩)) f).run P w=.ok (.pointer (some ⟨b,off+k,none⟩)) w
def MH (P:Program) (t k:Nat):Prop:=∀ w:World,(sizeOf t).run P w=.ok k w
section
variable {P:Program}
theorem ky (b off k:Nat):(⟨b,off,none⟩:Addr).add k=⟨b,off+k,none⟩:=by
 unfold Addr.add
 split
 ·rename_i h;subst h;rfl
 ·rfl
theorem FF {t k:Nat} (h:(P.info? t).map (·.size)=some k):MH P t k:=fun w => by
 obtain ⟨i,hi,rfl⟩:=Option.map_eq_some_iff.1 h
 simp [sizeOf,typeInfo,hi]
theorem Aw {t:TypeId} {d:TypeDesc} (hu:P.underlying t=some d) (hd:qB d=true):x6 P t:=fun a w v hv => by
 have h1:(isAgg t).run P w=.ok false w:=by
  simp only [isAgg,Sem.run_bind,run_underlying hu,Result.andThen_ok]
  cases d <;> simp_all [qB]
 simp only [Instr.loadAt,Instr.sureAddr,loadVar,Sem.run_bind,Sem.run_pure,Result.andThen_ok,h1]
 simp [hv]
theorem Ic {t k:Nat} {d:TypeDesc} (hu:P.underlying t=some d) (hd:qB d=false) (hs:(P.info? t).map (·.size)=some k):C5 P t k:=fun b off w cs hl hc => by
 have h1:(isAgg t).run P w=.ok true w:=by
  simp only [isAgg,Sem.run_bind,run_underlying hu,Result.andThen_ok]
  cases d <;> simp_all [qB]
 simp only [Instr.loadAt,Instr.sureAddr,loadVar,Sem.run_bind,Sem.run_pure,Result.andThen_ok,h1,if_true,FF hs w]
 subst hl
 rw [run_loadCells_list w ⟨b,off,none⟩ cs fun j v hj => by
  have hlt:j<cs.length:=(List.getElem?_eq_some_iff.1 hj).1
  rw [ky,hc j hlt,hj]]
 rfl
theorem yj {v:Value} (h:v.oneCell'=true):v.cells=#[v]:=by cases v <;> first | rfl | cases h
theorem dV {t:TypeId} (hs:(P.info? t).map (·.size)=some 1):vK P t:=fun a w v old hc hf hv => by
 have:=run_store P w a v .plain hv
 simp only [Instr.storeAt,Instr.sureAddr,storeVar,Sem.run_bind,Sem.run_pure,Result.andThen_ok,FF hs w,yj hv]
 simp only [List.size_toArray,List.length_cons,List.length_nil,ne_eq,not_true,if_false,Sem.run_bind,Sem.run_pure,Result.andThen_ok,storeCells,ky]
 have ha:a.add 0=a:=rfl
 rw [ha,this]
 simp [stored,hc,hf]
variable {e:Operand→Value} {d:Option Tmp} {ty:TypeId} {pos:String} {after:Array Edge} {g:Option (Nat × Bool)} {w:World}
theorem vo {x:Operand} {v:Value} (h:e x=v):dE P e ⟨d,.move x,ty,pos,after,g⟩ w v w:=by subst h;rfl
theorem rD {x:Operand} {v:Value} (h:e x=v):dE P e ⟨d,.assign x,ty,pos,after,g⟩ w v w:=by subst h;rfl
theorem YI {x:Operand} {k:IntKind} {i:Int} (h:e x=.int k i):dE P e ⟨d,.move x,ty,pos,after,g⟩ w (.int k i) w:=vo h
theorem YP {x:Operand} {a:Option Addr} (h:e x=.pointer a):dE P e ⟨d,.move x,ty,pos,after,g⟩ w (.pointer a) w:=vo h
theorem eA {x:Operand} {b:Bool} (h:e x=.bool b):dE P e ⟨d,.move x,ty,pos,after,g⟩ w (.bool b) w:=vo h
theorem YS {x:Operand} {a:Option Addr} {m c:Nat} (h:e x=.slice a m c):dE P e ⟨d,.move x,ty,pos,after,g⟩ w (.slice a m c) w:=vo h
theorem uq {x:Operand} {cs:Array Value} (h:e x=.tuple cs):dE P e ⟨d,.move x,ty,pos,after,g⟩ w (.tuple cs) w:=vo h
theorem AI {x:Operand} {k:IntKind} {i:Int} (h:e x=.int k i):dE P e ⟨d,.assign x,ty,pos,after,g⟩ w (.int k i) w:=rD h
theorem nd {x:Operand} {a:Option Addr} (h:e x=.pointer a):dE P e ⟨d,.assign x,ty,pos,after,g⟩ w (.pointer a) w:=rD h
theorem Ai {x:Operand} {b:Bool} (h:e x=.bool b):dE P e ⟨d,.assign x,ty,pos,after,g⟩ w (.bool b) w:=rD h
theorem AS {x:Operand} {a:Option Addr} {m c:Nat} (h:e x=.slice a m c):dE P e ⟨d,.assign x,ty,pos,after,g⟩ w (.slice a m c) w:=rD h
theorem ai{P:Program}{n:Nat}{Q:cY}{ρ:dK}{w:World}{ops:Array Oper}{rest:List Oper}{ty:TypeId}{pos:String}{after:Array Edge}{x:Operand}{d:Nat}{k:IntKind}{i:Int}(hx:ev ρ x=.int k i)(h:VL P n ops Q rest (eW ρ d (.int k i)) w)(hd:Nat.blt d n=true:=by exact rfl):VL P n ops Q (⟨some d,.move x,ty,pos,after,none⟩::rest) ρ w:=Lp (YI hx) h hd
theorem bW{P:Program}{n:Nat}{K:dK → Prop}{ρ:dK}{w:World}{ops:Array Oper}{rest:List Oper}{ty:TypeId}{pos:String}{after:Array Edge}{x:Operand}{d:Nat}{k:IntKind}{i:Int}(hx:ev ρ x=.int k i)(h:VS P n ops w K rest (eW ρ d (.int k i)))(hd:Nat.blt d n=true:=by exact rfl):VS P n ops w K (⟨some d,.move x,ty,pos,after,none⟩::rest) ρ:=Sp (YI hx) h hd
theorem az{P:Program}{n:Nat}{Q:cY}{ρ:dK}{w:World}{ops:Array Oper}{rest:List Oper}{ty:TypeId}{pos:String}{after:Array Edge}{x:Operand}{d:Nat}{k:IntKind}{i:Int}(hx:ev ρ x=.int k i)(h:VL P n ops Q rest (eW ρ d (.int k i)) w)(hd:Nat.blt d n=true:=by exact rfl):VL P n ops Q (⟨some d,.assign x,ty,pos,after,none⟩::rest) ρ w:=Lp (AI hx) h hd
theorem oZ{P:Program}{n:Nat}{K:dK → Prop}{ρ:dK}{w:World}{ops:Array Oper}{rest:List Oper}{ty:TypeId}{pos:String}{after:Array Edge}{x:Operand}{d:Nat}{k:IntKind}{i:Int}(hx:ev ρ x=.int k i)(h:VS P n ops w K rest (eW ρ d (.int k i)))(hd:Nat.blt d n=true:=by exact rfl):VS P n ops w K (⟨some d,.assign x,ty,pos,after,none⟩::rest) ρ:=Sp (AI hx) h hd
theorem bU{P:Program}{n:Nat}{Q:cY}{ρ:dK}{w:World}{ops:Array Oper}{rest:List Oper}{ty:TypeId}{pos:String}{after:Array Edge}{x:Operand}{d:Nat}{a:Option Addr}{m c:Nat}(hx:ev ρ x=.slice a m c)(h:VL P n ops Q rest (eW ρ d (.slice a m c)) w)(hd:Nat.blt d n=true:=by exact rfl):VL P n ops Q (⟨some d,.move x,ty,pos,after,none⟩::rest) ρ w:=Lp (YS hx) h hd
theorem cF{P:Program}{n:Nat}{K:dK → Prop}{ρ:dK}{w:World}{ops:Array Oper}{rest:List Oper}{ty:TypeId}{pos:String}{after:Array Edge}{x:Operand}{d:Nat}{a:Option Addr}{m c:Nat}(hx:ev ρ x=.slice a m c)(h:VS P n ops w K rest (eW ρ d (.slice a m c)))(hd:Nat.blt d n=true:=by exact rfl):VS P n ops w K (⟨some d,.move x,ty,pos,after,none⟩::rest) ρ:=Sp (YS hx) h hd
theorem gS{P:Program}{n:Nat}{Q:cY}{ρ:dK}{w:World}{ops:Array Oper}{rest:List Oper}{ty:TypeId}{pos:String}{after:Array Edge}{x:Operand}{d:Nat}{a:Option Addr}{m c:Nat}(hx:ev ρ x=.slice a m c)(h:VL P n ops Q rest (eW ρ d (.slice a m c)) w)(hd:Nat.blt d n=true:=by exact rfl):VL P n ops Q (⟨some d,.assign x,ty,pos,after,none⟩::rest) ρ w:=Lp (AS hx) h hd
theorem MI{P:Program}{n:Nat}{K:dK → Prop}{ρ:dK}{w:World}{ops:Array Oper}{rest:List Oper}{ty:TypeId}{pos:String}{after:Array Edge}{x:Operand}{d:Nat}{a:Option Addr}{m c:Nat}(hx:ev ρ x=.slice a m c)(h:VS P n ops w K rest (eW ρ d (.slice a m c)))(hd:Nat.blt d n=true:=by exact rfl):VS P n ops w K (⟨some d,.assign x,ty,pos,after,none⟩::rest) ρ:=Sp (AS hx) h hd
theorem bH{P:Program}{n:Nat}{Q:cY}{ρ:dK}{w:World}{ops:Array Oper}{rest:List Oper}{ty:TypeId}{pos:String}{after:Array Edge}{x:Operand}{d:Nat}{a:Option Addr}(hx:ev ρ x=.pointer a)(h:VL P n ops Q rest (eW ρ d (.pointer a)) w)(hd:Nat.blt d n=true:=by exact rfl):VL P n ops Q (⟨some d,.move x,ty,pos,after,none⟩::rest) ρ w:=Lp (YP hx) h hd
theorem mY{P:Program}{n:Nat}{K:dK → Prop}{ρ:dK}{w:World}{ops:Array Oper}{rest:List Oper}{ty:TypeId}{pos:String}{after:Array Edge}{x:Operand}{d:Nat}{a:Option Addr}(hx:ev ρ x=.pointer a)(h:VS P n ops w K rest (eW ρ d (.pointer a)))(hd:Nat.blt d n=true:=by exact rfl):VS P n ops w K (⟨some d,.move x,ty,pos,after,none⟩::rest) ρ:=Sp (YP hx) h hd
theorem bI{P:Program}{n:Nat}{Q:cY}{ρ:dK}{w:World}{ops:Array Oper}{rest:List Oper}{ty:TypeId}{pos:String}{after:Array Edge}{x:Operand}{d:Nat}{v:Value}(hx:ev ρ x=v)(h:VL P n ops Q rest (eW ρ d (v)) w)(hd:Nat.blt d n=true:=by exact rfl):VL P n ops Q (⟨some d,.assign x,ty,pos,after,none⟩::rest) ρ w:=Lp (rD hx) h hd
theorem Mb{P:Program}{n:Nat}{K:dK → Prop}{ρ:dK}{w:World}{ops:Array Oper}{rest:List Oper}{ty:TypeId}{pos:String}{after:Array Edge}{x:Operand}{d:Nat}{v:Value}(hx:ev ρ x=v)(h:VS P n ops w K rest (eW ρ d (v)))(hd:Nat.blt d n=true:=by exact rfl):VS P n ops w K (⟨some d,.assign x,ty,pos,after,none⟩::rest) ρ:=Sp (rD hx) h hd
theorem db{P:Program}{n:Nat}{Q:cY}{ρ:dK}{w:World}{ops:Array Oper}{rest:List Oper}{ty:TypeId}{pos:String}{after:Array Edge}{x:Operand}{d:Nat}{v:Value}(hx:ev ρ x=v)(h:VL P n ops Q rest (eW ρ d (v)) w)(hd:Nat.blt d n=true:=by exact rfl):VL P n ops Q (⟨some d,.move x,ty,pos,after,none⟩::rest) ρ w:=Lp (vo hx) h hd
theorem Mw{P:Program}{n:Nat}{K:dK → Prop}{ρ:dK}{w:World}{ops:Array Oper}{rest:List Oper}{ty:TypeId}{pos:String}{after:Array Edge}{x:Operand}{d:Nat}{v:Value}(hx:ev ρ x=v)(h:VS P n ops w K rest (eW ρ d (v)))(hd:Nat.blt d n=true:=by exact rfl):VS P n ops w K (⟨some d,.move x,ty,pos,after,none⟩::rest) ρ:=Sp (vo hx) h hd
theorem cU{P:Program}{n:Nat}{Q:cY}{ρ:dK}{w:World}{ops:Array Oper}{rest:List Oper}{ty:TypeId}{pos:String}{after:Array Edge}{x:Operand}{d:Nat}{b:Bool}(hx:ev ρ x=.bool b)(h:VL P n ops Q rest (eW ρ d (.bool b)) w)(hd:Nat.blt d n=true:=by exact rfl):VL P n ops Q (⟨some d,.assign x,ty,pos,after,none⟩::rest) ρ w:=Lp (Ai hx) h hd
theorem ME{P:Program}{n:Nat}{K:dK → Prop}{ρ:dK}{w:World}{ops:Array Oper}{rest:List Oper}{ty:TypeId}{pos:String}{after:Array Edge}{x:Operand}{d:Nat}{b:Bool}(hx:ev ρ x=.bool b)(h:VS P n ops w K rest (eW ρ d (.bool b)))(hd:Nat.blt d n=true:=by exact rfl):VS P n ops w K (⟨some d,.assign x,ty,pos,after,none⟩::rest) ρ:=Sp (Ai hx) h hd
theorem dh{P:Program}{n:Nat}{Q:cY}{ρ:dK}{w:World}{ops:Array Oper}{rest:List Oper}{ty:TypeId}{pos:String}{after:Array Edge}{x:Operand}{d:Nat}{b:Bool}(hx:ev ρ x=.bool b)(h:VL P n ops Q rest (eW ρ d (.bool b)) w)(hd:Nat.blt d n=true:=by exact rfl):VL P n ops Q (⟨some d,.move x,ty,pos,after,none⟩::rest) ρ w:=Lp (eA hx) h hd
theorem yu{P:Program}{n:Nat}{K:dK → Prop}{ρ:dK}{w:World}{ops:Array Oper}{rest:List Oper}{ty:TypeId}{pos:String}{after:Array Edge}{x:Operand}{d:Nat}{b:Bool}(hx:ev ρ x=.bool b)(h:VS P n ops w K rest (eW ρ d (.bool b)))(hd:Nat.blt d n=true:=by exact rfl):VS P n ops w K (⟨some d,.move x,ty,pos,after,none⟩::rest) ρ:=Sp (eA hx) h hd
theorem gr{P:Program}{n:Nat}{Q:cY}{ρ:dK}{w:World}{ops:Array Oper}{rest:List Oper}{ty:TypeId}{pos:String}{after:Array Edge}{x:Operand}{d:Nat}{v:Array Value}(hx:ev ρ x=.tuple v)(h:VL P n ops Q rest (eW ρ d (.tuple v)) w)(hd:Nat.blt d n=true:=by exact rfl):VL P n ops Q (⟨some d,.move x,ty,pos,after,none⟩::rest) ρ w:=Lp (uq hx) h hd
theorem dQ {c x y:Operand} {b:Bool} {v:Value} (hc:e c=.bool b) (h:(bif b then e x else e y)=v):dE P e ⟨d,.pick c x y,ty,pos,after,g⟩ w v w:=by
 subst h
 unfold dE
 simp only [execOp,hc,asBool,Sem.run_bind,Sem.run_pure,Result.andThen_ok]
 cases b <;> rfl
theorem ay {nn dd:Nat}{Q:cY}{ρ:dK}{ops:Array Oper}{rest:List Oper} {c x y:Operand} {b:Bool} {v:Value} (hc:ev ρ c=.bool b) (h:(bif b then ev ρ x else ev ρ y)=v)(h':VL P nn ops Q rest (eW ρ dd v) w)(hd:Nat.blt dd nn=true:=by exact rfl):VL P nn ops Q (⟨some dd,.pick c x y,ty,pos,after,none⟩::rest) ρ w:=Lp (dQ hc h) h' hd
theorem iL {x:Operand} {a:Addr} (h:e x=.pointer (some a)):dE P e ⟨d,.nilCheck x,ty,pos,after,g⟩ w (.pointer (some a)) w:=by
 unfold dE;simp only [execOp,h];rfl
theorem aK {nn dd:Nat}{Q:cY}{ρ:dK}{ops:Array Oper}{rest:List Oper} {x:Operand} {a:Addr} (h:ev ρ x=.pointer (some a))(h':VL P nn ops Q rest (eW ρ dd (.pointer (some a))) w)(hd:Nat.blt dd nn=true:=by exact rfl):VL P nn ops Q (⟨some dd,.nilCheck x,ty,pos,after,none⟩::rest) ρ w:=Lp (iL h) h' hd
theorem du {nn dd:Nat}{K:dK → Prop}{ρ:dK}{ops:Array Oper}{rest:List Oper} {x:Operand} {a:Addr} (h:ev ρ x=.pointer (some a))(h':VS P nn ops w K rest (eW ρ dd (.pointer (some a))))(hd:Nat.blt dd nn=true:=by exact rfl):VS P nn ops w K (⟨some dd,.nilCheck x,ty,pos,after,none⟩::rest) ρ:=Sp (iL h) h' hd
theorem iQ {s f k:Nat} {x:Operand} {b off:Nat} (F:FA P s f k) (h:e x=.pointer (some ⟨b,off,none⟩)):dE P e ⟨d,.fieldAddr s x f,ty,pos,after,g⟩ w (.pointer (some ⟨b,off+k,none⟩)) w:=by
 unfold dE;simp only [execOp,h,Sem.run_bind,F b off w,Result.andThen_ok];rfl
theorem aU {nn dd:Nat}{Q:cY}{ρ:dK}{ops:Array Oper}{rest:List Oper} {s f k:Nat} {x:Operand} {b off:Nat} (F:FA P s f k) (h:ev ρ x=.pointer (some ⟨b,off,none⟩))(h':VL P nn ops Q rest (eW ρ dd (.pointer (some ⟨b,off+k,none⟩))) w)(hd:Nat.blt dd nn=true:=by exact rfl):VL P nn ops Q (⟨some dd,.fieldAddr s x f,ty,pos,after,none⟩::rest) ρ w:=Lp (iQ F h) h' hd
theorem dD {nn dd:Nat}{K:dK → Prop}{ρ:dK}{ops:Array Oper}{rest:List Oper} {s f k:Nat} {x:Operand} {b off:Nat} (F:FA P s f k) (h:ev ρ x=.pointer (some ⟨b,off,none⟩))(h':VS P nn ops w K rest (eW ρ dd (.pointer (some ⟨b,off+k,none⟩))))(hd:Nat.blt dd nn=true:=by exact rfl):VS P nn ops w K (⟨some dd,.fieldAddr s x f,ty,pos,after,none⟩::rest) ρ:=Sp (iQ F h) h' hd
theorem ef {t:TypeId} {x:Operand} {a:Addr} {v:Value} (F:x6 P t) (h:e x=.pointer (some a)) (hc:w.cell? a=some v):dE P e ⟨d,.load t x,ty,pos,after,g⟩ w v w:=by
 unfold dE;simp only [execOp,h,Sem.run_bind,F a w v hc,Result.andThen_ok];rfl
theorem aC {nn dd:Nat}{Q:cY}{ρ:dK}{ops:Array Oper}{rest:List Oper} {t:TypeId} {x:Operand} {a:Addr} {v:Value} (F:x6 P t) (h:ev ρ x=.pointer (some a)) (hc:w.cell? a=some v)(h':VL P nn ops Q rest (eW ρ dd v) w)(hd:Nat.blt dd nn=true:=by exact rfl):VL P nn ops Q (⟨some dd,.load t x,ty,pos,after,none⟩::rest) ρ w:=Lp (ef F h hc) h' hd
theorem aD {nn dd:Nat}{K:dK → Prop}{ρ:dK}{ops:Array Oper}{rest:List Oper} {t:TypeId} {x:Operand} {a:Addr} {v:Value} (F:x6 P t) (h:ev ρ x=.pointer (some a)) (hc:w.cell? a=some v)(h':VS P nn ops w K rest (eW ρ dd v))(hd:Nat.blt dd nn=true:=by exact rfl):VS P nn ops w K (⟨some dd,.load t x,ty,pos,after,none⟩::rest) ρ:=Sp (ef F h hc) h' hd
theorem fH {t k:Nat} {x:Operand} {b off:Nat} {cs:List Value} (F:C5 P t k) (h:e x=.pointer (some ⟨b,off,none⟩)) (hl:cs.length=k) (hc:∀ j,j<k→w.cell? ⟨b,off+j,none⟩=cs[j]?) :
  dE P e ⟨d,.load t x,ty,pos,after,g⟩ w (.agg cs.toArray) w:=by
 unfold dE;simp only [execOp,h,Sem.run_bind,F b off w cs hl hc,Result.andThen_ok];rfl
theorem td {t:TypeId} {x y:Operand} {a:Addr} {v old:Value} (F:vK P t) (h:e x=.pointer (some a)) (hy:e y=v) (hv:v.oneCell'=true) (hc:w.cell? a=some old) (hf:w.frozen? a=false) :
  IW P e ⟨d,.store t x y,ty,pos,after,g⟩ w (w.setCell a v):=by
 unfold IW;simp only [execOp,h,hy,Sem.run_bind,F a w v old hc hf hv,Result.andThen_ok];rfl
theorem dR {op:BinOp} {t:TypeId} {x y:Operand} {k k':IntKind} {m n:Int}:(eqGuard op t x y (.int k m) (.int k' n)).run P w=.ok () w:=by
 unfold eqGuard
 cases op <;> rfl
section
variable {t t':TypeId} {x y:Operand} {k:IntKind} {m n:Int}
theorem F4 (hx:e x=.int k m) (hy:e y=.int k n):dE P e ⟨d,.binOp .add t x y t',ty,pos,after,g⟩ w (.int k (k.wrap (m+n))) w:=by
 unfold dE;simp only [execOp,hx,hy,Sem.run_bind,dR,Result.andThen_ok,binOp,ne_eq,not_true,if_false];rfl
theorem KQ (hx:e x=.int k m) (hy:e y=.int k n):dE P e ⟨d,.binOp .sub t x y t',ty,pos,after,g⟩ w (.int k (k.wrap (m - n))) w:=by
 unfold dE;simp only [execOp,hx,hy,Sem.run_bind,dR,Result.andThen_ok,binOp,ne_eq,not_true,if_false];rfl
theorem zK (hx:e x=.int k m) (hy:e y=.int k n):dE P e ⟨d,.binOp .mul t x y t',ty,pos,after,g⟩ w (.int k (k.wrap (m * n))) w:=by
 unfold dE;simp only [execOp,hx,hy,Sem.run_bind,dR,Result.andThen_ok,binOp,ne_eq,not_true,if_false];rfl
theorem KB (hx:e x=.int k m) (hy:e y=.int k n) (h0:n≠0):dE P e ⟨d,.binOp .quo t x y t',ty,pos,after,g⟩ w (.int k (k.wrap (m.tdiv n))) w:=by
 unfold dE;simp only [execOp,hx,hy,Sem.run_bind,dR,Result.andThen_ok,binOp,ne_eq,not_true,if_false,Op.intDiv,if_neg h0];rfl
theorem LM (hx:e x=.int k m) (hy:e y=.int k n) (h0:n≠0):dE P e ⟨d,.binOp .rem t x y t',ty,pos,after,g⟩ w (.int k (m.tmod n)) w:=by
 unfold dE;simp only [execOp,hx,hy,Sem.run_bind,dR,Result.andThen_ok,binOp,ne_eq,not_true,if_false,Op.intDiv,if_neg h0];rfl
theorem AZ (hx:e x=.int k m) (hy:e y=.int k n):dE P e ⟨d,.binOp .lss t x y t',ty,pos,after,g⟩ w (.bool (decide (m<n))) w:=by
 unfold dE;simp only [execOp,hx,hy,Sem.run_bind,dR,Result.andThen_ok,binOp,ne_eq,not_true,if_false];rfl
theorem bP {nn dd:Nat}{Q:cY}{ρ:dK}{ops:Array Oper}{rest:List Oper} (hx:ev ρ x=.int k m) (hy:ev ρ y=.int k n)(h':VL P nn ops Q rest (eW ρ dd (.bool (decide (m<n)))) w)(hd:Nat.blt dd nn=true:=by exact rfl):VL P nn ops Q (⟨some dd,.binOp .lss t x y t',ty,pos,after,none⟩::rest) ρ w:=Lp (AZ hx hy) h' hd
theorem sd (hx:e x=.int k m) (hy:e y=.int k n):dE P e ⟨d,.binOp .leq t x y t',ty,pos,after,g⟩ w (.bool (decide (m≤n))) w:=by
 unfold dE;simp only [execOp,hx,hy,Sem.run_bind,dR,Result.andThen_ok,binOp,ne_eq,not_true,if_false];rfl
theorem e9 (hx:e x=.int k m) (hy:e y=.int k n):dE P e ⟨d,.binOp .gtr t x y t',ty,pos,after,g⟩ w (.bool (decide (m > n))) w:=by
 unfold dE;simp only [execOp,hx,hy,Sem.run_bind,dR,Result.andThen_ok,binOp,ne_eq,not_true,if_false];rfl
theorem ou (hx:e x=.int k m) (hy:e y=.int k n):dE P e ⟨d,.binOp .geq t x y t',ty,pos,after,g⟩ w (.bool (decide (m ≥ n))) w:=by
 unfold dE;simp only [execOp,hx,hy,Sem.run_bind,dR,Result.andThen_ok,binOp,ne_eq,not_true,if_false];rfl
theorem qi (hx:e x=.int k m) (hy:e y=.int k n):dE P e ⟨d,.binOp .eql t x y t',ty,pos,after,g⟩ w (.bool (decide (m=n))) w:=by
 unfold dE;simp only [execOp,hx,hy,Sem.run_bind,dR,Result.andThen_ok,binOp,ne_eq,not_true,if_false]
 show Result.ok (Next.value (.bool (m == n))) w=_
 rw [show (m == n)=decide (m=n) from by by_cases h:m=n <;> simp [h]]
theorem bF {nn dd:Nat}{Q:cY}{ρ:dK}{ops:Array Oper}{rest:List Oper} (hx:ev ρ x=.int k m) (hy:ev ρ y=.int k n)(h':VL P nn ops Q rest (eW ρ dd (.bool (decide (m=n)))) w)(hd:Nat.blt dd nn=true:=by exact rfl):VL P nn ops Q (⟨some dd,.binOp .eql t x y t',ty,pos,after,none⟩::rest) ρ w:=Lp (qi hx hy) h' hd
theorem mh (hx:e x=.int k m) (hy:e y=.int k n):dE P e ⟨d,.binOp .neq t x y t',ty,pos,after,g⟩ w (.bool (decide (m≠n))) w:=by
 unfold dE;simp only [execOp,hx,hy,Sem.run_bind,dR,Result.andThen_ok,binOp,ne_eq,not_true,if_false]
 show Result.ok (Next.value (.bool (m != n))) w=_
 rw [show (m != n)=decide (m≠n) from by by_cases h:m=n <;> simp [h]]
theorem KF {k':IntKind} (hx:e x=.int k m) (hy:e y=.int k' n) (h0:0≤n):dE P e ⟨d,.binOp .shl t x y t',ty,pos,after,g⟩ w (.int k (k.wrap (m * 2 ^ min n.toNat k.bits))) w:=by
 unfold dE;simp only [execOp,hx,hy,Sem.run_bind,dR,Result.andThen_ok,binOp,Op.shift,if_neg (show ¬ n<0 by omega)];rfl
theorem Aj {k':IntKind} (hx:e x=.int k m) (hy:e y=.int k' n) (h0:0≤n):dE P e ⟨d,.binOp .shr t x y t',ty,pos,after,g⟩ w (.int k (m.fdiv (2 ^ min n.toNat k.bits))) w:=by
 unfold dE;simp only [execOp,hx,hy,Sem.run_bind,dR,Result.andThen_ok,binOp,Op.shift,if_neg (show ¬ n<0 by omega)];rfl
def H9 (k:IntKind) (m n:Int):Int:=k.wrap (BitVec.ofInt k.bits m ||| BitVec.ofInt k.bits n).toNat
def sL (k:IntKind) (m n:Int):Int:=k.wrap (BitVec.ofInt k.bits m &&& BitVec.ofInt k.bits n).toNat
def KV (k:IntKind) (m n:Int):Int:=k.wrap (BitVec.ofInt k.bits m ^^^ BitVec.ofInt k.bits n).toNat
theorem Lv (hx:e x=.int k m) (hy:e y=.int k n):dE P e ⟨d,.binOp .or t x y t',ty,pos,after,g⟩ w (.int k (H9 k m n)) w:=by
 unfold dE;simp only [execOp,hx,hy,Sem.run_bind,dR,Result.andThen_ok,binOp,ne_eq,not_true,if_false];rfl
theorem KW (hx:e x=.int k m) (hy:e y=.int k n):dE P e ⟨d,.binOp .and t x y t',ty,pos,after,g⟩ w (.int k (sL k m n)) w:=by
 unfold dE;simp only [execOp,hx,hy,Sem.run_bind,dR,Result.andThen_ok,binOp,ne_eq,not_true,if_false];rfl
theorem Kg (hx:e x=.int k m) (hy:e y=.int k n):dE P e ⟨d,.binOp .xor t x y t',ty,pos,after,g⟩ w (.int k (KV k m n)) w:=by
 unfold dE;simp only [execOp,hx,hy,Sem.run_bind,dR,Result.andThen_ok,binOp,ne_eq,not_true,if_false];rfl
end
end
section
variable {P:Program} {e:Operand→Value} {d:Option Tmp} {ty:TypeId} {pos:String} {after:Array Edge} {g:Option (Nat × Bool)} {w:World}
variable {t t':TypeId} {x y:Operand} {k:IntKind} {m n r:Int}
theorem fg {x:Int} (h:-9223372036854775808≤x∧x≤9223372036854775807):IntKind.i64.wrap x=x:=IntWalk.i64_in x h
theorem jm {x:Int} (h:-2147483648≤x∧x≤2147483647):IntKind.i32.wrap x=x:=IntWalk.i32_in x h
theorem ew {x:Int} (h:0≤x∧x≤4294967295):IntKind.u32.wrap x=x:=IntWalk.u32_in x h
theorem yl {x:Int} (h:0≤x∧x≤255):IntKind.u8.wrap x=x:=IntWalk.u8_in x h
theorem MJ {x:Int} (h:-128≤x∧x≤127):IntKind.i8.wrap x=x:=IntWalk.i8_in x h
theorem Kc (x:Int):IntKind.u8.wrap x=x % 256:=IntKind.wrap_u8 x
theorem vd (x:Int):IntKind.u32.wrap x=x % 4294967296:=IntKind.wrap_u32 x
theorem oC (hx:e x=.int k m) (hy:e y=.int k n) (hr:k.wrap (m+n)=r):dE P e ⟨d,.binOp .add t x y t',ty,pos,after,g⟩ w (.int k r) w:=hr ▸ F4 hx hy
theorem ao {nn dd:Nat}{Q:cY}{ρ:dK}{ops:Array Oper}{rest:List Oper} (hx:ev ρ x=.int k m) (hy:ev ρ y=.int k n) (hr:k.wrap (m+n)=r)(h':VL P nn ops Q rest (eW ρ dd (.int k r)) w)(hd:Nat.blt dd nn=true:=by exact rfl):VL P nn ops Q (⟨some dd,.binOp .add t x y t',ty,pos,after,none⟩::rest) ρ w:=Lp (oC hx hy hr) h' hd
theorem aG {nn dd:Nat}{K:dK → Prop}{ρ:dK}{ops:Array Oper}{rest:List Oper} (hx:ev ρ x=.int k m) (hy:ev ρ y=.int k n) (hr:k.wrap (m+n)=r)(h':VS P nn ops w K rest (eW ρ dd (.int k r)))(hd:Nat.blt dd nn=true:=by exact rfl):VS P nn ops w K (⟨some dd,.binOp .add t x y t',ty,pos,after,none⟩::rest) ρ:=Sp (oC hx hy hr) h' hd
theorem mX (hx:e x=.int k m) (hy:e y=.int k n) (hr:k.wrap (m - n)=r):dE P e ⟨d,.binOp .sub t x y t',ty,pos,after,g⟩ w (.int k r) w:=hr ▸ KQ hx hy
theorem bw {nn dd:Nat}{Q:cY}{ρ:dK}{ops:Array Oper}{rest:List Oper} (hx:ev ρ x=.int k m) (hy:ev ρ y=.int k n) (hr:k.wrap (m - n)=r)(h':VL P nn ops Q rest (eW ρ dd (.int k r)) w)(hd:Nat.blt dd nn=true:=by exact rfl):VL P nn ops Q (⟨some dd,.binOp .sub t x y t',ty,pos,after,none⟩::rest) ρ w:=Lp (mX hx hy hr) h' hd
theorem cx {nn dd:Nat}{K:dK → Prop}{ρ:dK}{ops:Array Oper}{rest:List Oper} (hx:ev ρ x=.int k m) (hy:ev ρ y=.int k n) (hr:k.wrap (m - n)=r)(h':VS P nn ops w K rest (eW ρ dd (.int k r)))(hd:Nat.blt dd nn=true:=by exact rfl):VS P nn ops w K (⟨some dd,.binOp .sub t x y t',ty,pos,after,none⟩::rest) ρ:=Sp (mX hx hy hr) h' hd
theorem cX (hx:e x=.int k m) (hy:e y=.int k n) (hr:k.wrap (m * n)=r):dE P e ⟨d,.binOp .mul t x y t',ty,pos,after,g⟩ w (.int k r) w:=hr ▸ zK hx hy
theorem ki (hx:e x=.int k m) (hy:e y=.int k n) (h0:n≠0) (hr:k.wrap (m.tdiv n)=r):dE P e ⟨d,.binOp .quo t x y t',ty,pos,after,g⟩ w (.int k r) w:=hr ▸ KB hx hy h0
theorem gI (hx:e x=.int k m) (hy:e y=.int k n) (h0:n≠0) (hr:m.tmod n=r):dE P e ⟨d,.binOp .rem t x y t',ty,pos,after,g⟩ w (.int k r) w:=hr ▸ LM hx hy h0
theorem ed {k':IntKind} (hx:e x=.int k m) (hy:e y=.int k' n) (h0:0≤n) (hr:k.wrap (m * 2 ^ min n.toNat k.bits)=r):dE P e ⟨d,.binOp .shl t x y t',ty,pos,after,g⟩ w (.int k r) w:=hr ▸ KF hx hy h0
theorem d6 {k':IntKind} (hx:e x=.int k m) (hy:e y=.int k' n) (h0:0≤n) (hr:m.fdiv (2 ^ min n.toNat k.bits)=r):dE P e ⟨d,.binOp .shr t x y t',ty,pos,after,g⟩ w (.int k r) w:=hr ▸ Aj hx hy h0
theorem sH (hx:e x=.int k m) (hy:e y=.int k n) (hr:H9 k m n=r):dE P e ⟨d,.binOp .or t x y t',ty,pos,after,g⟩ w (.int k r) w:=hr ▸ Lv hx hy
theorem gZ (hx:e x=.int k m) (hy:e y=.int k n) (hr:sL k m n=r):dE P e ⟨d,.binOp .and t x y t',ty,pos,after,g⟩ w (.int k r) w:=hr ▸ KW hx hy
theorem JC (hx:e x=.int k m) (hy:e y=.int k n) (hr:KV k m n=r):dE P e ⟨d,.binOp .xor t x y t',ty,pos,after,g⟩ w (.int k r) w:=hr ▸ Kg hx hy
theorem dy {b:Bool} (hx:e x=.int k m) (hy:e y=.int k n) (h:decide (m<n)=b):dE P e ⟨d,.binOp .lss t x y t',ty,pos,after,g⟩ w (.bool b) w:=h ▸ AZ hx hy
theorem uz {b:Bool} (hx:e x=.int k m) (hy:e y=.int k n) (h:decide (m≤n)=b):dE P e ⟨d,.binOp .leq t x y t',ty,pos,after,g⟩ w (.bool b) w:=h ▸ sd hx hy
theorem bE {b:Bool} (hx:e x=.int k m) (hy:e y=.int k n) (h:decide (m > n)=b):dE P e ⟨d,.binOp .gtr t x y t',ty,pos,after,g⟩ w (.bool b) w:=h ▸ e9 hx hy
theorem jC {b:Bool} (hx:e x=.int k m) (hy:e y=.int k n) (h:decide (m ≥ n)=b):dE P e ⟨d,.binOp .geq t x y t',ty,pos,after,g⟩ w (.bool b) w:=h ▸ ou hx hy
theorem bR {b:Bool} (hx:e x=.int k m) (hy:e y=.int k n) (h:decide (m=n)=b):dE P e ⟨d,.binOp .eql t x y t',ty,pos,after,g⟩ w (.bool b) w:=h ▸ qi hx hy
theorem uC {b:Bool} (hx:e x=.int k m) (hy:e y=.int k n) (h:decide (m≠n)=b):dE P e ⟨d,.binOp .neq t x y t',ty,pos,after,g⟩ w (.bool b) w:=h ▸ mh hx hy
def Av (P:Program) (src dst:TypeId) (k:IntKind):Prop:=(P.underlying src).isSome=true∧P.underlying dst=some (.int k)
theorem rp {src dst:TypeId} {k':IntKind} (F:Av P src dst k') (hx:e x=.int k m) (hr:k'.wrap m=r):dE P e ⟨d,.convert src dst x,ty,pos,after,g⟩ w (.int k' r) w:=by
 subst hr
 obtain ⟨hs,hd⟩:=F
 obtain ⟨ds,hds⟩:=Option.isSome_iff_exists.mp hs
 unfold dE;simp only [execOp,hx,Sem.run_bind,convert,run_underlying hds,run_underlying hd,Result.andThen_ok,Conv.intToInt];rfl
theorem cm {nn dd:Nat}{Q:cY}{ρ:dK}{ops:Array Oper}{rest:List Oper} {src dst:TypeId} {k':IntKind} (F:Av P src dst k') (hx:ev ρ x=.int k m) (hr:k'.wrap m=r)(h':VL P nn ops Q rest (eW ρ dd (.int k' r)) w)(hd:Nat.blt dd nn=true:=by exact rfl):VL P nn ops Q (⟨some dd,.convert src dst x,ty,pos,after,none⟩::rest) ρ w:=Lp (rp F hx hr) h' hd
theorem Lh (hx:e x=.int k m) (hr:k.wrap (0 - m)=r):dE P e ⟨d,.unOp .neg t x,ty,pos,after,g⟩ w (.int k r) w:=by
 subst hr
 unfold dE;simp only [execOp,hx,Sem.run_bind];rfl
theorem fT {b:Bool} (hx:e x=.bool b):dE P e ⟨d,.unOp .not t x,ty,pos,after,g⟩ w (.bool (!b)) w:=by
 unfold dE;simp only [execOp,hx,Sem.run_bind];rfl
def SL (P:Program) (t el size:Nat):Prop:=P.underlying t=some (.slice el)∧(P.info? el).map (·.size)=some size
def AR (P:Program) (t len el size:Nat):Prop:=P.underlying t=some (.array len el)∧(P.info? el).map (·.size)=some size
theorem dx {el size:Nat} {a:Option Addr} {c l:Nat} (F:SL P t el size) (hx:e x=.slice a l c):dE P e ⟨d,.call ⟨.builtin .len,#[x],#[t]⟩,ty,pos,after,g⟩ w (.int .i64 l) w:=by
 unfold dE
 have h:P.underlying t=some (.slice (P.elem t)):=by rw [F.1];simp [Program.elem,F.1]
 simp only [execOp,resolve,Sem.run_bind,Sem.run_pure,Result.andThen_ok,Go.invoke,BigFrame.builtin_len,List.map_toArray,List.map_cons,List.map_nil,hx,run_len_slice w t ty a l c h]
 rfl
theorem bG {nn dd:Nat}{Q:cY}{ρ:dK}{ops:Array Oper}{rest:List Oper} {el size:Nat} {a:Option Addr} {c l:Nat} (F:SL P t el size) (hx:ev ρ x=.slice a l c)(h':VL P nn ops Q rest (eW ρ dd (.int .i64 l)) w)(hd:Nat.blt dd nn=true:=by exact rfl):VL P nn ops Q (⟨some dd,.call ⟨.builtin .len,#[x],#[t]⟩,ty,pos,after,none⟩::rest) ρ w:=Lp (dx F hx) h' hd
theorem Lu {el size:Nat} {a:Option Addr} {c l:Nat} (F:SL P t el size) (hx:e x=.slice a l c):dE P e ⟨d,.call ⟨.builtin .cap,#[x],#[t]⟩,ty,pos,after,g⟩ w (.int .i64 c) w:=by
 unfold dE
 have h:P.underlying t=some (.slice (P.elem t)):=by rw [F.1];simp [Program.elem,F.1]
 simp only [execOp,resolve,Sem.run_bind,Sem.run_pure,Result.andThen_ok,Go.invoke,BigFrame.builtin_cap,List.map_toArray,List.map_cons,List.map_nil,hx,run_cap_slice w t ty a l c h]
 rfl
theorem gm {el size:Nat} {b off l c:Nat} (j:Nat) (F:SL P t el size) (hx:e x=.slice (some ⟨b,off,none⟩) l c) (hy:e y=.int k m) (hj:m=(j:Int)) (hl:j<l) :
  dE P e ⟨d,.indexAddr t x y,ty,pos,after,g⟩ w (.pointer (some ⟨b,off+j * size,none⟩)) w:=by
 subst hj
 unfold dE
 have h:P.underlying t=some (.slice (P.elem t)):=by rw [F.1];simp [Program.elem,F.1]
 have he:P.elem t=el:=by simp [Program.elem,F.1]
 simp only [execOp,hx,hy,Sem.run_bind,run_indexAt_slice w t _ l c k _ h,if_pos (show 0≤(j:Int)∧(j:Int)<(l:Int) by omega),he,FF F.2 w,Result.andThen_ok,Int.toNat_natCast,ky]
 rfl
theorem nC {el size len:Nat} {b off:Nat} (j:Nat) (F:AR P t len el size) (hx:e x=.pointer (some ⟨b,off,none⟩)) (hy:e y=.int k m) (hj:m=(j:Int)) (hl:j<len) :
  dE P e ⟨d,.indexAddr t x y,ty,pos,after,g⟩ w (.pointer (some ⟨b,off+j * size,none⟩)) w:=by
 subst hj
 unfold dE
 have h:P.underlying t=some (.array (P.arrayLen t) (P.elem t)):=by rw [F.1];simp [Program.elem,Program.arrayLen,F.1]
 have he:P.elem t=el:=by simp [Program.elem,F.1]
 have hn:P.arrayLen t=len:=by simp [Program.arrayLen,F.1]
 simp only [execOp,hx,hy,Sem.run_bind,run_indexAt_array w t _ k _ h,hn,if_pos (show 0≤(j:Int)∧(j:Int)<(len:Int) by omega),he,FF F.2 w,Result.andThen_ok,Int.toNat_natCast,ky]
 rfl
theorem ci {el:Nat} {b off l c:Nat} (j:Nat) (F:SL P t el 1) (hx:e x=.slice (some ⟨b,off,none⟩) l c) (hy:e y=.int k m) (hj:m=(j:Int)) (hl:j<l) :
  dE P e ⟨d,.indexAddr t x y,ty,pos,after,g⟩ w (.pointer (some ⟨b,off+j,none⟩)) w:=by
 have:=gm (ty:=ty) (pos:=pos) (after:=after) (g:=g) (d:=d) (w:=w) j F hx hy hj hl
 rwa [Nat.mul_one] at this
theorem fo {el len:Nat} {b off:Nat} (j:Nat) (F:AR P t len el 1) (hx:e x=.pointer (some ⟨b,off,none⟩)) (hy:e y=.int k m) (hj:m=(j:Int)) (hl:j<len) :
  dE P e ⟨d,.indexAddr t x y,ty,pos,after,g⟩ w (.pointer (some ⟨b,off+j,none⟩)) w:=by
 have:=nC (ty:=ty) (pos:=pos) (after:=after) (g:=g) (d:=d) (w:=w) j F hx hy hj hl
 rwa [Nat.mul_one] at this
theorem ll {el size:Nat} {hi:Operand} {b off l c:Nat} (j:Nat) (F:SL P t el size) (hx:e x=.slice (some ⟨b,off,none⟩) l c) (hy:e hi=.int k m) (hj:m=(j:Int)) (hl:j≤c) :
  dE P e ⟨d,.slice t x none (some hi) none,ty,pos,after,g⟩ w (.slice (some ⟨b,off,none⟩) j c) w:=by
 subst hj
 unfold dE
 simp only [execOp,hx,Option.map_none,Option.map_some,hy,Sem.run_bind,Instr.sliceAt,Instr.slice,run_underlying F.1,Result.andThen_ok,Instr.sliceBounds,Instr.sliceBound,asIntOf,Sem.run_pure,if_pos (show 0≤(j:Int)∧(j:Int)≤(c:Int) by omega),Int.toNat_natCast,FF F.2 w]
 by_cases hc:c=0
 ·subst hc
  simp
 ·rw [if_neg hc]
  simp [Addr.add]
theorem qF {vs:Array Value} {i:Nat} {v:Value} (hx:e x=.tuple vs) (hv:vs[i]?=some v):dE P e ⟨d,.extract x i,ty,pos,after,g⟩ w v w:=by
 unfold dE;simp only [execOp,hx,Sem.run_bind,Instr.extract,hv];rfl
theorem av {nn dd:Nat}{Q:cY}{ρ:dK}{ops:Array Oper}{rest:List Oper} {vs:Array Value} {i:Nat} {v:Value} (hx:ev ρ x=.tuple vs) (hv:vs[i]?=some v)(h':VL P nn ops Q rest (eW ρ dd v) w)(hd:Nat.blt dd nn=true:=by exact rfl):VL P nn ops Q (⟨some dd,.extract x i,ty,pos,after,none⟩::rest) ρ w:=Lp (qF hx hv) h' hd
end
def ff (w:World) (b:Nat) (cs:List Value) (t:TypeId):Prop:=w.heap[b]?=some (.cells cs.toArray t (0,0))
theorem ff.cell {w:World} {b:Nat} {cs:List Value} {t:TypeId} (h:ff w b cs t) (i:Nat):w.cell? ⟨b,i,none⟩=cs[i]?:=by
 unfold ff at h
 simp [World.cell?,h]
theorem ff.cellv {w:World} {b:Nat} {cs:List Value} {t:TypeId} (h:ff w b cs t) {i:Nat} {v:Value} (hv:cs[i]?=some v):w.cell? ⟨b,i,none⟩=some v:=(h.cell i).trans hv
theorem ff.fz {w:World} {b:Nat} {cs:List Value} {t:TypeId} (h:ff w b cs t) (i:Nat):w.frozen? ⟨b,i,none⟩=false:=by
 unfold ff at h
 simp [World.frozen?,h]
theorem ff.lt {w:World} {b:Nat} {cs:List Value} {t:TypeId} (h:ff w b cs t):b<w.heap.size:=(Array.getElem?_eq_some_iff.1 h).1
theorem ff.put {w:World} {b:Nat} {cs:List Value} {t:TypeId} (h:ff w b cs t) (i:Nat) (v:Value):ff (w.setCell ⟨b,i,none⟩ v) b (cs.set i v) t:=by
 unfold ff at h ⊢
 simp only [World.setCell,Array.getElem?_modify,if_true,h,Option.map_some]
 simp [List.setIfInBounds_toArray]
theorem ff.new (w:World) (cs:List Value) (t:TypeId):ff (w.alloc (.cells cs.toArray t)) w.heap.size cs t:=by
 show (w.heap.push _)[w.heap.size]?=_
 rw [Array.getElem?_push,if_pos rfl]
structure cf (S:List Nat) (w w':World):Prop where
 os:w'.os=w.os
 tape:w'.tape=w.tape
 output:w'.output=w.output
 size:w.heap.size≤w'.heap.size
 block:∀ b,b<w.heap.size→b ∉ S→w'.heap[b]?=w.heap[b]?
theorem cf.refl (S:List Nat) (w:World):cf S w w:=⟨rfl,rfl,rfl,Nat.le_refl _,fun _ _ _ => rfl⟩
theorem cf.trans {S:List Nat} {a b c:World} (h:cf S a b) (k:cf S b c):cf S a c :=
 ⟨k.os.trans h.os,k.tape.trans h.tape,k.output.trans h.output,Nat.le_trans h.size k.size,
  fun i hi hS => (k.block i (Nat.lt_of_lt_of_le hi h.size) hS).trans (h.block i hi hS)⟩
theorem cf.then {S T:List Nat} {a b c:World} (h:cf S a b) (k:cf T b c) (hT:∀ x ∈ T,x ∈ S∨a.heap.size≤x):cf S a c :=
 ⟨k.os.trans h.os,k.tape.trans h.tape,k.output.trans h.output,Nat.le_trans h.size k.size,
  fun i hi hS => (k.block i (Nat.lt_of_lt_of_le hi h.size) (fun hm => by rcases hT i hm with h1 | h1;exact hS h1;omega)).trans (h.block i hi hS)⟩
theorem cf.mono {S T:List Nat} {w w':World} (h:cf S w w') (hT:∀ x ∈ S,x ∈ T∨w.heap.size≤x):cf T w w' :=
 (cf.refl T w).then h hT
theorem cf.put {S:List Nat} (w:World) (a:Addr) (v:Value) (ha:a.block ∈ S):cf S w (w.setCell a v) :=
 ⟨rfl,rfl,rfl,by simp,fun i hi hS => RowKit.Below.heap_setCell w a v i (fun e => hS (e ▸ ha))⟩
theorem cf.new (S:List Nat) (w:World) (o:Obj):cf S w (w.alloc o) :=
 ⟨rfl,rfl,rfl,by simp,fun i hi _ => RowKit.Below.heap_alloc w o i hi⟩
theorem cf.drew (S:List Nat) (w:World):cf S w w.drew:=⟨rfl,rfl,rfl,Nat.le_refl _,fun _ _ _ => rfl⟩
theorem Dn {S:List Nat} {w w':World} (h:w'.heap=w.heap) (ho:w'.os=w.os) (ht:w'.tape=w.tape) (hp:w'.output=w.output):cf S w w' :=
 ⟨ho,ht,hp,by rw [h];exact Nat.le_refl _,fun _ _ _ => by rw [h]⟩
theorem cf.blk {S:List Nat} {w w':World} (h:cf S w w') {b:Nat} {cs:List Value} {t:TypeId} (hb:ff w b cs t) (hS:b ∉ S):ff w' b cs t:=(h.block b hb.lt hS).trans hb
theorem cf.cell {S:List Nat} {w w':World} (h:cf S w w') {a:Addr} {v:Value} (hc:w.cell? a=some v) (hS:a.block ∉ S):w'.cell? a=some v :=
 (World.cell?_of_block (h.block a.block (World.block_lt_of_cell? w a hc) hS)).trans hc
theorem cf.below {w w':World} (h:cf [] w w'):RowKit.Below w.heap.size w w':=⟨h.os,h.tape,h.output,h.size,fun k hk => h.block k hk (by simp)⟩
structure e_ where
 foot:List Nat
 pred:World→Prop
def e_.Local (r:e_):Prop:=∀ w w',(∀ b ∈ r.foot,w'.heap[b]?=w.heap[b]?)→r.pred w→r.pred w'
def e_.In (r:e_):Prop:=∀ w,r.pred w→∀ b ∈ r.foot,b<w.heap.size
def aa (b:Nat) (cs:List Value) (t:TypeId):e_:=⟨[b],fun w => ff w b cs t⟩
def yU (l:List e_):Prop:=l.Pairwise fun r s => ∀ b ∈ r.foot,b ∉ s.foot
structure St (w0:World) (S:List Nat) (l:List e_) (w:World):Prop where
 frm:cf S w0 w
 has:∀ r ∈ l,r.pred w
 loc:∀ r ∈ l,r.Local∧r.In
 own:∀ r ∈ l,∀ b ∈ r.foot,b ∈ S∨w0.heap.size≤b
 apart:yU l
theorem cw (b:Nat) (cs:List Value) (t:TypeId):(aa b cs t).Local:=fun w w' h hb => by
 show w'.heap[b]?=_
 rw [h b (by simp [aa])]
 exact hb
theorem dW (b:Nat) (cs:List Value) (t:TypeId):(aa b cs t).In:=fun w h x hx => by
 simp only [aa,List.mem_singleton] at hx
 subst hx
 exact ff.lt h
section
variable {w0 w:World} {S:List Nat} {l:List e_}
theorem St.get (h:St w0 S l w) {i:Nat} {r:e_} (hi:l[i]?=some r):r.pred w:=h.has r (List.mem_of_getElem? hi)
theorem St.blk (h:St w0 S l w) {i:Nat} {b:Nat} {cs:List Value} {t:TypeId} (hi:l[i]?=some (aa b cs t)):ff w b cs t:=h.get hi
theorem St.cell (h:St w0 S l w) (i:Nat) {b off:Nat} {cs:List Value} {t:TypeId} {v:Value} (hi:l[i]?=some (aa b cs t)) (hv:cs[off]?=some v):w.cell? ⟨b,off,none⟩=some v:=(h.blk hi).cellv hv
theorem St.fz (h:St w0 S l w) (i:Nat) {b off:Nat} {cs:List Value} {t:TypeId} (hi:l[i]?=some (aa b cs t)):w.frozen? ⟨b,off,none⟩=false:=(h.blk hi).fz _
theorem St.old (h:St w0 S l w) {a:Addr} {v:Value} (hc:w0.cell? a=some v) (hS:a.block ∉ S):w.cell? a=some v:=h.frm.cell hc hS
theorem dl {l:List e_} (h:yU l) {i j:Nat} {r s:e_} (hi:l[i]?=some r) (hj:l[j]?=some s) (hne:i≠j):∀ b ∈ r.foot,b ∉ s.foot:=by
 have sym:∀ {i j:Nat} {r s:e_},l[i]?=some r→l[j]?=some s→i<j→∀ b ∈ r.foot,b ∉ s.foot:=by
  intro i j r s hi hj hlt
  obtain ⟨h1,e1⟩:=List.getElem?_eq_some_iff.1 hi
  obtain ⟨h2,e2⟩:=List.getElem?_eq_some_iff.1 hj
  have:=List.pairwise_iff_getElem.1 h i j h1 h2 hlt
  rw [e1,e2] at this
  exact this
 rcases Nat.lt_or_gt_of_ne hne with h1 | h1
 ·exact sym hi hj h1
 ·exact fun b hb hs => sym hj hi h1 b hs hb
theorem St.turn (h:St w0 S l w) {i:Nat} {r r':e_} {w':World} (hi:l[i]?=some r) (hf:cf r.foot w w') (hr:r'.pred w') (hl:r'.Local∧r'.In)
  (hfoot:∀ b ∈ r'.foot,b ∈ r.foot∨w.heap.size≤b):St w0 S (l.set i r') w':=by
 have hir:r ∈ l:=List.mem_of_getElem? hi
 have hlt:i<l.length:=(List.getElem?_eq_some_iff.1 hi).1
 have get':∀ j s,(l.set i r')[j]?=some s→(j=i∧s=r')∨(j≠i∧l[j]?=some s):=by
  intro j s hj
  by_cases hji:j=i
  ·subst hji
   rw [List.getElem?_set_self hlt] at hj
   exact .inl ⟨O,(Option.some.inj hj).symm⟩
  ·rw [List.getElem?_set_ne (Ne.symm hji)] at hj
   exact .inr ⟨hji,hj⟩
 refine ⟨h.frm.then hf (h.own r hir),?_,?_,?_,?_⟩
 ·intro s hs
  obtain ⟨j,hj⟩:=List.mem_iff_getElem?.1 hs
  rcases get' j s hj with ⟨_,rfl⟩ | ⟨hne,hj⟩
  ·exact hr
  ·have hm:=List.mem_of_getElem? hj
   refine (h.loc s hm).1 w w' (fun b hb => hf.block b ((h.loc s hm).2 w (h.has s hm) b hb) ?_) (h.has s hm)
   exact dl h.apart hj hi hne b hb
 ·intro s hs
  obtain ⟨j,hj⟩:=List.mem_iff_getElem?.1 hs
  rcases get' j s hj with ⟨_,rfl⟩ | ⟨_,hj⟩
  ·exact hl
  ·exact h.loc s (List.mem_of_getElem? hj)
 ·intro s hs b hb
  obtain ⟨j,hj⟩:=List.mem_iff_getElem?.1 hs
  rcases get' j s hj with ⟨_,rfl⟩ | ⟨_,hj⟩
  ·rcases hfoot b hb with h1 | h1
   ·exact h.own r hir b h1
   ·exact .inr (Nat.le_trans h.frm.size h1)
  ·exact h.own s (List.mem_of_getElem? hj) b hb
 ·refine List.pairwise_iff_getElem.2 fun j k hj hk hjk b hb hb2 => ?_
  have ej:=List.getElem?_eq_getElem hj
  have ek:=List.getElem?_eq_getElem hk
  rcases get' j _ ej with ⟨h1,e1⟩ | ⟨h1,e1⟩ <;> rcases get' k _ ek with ⟨h2,e2⟩ | ⟨h2,e2⟩
  ·omega
  ·rw [e1] at hb
   rcases hfoot b hb with h3 | h3
   ·exact dl h.apart hi e2 (Ne.symm h2) b h3 hb2
   ·have hm:=List.mem_of_getElem? e2
    have:=(h.loc _ hm).2 w (h.has _ hm) b hb2
    omega
  ·rw [e2] at hb2
   rcases hfoot b hb2 with h3 | h3
   ·exact dl h.apart e1 hi h1 b hb h3
   ·have hm:=List.mem_of_getElem? e1
    have:=(h.loc _ hm).2 w (h.has _ hm) b hb
    omega
  ·exact dl h.apart e1 e2 ω b hb hb2
theorem St.put (h:St w0 S l w) (i:Nat) {b off:Nat} {cs:List Value} {t:TypeId} (v:Value) (hi:l[i]?=some (aa b cs t)) :
  St w0 S (l.set i (aa b (cs.set off v) t)) (w.setCell ⟨b,off,none⟩ v) :=
 h.turn hi (cf.put w _ v (by simp [aa])) ((h.blk hi).put off v) ⟨cw _ _ _,dW _ _ _⟩ (fun b hb => .inl hb)
theorem St.turnB (h:St w0 S l w) (i:Nat) {b:Nat} {cs cs':List Value} {t t':TypeId} {w':World} (hi:l[i]?=some (aa b cs t)) (hf:cf [b] w w') (hb:ff w' b cs' t') :
  St w0 S (l.set i (aa b cs' t')) w':=h.turn hi hf hb ⟨cw _ _ _,dW _ _ _⟩ (fun b hb => .inl hb)
theorem gQ {b:Nat} {cs:List Value} {t:TypeId} (h:ff w b cs t):St w [b] [aa b cs t] w :=
 ⟨cf.refl _ w,fun r hr => by rw [List.mem_singleton] at hr;subst hr;exact h,fun r hr => by rw [List.mem_singleton] at hr;subst hr;exact ⟨cw _ _ _,dW _ _ _⟩,
  fun r hr x hx => by rw [List.mem_singleton] at hr;subst hr;exact .inl hx,List.pairwise_singleton _ _⟩
theorem St.add (h:St w0 S l w) {r:e_} {w':World} (hf:cf [] w w') (hr:r.pred w') (hl:r.Local∧r.In) (hfoot:∀ b ∈ r.foot,w.heap.size≤b):St w0 S (r :: l) w':=by
 refine ⟨h.frm.then hf (by simp),?_,?_,?_,?_⟩
 ·intro s hs
  rcases List.mem_cons.1 hs with rfl | hs
  ·exact hr
  ·exact (h.loc s hs).1 w w' (fun b hb => hf.block b ((h.loc s hs).2 w (h.has s hs) b hb) (by simp)) (h.has s hs)
 ·intro s hs
  rcases List.mem_cons.1 hs with rfl | hs
  ·exact hl
  ·exact h.loc s hs
 ·intro s hs b hb
  rcases List.mem_cons.1 hs with rfl | hs
  ·exact .inr (Nat.le_trans h.frm.size (hfoot b hb))
  ·exact h.own s hs b hb
 ·refine List.pairwise_cons.2 ⟨fun s hs b hb hb2 => ?_,h.apart⟩
  have:=(h.loc s hs).2 w (h.has s hs) b hb2
  have:=hfoot b hb
  omega
theorem St.new (h:St w0 S l w) (cs:List Value) (t:TypeId):St w0 S (aa w.heap.size cs t :: l) (w.alloc (.cells cs.toArray t)) :=
 h.add (cf.new [] w _) (ff.new w cs t) ⟨cw _ _ _,dW _ _ _⟩ (by simp [aa])
theorem St.quiet (h:St w0 S l w) {w':World} (hf:cf [] w w'):St w0 S l w' :=
 ⟨h.frm.then hf (by simp),fun s hs => (h.loc s hs).1 w w' (fun b hb => hf.block b ((h.loc s hs).2 w (h.has s hs) b hb) (by simp)) (h.has s hs),h.loc,h.own,h.apart⟩
theorem St.drew (h:St w0 S l w):St w0 S l w.drew:=h.quiet (cf.drew [] w)
theorem St.sub (h:St w0 S l w) (is:List Nat) {l':List e_} (hl:is.map (fun i => l[i]?)=l'.map some) (hn:is.Pairwise (·≠·)):St w0 S l' w:=by
 have mem:∀ r ∈ l',r ∈ l:=fun r hr => by
  have:some r ∈ is.map (fun i => l[i]?):=by rw [hl];exact List.mem_map_of_mem hr
  obtain ⟨i,_,hi⟩:=List.mem_map.1 this
  exact List.mem_of_getElem? hi
 refine ⟨h.frm,fun r hr => h.has r (mem r hr),fun r hr => h.loc r (mem r hr),fun r hr => h.own r (mem r hr),?_⟩
 have hlen:is.length=l'.length:=by simpa using congrArg List.length hl
 refine List.pairwise_iff_getElem.2 fun j k hj hk hjk => ?_
 have g:∀ (j:Nat) (hj:j<l'.length),∃ hj':j<is.length,l[is[j]]?=some l'[j]:=fun j hj => by
  have hj':j<is.length:=ω
  refine ⟨hj',?_⟩
  have:=congrArg (fun x => x[j]?) hl
  simpa [hj,hj'] using this
 obtain ⟨hj',e1⟩:=g j hj
 obtain ⟨hk',e2⟩:=g k hk
 exact dl h.apart e1 e2 (List.pairwise_iff_getElem.1 hn j k hj' hk' hjk)
theorem St.base (h:St w0 S l w) (T:List Nat) (hT:∀ r ∈ l,∀ b ∈ r.foot,b ∈ T):St w T l w :=
 ⟨cf.refl T w,h.has,h.loc,fun r hr b hb => .inl (hT r hr b hb),h.apart⟩
theorem St.nil (w:World) (S:List Nat):St w S [] w:=⟨cf.refl S w,by simp,by simp,by simp,List.Pairwise.nil⟩
theorem St.one {r:e_} (h:r.pred w) (hl:r.Local∧r.In) (hS:∀ b ∈ r.foot,b ∈ S):St w S [r] w :=
 ⟨cf.refl S w,fun r hr => by rw [List.mem_singleton] at hr;subst hr;exact h,fun r hr => by rw [List.mem_singleton] at hr;subst hr;exact hl,
  fun r hr x hx => by rw [List.mem_singleton] at hr;subst hr;exact .inl (hS x hx),List.pairwise_singleton _ _⟩
theorem St.cons (h:St w0 S l w) {r:e_} (hr:r.pred w) (hl:r.Local∧r.In) (hS:∀ b ∈ r.foot,b ∈ S∨w0.heap.size≤b) (hd:∀ s ∈ l,∀ b ∈ r.foot,b ∉ s.foot):St w0 S (r :: l) w :=
 ⟨h.frm,fun s hs => by rcases List.mem_cons.1 hs with rfl | hs;exact hr;exact h.has s hs,fun s hs => by rcases List.mem_cons.1 hs with rfl | hs;exact hl;exact h.loc s hs,
  fun s hs => by rcases List.mem_cons.1 hs with rfl | hs;exact hS;exact h.own s hs,List.pairwise_cons.2 ⟨hd,h.apart⟩⟩
end
theorem St.re {w0 w w':World} {S T:List Nat} {l l':List e_} (h:St w0 S l w) (hf:cf T w w') (hT:∀ b ∈ T,b ∈ S∨w0.heap.size≤b) (hfoot:l'.map (·.foot)=l.map (·.foot))
  (hp:∀ r ∈ l',r.pred w') (hl:∀ r ∈ l',r.Local∧r.In):St w0 S l' w':=by
 refine ⟨h.frm.then hf hT,hp,hl,fun r hr b hb => ?_,?_⟩
 ·have:r.foot ∈ l.map (·.foot):=by rw [← hfoot];exact List.mem_map_of_mem hr
  obtain ⟨s,hs,he⟩:=List.mem_map.1 this
  exact h.own s hs b (by rw [he];exact hb)
 ·have:(l.map (·.foot)).Pairwise fun a c => ∀ b ∈ a,b ∉ c:=List.pairwise_map.2 h.apart
  rw [← hfoot] at this
  exact List.pairwise_map.1 this
theorem St.turn2B {w0 w w':World} {S:List Nat} {l:List e_} (h:St w0 S l w) (i j:Nat) {b1 b2:Nat} {c1 c2 c1' c2':List Value} {t1 t2:TypeId} (hij:i≠j) (hi:l[i]?=some (aa b1 c1 t1)) (hj:l[j]?=some (aa b2 c2 t2))
  (hf:cf [b1,b2] w w') (h1:ff w' b1 c1' t1) (h2:ff w' b2 c2' t2):St w0 S ((l.set i (aa b1 c1' t1)).set j (aa b2 c2' t2)) w':=by
 have hli:i<l.length:=(List.getElem?_eq_some_iff.1 hi).1
 have hlj:j<l.length:=(List.getElem?_eq_some_iff.1 hj).1
 have get':∀ k s,((l.set i (aa b1 c1' t1)).set j (aa b2 c2' t2))[k]?=some s→(k=j∧s=aa b2 c2' t2)∨(k=i∧s=aa b1 c1' t1)∨(k≠i∧k≠j∧l[k]?=some s):=by
  intro k s hk
  by_cases hkj:k=j
  ·subst hkj
   rw [List.getElem?_set_self (by simpa using hlj)] at hk
   exact .inl ⟨O,(Option.some.inj hk).symm⟩
  ·rw [List.getElem?_set_ne (Ne.symm hkj)] at hk
   by_cases hki:k=i
   ·subst hki
    rw [List.getElem?_set_self hli] at hk
    exact .inr (.inl ⟨O,(Option.some.inj hk).symm⟩)
   ·rw [List.getElem?_set_ne (Ne.symm hki)] at hk
    exact .inr (.inr ⟨hki,hkj,hk⟩)
 refine h.re hf ?_ ?_ ?_ ?_
 ·intro b hb
  simp only [List.mem_cons,List.not_mem_nil,or_false] at hb
  rcases hb with rfl | rfl
  ·exact h.own _ (List.mem_of_getElem? hi) _ (by simp [aa])
  ·exact h.own _ (List.mem_of_getElem? hj) _ (by simp [aa])
 ·apply List.ext_getElem?
  intro k
  rw [List.getElem?_map,List.getElem?_map]
  by_cases hkj:k=j
  ·subst hkj
   rw [List.getElem?_set_self (by simpa using hlj),hj]
   rfl
  ·rw [List.getElem?_set_ne (Ne.symm hkj)]
   by_cases hki:k=i
   ·subst hki
    rw [List.getElem?_set_self hli,hi]
    rfl
   ·rw [List.getElem?_set_ne (Ne.symm hki)]
 ·intro s hs
  obtain ⟨k,hk⟩:=List.mem_iff_getElem?.1 hs
  rcases get' k s hk with ⟨_,rfl⟩ | ⟨_,rfl⟩ | ⟨hne1,hne2,hk2⟩
  ·exact h2
  ·exact h1
  ·have hm:=List.mem_of_getElem? hk2
   refine (h.loc s hm).1 w w' (fun b hb => hf.block b ((h.loc s hm).2 w (h.has s hm) b hb) ?_) (h.has s hm)
   intro hb2
   simp only [List.mem_cons,List.not_mem_nil,or_false] at hb2
   rcases hb2 with rfl | rfl
   ·exact dl h.apart hk2 hi hne1 _ hb (by simp [aa])
   ·exact dl h.apart hk2 hj hne2 _ hb (by simp [aa])
 ·intro s hs
  obtain ⟨k,hk⟩:=List.mem_iff_getElem?.1 hs
  rcases get' k s hk with ⟨_,rfl⟩ | ⟨_,rfl⟩ | ⟨_,_,hk⟩
  ·exact ⟨cw _ _ _,dW _ _ _⟩
  ·exact ⟨cw _ _ _,dW _ _ _⟩
  ·exact h.loc s (List.mem_of_getElem? hk)
theorem St.lost {w0 w w':World} {S:List Nat} {l:List e_} (h:St w0 S l w) {i:Nat} {r:e_} (hi:l[i]?=some r) (hf:cf r.foot w w'):St w0 S (l.eraseIdx i) w':=by
 have hir:r ∈ l:=List.mem_of_getElem? hi
 have mem:∀ s ∈ l.eraseIdx i,s ∈ l:=fun s hs => (List.eraseIdx_sublist l i).mem hs
 refine ⟨h.frm.then hf (h.own r hir),fun s hs => ?_,fun s hs => h.loc s (mem s hs),fun s hs => h.own s (mem s hs),h.apart.sublist (List.eraseIdx_sublist l i)⟩
 have hm:=mem s hs
 obtain ⟨k,hne,hk⟩:∃ k,k≠i∧l[k]?=some s:=by
  obtain ⟨j,hj⟩:=List.mem_iff_getElem?.1 hs
  rw [List.getElem?_eraseIdx] at hj
  split at hj
  ·exact ⟨j,ω,hj⟩
  ·exact ⟨j+1,ω,hj⟩
 refine (h.loc s hm).1 w w' (fun b hb => hf.block b ((h.loc s hm).2 w (h.has s hm) b hb) ?_) (h.has s hm)
 exact dl h.apart hk hi hne b hb
section
variable {w0 w:World} {S:List Nat} {l:List e_}
theorem CI.frm {w w':World} (h:CI w w'):cf [] w w':=Dn h.heap h.os h.tape h.output
theorem St.same (h:St w0 S l w) {w':World} (hs:CI w w'):St w0 S l w':=h.quiet hs.frm
variable {P:Program} {n:Nat} {ops:Array Oper} {Q:cY} {rest:List Oper} {ρ:dK} {ty:TypeId} {pos:String} {after:Array Edge} {t tt:TypeId} {x y:Operand} {b off:Nat} {cs:List Value} {v old:Value}
theorem DM (H:St w0 S l w) (i:Nat) (F:vK P t) (hx:ev ρ x=.pointer (some ⟨b,off,none⟩)) (hi:l[i]?=some (aa b cs tt)) (hy:ev ρ y=v) (hv:v.oneCell'=true) (hc:cs[off]?=some old)
  (h:∀ w',St w0 S (l.set i (aa b (cs.set off v) tt)) w'→VL P n ops Q rest ρ w'):VL P n ops Q (⟨none,.store t x y,ty,pos,after,none⟩ :: rest) ρ w :=
 xZ (td F hx hy hv (H.cell i hi hc) (H.fz i hi)) (h _ (H.put i v hi))
theorem bC {k:IntKind} {m:Int} (H:St w0 S l w) (i:Nat) (F:vK P t) (hx:ev ρ x=.pointer (some ⟨b,off,none⟩)) (hi:l[i]?=some (aa b cs tt)) (hy:ev ρ y=.int k m) (hc:cs[off]?=some old)
  (h:∀ w',St w0 S (l.set i (aa b (cs.set off (.int k m)) tt)) w'→VL P n ops Q rest ρ w'):VL P n ops Q (⟨none,.store t x y,ty,pos,after,none⟩ :: rest) ρ w:=DM H i F hx hi hy rfl hc h
theorem ud {m:Bool} (H:St w0 S l w) (i:Nat) (F:vK P t) (hx:ev ρ x=.pointer (some ⟨b,off,none⟩)) (hi:l[i]?=some (aa b cs tt)) (hy:ev ρ y=.bool m) (hc:cs[off]?=some old)
  (h:∀ w',St w0 S (l.set i (aa b (cs.set off (.bool m)) tt)) w'→VL P n ops Q rest ρ w'):VL P n ops Q (⟨none,.store t x y,ty,pos,after,none⟩ :: rest) ρ w:=DM H i F hx hi hy rfl hc h
theorem kB {a:Option Addr} {m c:Nat} (H:St w0 S l w) (i:Nat) (F:vK P t) (hx:ev ρ x=.pointer (some ⟨b,off,none⟩)) (hi:l[i]?=some (aa b cs tt)) (hy:ev ρ y=.slice a m c) (hc:cs[off]?=some old)
  (h:∀ w',St w0 S (l.set i (aa b (cs.set off (.slice a m c)) tt)) w'→VL P n ops Q rest ρ w'):VL P n ops Q (⟨none,.store t x y,ty,pos,after,none⟩ :: rest) ρ w:=DM H i F hx hi hy rfl hc h
end
section
variable {P:Program} {e:Operand→Value} {d:Option Tmp} {ty:TypeId} {pos:String} {after:Array Edge} {g:Option (Nat × Bool)} {w:World} {t t' u:TypeId} {x y:Operand} {v:Value}
def Ly (P:Program) (t:TypeId):Prop:=P.underlying t=some (.interface (P.methodsAt t))
def Ls (P:Program) (t te:TypeId):Prop:=P.underlying t=some (.pointer te)∧(P.info? t).map (·.comparable)=some true∧(P.info? te).isSome=true
theorem bu (F:Ly P t) (hx:e x=.iface u v) (hy:e y=.nilIface):dE P e ⟨d,.binOp .neq t x y t',ty,pos,after,g⟩ w (.bool true) w:=by
 unfold dE
 simp only [execOp,hx,hy,Sem.run_bind]
 have hg:(eqGuard .neq t x y (.iface u v) .nilIface).run P w=.ok () w:=rfl
 simp only [hg,Result.andThen_ok,binOp,Sem.run_bind,run_equal_held_nil w t u v F]
 rfl
theorem yt (F:Ly P t):(Op.equal t .nilIface .nilIface).run P w=.ok true w:=by
 have h:∀ d:Nat,(Op.equalIn (d+1) t .nilIface .nilIface).run P w=.ok true w:=fun d => by simp [Op.equalIn,run_underlying F]
 exact h 9999
theorem bj (F:Ly P t) (hx:e x=.nilIface) (hy:e (.const .nilIface)=.nilIface):dE P e ⟨d,.binOp .neq t x (.const .nilIface) t',ty,pos,after,g⟩ w (.bool false) w:=by
 unfold dE
 simp only [execOp,hx,hy,Sem.run_bind]
 have hg:(eqGuard .neq t x (.const .nilIface) .nilIface .nilIface).run P w=.ok () w:=by
  simp [eqGuard]
 simp only [hg,Result.andThen_ok,binOp,Sem.run_bind,yt F]
 rfl
theorem xF (F:Ly P t) {te:TypeId} (G:Ls P u te) {a:Addr} (hx:e x=.iface u (.pointer (some a))) (hy:e y=.iface u (.pointer (some a))):dE P e ⟨d,.binOp .eql t x y t',ty,pos,after,g⟩ w (.bool true) w:=by
 obtain ⟨h1,h2,h4⟩:=G
 obtain ⟨i,h2,h3⟩:=Option.map_eq_some_iff.1 h2
 obtain ⟨j,h4⟩:=Option.isSome_iff_exists.mp h4
 unfold dE
 simp only [execOp,hx,hy,Sem.run_bind]
 have hg:(eqGuard .eql t x y (.iface u (.pointer (some a))) (.iface u (.pointer (some a)))).run P w=.ok () w:=rfl
 simp only [hg,Result.andThen_ok,run_eql_iface_ptr_same w a F h1 h2 h3 h4]
 rfl
end
def Mo (P:Program) (u:TypeId) (name:String) (f:FuncId):Prop:=∀ (a:Addr) (args:Array Value) (w:World),(callMethod (.iface u (.pointer (some a))) name args).run P w=.ok (.enter f (#[.pointer (some a)]++args)) w
section
variable {P:Program} {n:Nat} {Q:cY} {ρ:dK} {w:World}
theorem mC {ops:Array Oper} {rest:List Oper} {f:FuncId} {r:Operand} {name:String} {xs:Array Operand} {ts:Array TypeId} {ty:TypeId} {pos:String} {after:Array Edge} {d:Nat} {u:TypeId} {a:Addr} {vs:List Value} {R:Ending→World→Prop}
  (hd:Nat.blt d n=true) (he:Mo P u name f) (hr:ev ρ r=.iface u (.pointer (some a))) (hc:Calls P f (.pointer (some a) :: vs).toArray w R) (hx:xs.toList.map (ev ρ)=vs)
  (h:∀ e w',R e w'→∃ v,e=.returned v∧VL P n ops Q rest (eW ρ d v) w') :
  VL P n ops Q (⟨some d,.call ⟨.invoke r name,xs,ts⟩,ty,pos,after,none⟩ :: rest) ρ w:=fun a' ha => by
 unfold wpList
 rw [if_pos (by simp [Region.wanted])]
 refine .inl ?_
 have hr:(execOp (ev ρ) ⟨some d,.call ⟨.invoke r name,xs,ts⟩,ty,pos,after,none⟩).run P w=.ok (.enter f (.pointer (some a) :: vs).toArray) w:=by
  have hx:xs.map (ev ρ)=vs.toArray:=by apply Array.ext';rw [Array.toList_map,hx]
  have:=he a vs.toArray w
  have h0:(#[Value.iface u (.pointer (some a))]++vs.toArray)[0]?=some (.iface u (.pointer (some a))):=by
   rw [Array.getElem?_append_left (by simp)]
   rfl
  have h1:(#[Value.iface u (.pointer (some a))]++vs.toArray).extract 1 (#[Value.iface u (.pointer (some a))]++vs.toArray).size=vs.toArray:=by
   apply Array.ext'
   simp [Array.toList_extract]
  simp only [execOp,resolve,Sem.run_bind,Sem.run_pure,Result.andThen_ok,hx,hr,Go.invoke]
  simp only [h0,h1]
  rw [this]
  simp
 unfold Oper.wp
 rw [ha.eval,hr]
 refine hc.mono fun e w' hR => ?_
 obtain ⟨v,rfl,hv⟩:=h e w' hR
 exact hv _ (ha.put hd v)
end
end Go.Proofs.YtmgemcffhbnpfaaGreatDoor
set_option maxRecDepth 100000
namespace Go.Proofs.YtmgemcffhbnpfaaGreatDoor
open Go
def wr (cs:List Value) (o:Nat):List Value→List Value
 | [] => cs
 | v :: r => wr (cs.set o v) (o+1) r
theorem Hb:∀ (vs cs:List Value) (o k:Nat),o+vs.length≤cs.length→(wr cs o vs)[k]?=if o≤k∧k<o+vs.length then vs[k - o]? else cs[k]?
 | [],cs,o,k,h => by
  rw [if_neg (by simp only [List.length_nil];omega)]
  rfl
 | v :: r,cs,o,k,h => by
  simp only [List.length_cons] at h ⊢
  rw [wr,Hb r (cs.set o v) (o+1) k (by simp;omega)]
  by_cases h1:o+1≤k∧k<o+1+r.length
  ·rw [if_pos h1,if_pos ω]
   obtain ⟨j,rfl⟩:∃ j,k=o+1+j:=⟨k - (o+1),ω⟩
   rw [show o+1+j - o=j+1 by omega,show o+1+j - (o+1)=j by omega]
   simp
  ·rw [if_neg h1]
   by_cases h2:k=o
   ·subst h2
    rw [if_pos ω,List.getElem?_set_self ω]
    simp
   ·rw [if_neg ω,List.getElem?_set_ne ω]
theorem HM {cs vs:List Value} (h:vs.length=cs.length):wr cs 0 vs=vs:=by
 apply List.ext_getElem?
 intro k
 rw [Hb vs cs 0 k ω]
 by_cases h1:k<vs.length
 ·rw [if_pos ω];rfl
 ·rw [if_neg ω,List.getElem?_eq_none ω,List.getElem?_eq_none ω]
theorem St.grow {w0 w w':World} {S:List Nat} {l:List e_} (h:St w0 S l w) {i:Nat} {r r':e_} (hi:l[i]?=some r) (hf:cf r.foot w w') (hr:r'.pred w') (hl:r'.Local∧r'.In) (hfoot:r'.foot=r.foot)
  {b:Nat} {cs:List Value} {t:TypeId} (hb:ff w' b cs t) (hnew:w.heap.size≤b):St w0 S (aa b cs t :: l.set i r') w':=by
 have h2:=h.turn hi hf hr hl (fun b hb => .inl (hfoot ▸ hb))
 refine h2.cons hb ⟨cw _ _ _,dW _ _ _⟩ (fun x hx => ?_) (fun s hs x hx hx2 => ?_)
 ·simp only [aa,List.mem_singleton] at hx
  subst hx
  exact .inr (Nat.le_trans h.frm.size hnew)
 ·simp only [aa,List.mem_singleton] at hx
  subst hx
  have hir:r ∈ l:=List.mem_of_getElem? hi
  rcases List.mem_or_eq_of_mem_set hs with hs | rfl
  ·have:=(h.loc s hs).2 w (h.has s hs) x hx2
   omega
  ·rw [hfoot] at hx2
   have:=(h.loc r hir).2 w (h.has r hir) x hx2
   omega
section
variable {P:Program}
theorem kY (b o:Nat) (tt:TypeId):∀ (vs:List Value) (i:Nat) (cs:List Value) (w:World),ff w b cs tt→o+i+vs.length≤cs.length→(∀ v ∈ vs,v.oneCell'=true) →
  ∃ w',(storeCells ⟨b,o,none⟩ vs i).run P w=.ok () w'∧ff w' b (wr cs (o+i) vs) tt∧cf [b] w w'
 | [],i,cs,w,hb,hl,h1 => ⟨w,rfl,hb,cf.refl _ _⟩
 | v :: r,i,cs,w,hb,hl,h1 => by
  simp only [List.length_cons] at hl
  obtain ⟨w',h2,h3,h4⟩:=kY b o tt r (i+1) (cs.set (o+i) v) (w.setCell ⟨b,o+i,none⟩ v) (hb.put _ _) (by simp;omega) (fun x hx => h1 x (List.mem_cons_of_mem _ hx))
  refine ⟨w',?_,h3,(cf.put w ⟨b,o+i,none⟩ v (by simp)).trans h4⟩
  have hc:w.cell? ⟨b,o+i,none⟩=some cs[o+i]:=hb.cellv (List.getElem?_eq_getElem ω)
  have:=run_store P w ⟨b,o+i,none⟩ v .plain (h1 v (by simp))
  simp only [storeCells,Sem.run_bind,ky,this]
  simp [stored,hc,hb.fz,h2]
def vM (P:Program) (t k:Nat):Prop:=(P.info? t).map (·.size)=some k
def xU (P:Program) (t:TypeId) (cs:List Value):Prop:=∃ i z,P.info? t=some i∧i.zero=some z∧z.cells.toList=cs
theorem xU.run {t:TypeId} {cs:List Value} (h:xU P t cs):∃ z,(∀ w,(zeroValue t).run P w=.ok z w)∧z.cells=cs.toArray:=by
 obtain ⟨i,z,h1,h2,h3⟩:=h
 refine ⟨z,fun w => ?_,by rw [← h3]⟩
 simp [zeroValue,typeInfo,h1,h2]
variable {w0 w:World} {S:List Nat} {l:List e_}
variable {n:Nat} {ops:Array Oper} {Q:cY} {rest:List Oper} {ρ:dK} {ty:TypeId} {pos:String} {after:Array Edge} {t tt:TypeId} {x y:Operand} {b off k d:Nat} {cs vs:List Value} {v old:Value}
theorem Eo (H:St w0 S l w) (i:Nat) (F:vM P t k) (hx:ev ρ x=.pointer (some ⟨b,off,none⟩)) (hi:l[i]?=some (aa b cs tt)) (hy:ev ρ y=.agg vs.toArray) (hk:vs.length=k) (hl:off+k≤cs.length) (h1:∀ v ∈ vs,v.oneCell'=true)
  (h:∀ w',St w0 S (l.set i (aa b (wr cs off vs) tt)) w'→VL P n ops Q rest ρ w'):VL P n ops Q (⟨none,.store t x y,ty,pos,after,none⟩ :: rest) ρ w:=by
 subst hk
 obtain ⟨w',h2,h3,h4⟩:=kY (P:=P) b off tt vs 0 cs w (H.blk hi) hl h1
 refine xZ (w':=w') ?_ (h _ (H.turnB i hi h4 h3))
 unfold IW
 simp only [execOp,hx,hy,Instr.storeAt,Instr.sureAddr,storeVar,Sem.run_bind,Sem.run_pure,Result.andThen_ok,Value.cells,FF F w]
 simp [h2]
theorem dG (H:St w0 S l w) (i:Nat) (F:vM P t k) (hx:ev ρ x=pT b) (hi:l[i]?=some (aa b cs tt)) (hy:ev ρ y=.agg vs.toArray) (hk:vs.length=k) (hl:vs.length=cs.length) (h1:∀ v ∈ vs,v.oneCell'=true)
  (h:∀ w',St w0 S (l.set i (aa b vs tt)) w'→VL P n ops Q rest ρ w'):VL P n ops Q (⟨none,.store t x y,ty,pos,after,none⟩ :: rest) ρ w :=
 Eo H i F hx hi hy hk ω h1 (by rwa [HM hl])
theorem St.high (H:St w0 S l w):w0.heap.size≤w.heap.size:=H.frm.size
theorem cE (H:St w0 S l w) (F:xU P t cs) (hd:Nat.blt d n=true)
  (h:∀ w' b,w.heap.size≤b→w0.heap.size≤b→St w0 S (aa b cs t :: l) w'→VL P n ops Q rest (eW ρ d (pT b)) w') :
  VL P n ops Q (⟨some d,.alloc t,ty,pos,after,none⟩ :: rest) ρ w:=by
 obtain ⟨z,h1,h2⟩:=F.run
 refine Lo hd (v:=.pointer (some ⟨w.heap.size,0,none⟩)) (w':=w.alloc (.cells cs.toArray t)) ?_ (h _ _ (Nat.le_refl _) H.high (H.new cs t))
 unfold dE
 simp only [execOp,Instr.alloc,Sem.run_bind,h1,Result.andThen_ok,newVar,newRow,h2]
 rfl
theorem fM (H:St w0 S l w) (hx:ev ρ x=v) (hv:v.cells.toList=cs) (hd:Nat.blt d n=true)
  (h:∀ w' b,w.heap.size≤b→w0.heap.size≤b→St w0 S (aa b cs t :: l) w'→VL P n ops Q rest (eW ρ d (pT b)) w') :
  VL P n ops Q (⟨some d,.box t x,ty,pos,after,none⟩ :: rest) ρ w:=by
 refine Lo hd (v:=.pointer (some ⟨w.heap.size,0,none⟩)) (w':=w.alloc (.cells cs.toArray t)) ?_ (h _ _ (Nat.le_refl _) H.high (H.new cs t))
 subst hv
 unfold dE
 simp only [execOp,Instr.box,hx,Sem.run_bind,Result.andThen_ok,newVar,newRow]
 rfl
def MK (P:Program) (t el by_:Nat) (zs:List Value):Prop:=P.underlying t=some (.slice el)∧∃ i z,P.info? el=some i∧i.zero=some z∧z.cells.toList=zs∧i.size=zs.length∧i.bytes=by_
def dk (c:Nat) (zs:List Value):List Value:=(List.replicate c zs).flatten
theorem nh (c:Nat) (zs:List Value):(dk c zs).length=c * zs.length:=by simp [dk]
theorem dz (c:Nat) (z:Value):dk c [z]=List.replicate c z:=by
 induction c with
 | zero => rfl
 | succ c ih => simp only [dk,List.replicate_succ,List.flatten_cons] at ih ⊢;rw [ih];rfl
theorem o_ (c:Nat) (zs:List Value):dk (c+1) zs=dk c zs++zs:=by
 simp only [dk]
 rw [List.replicate_succ',List.flatten_append]
 simp
theorem iE (zs:List Value):∀ c,(madeCells zs.toArray (c * zs.length)).toList=dk c zs
 | 0 => by simp [madeCells,dk]
 | c+1 => by
  rw [o_,← iE zs c]
  simp only [madeCells,Array.toList_map,Array.toList_range,Nat.succ_mul,List.range_add,List.map_append,List.map_map]
  congr 1
  apply List.ext_getElem
  ·simp
  ·intro j h1 h2
   simp only [List.size_toArray,List.getElem_map,List.getElem_range,Function.comp]
   rw [Nat.mul_add_mod_self_right,Nat.mod_eq_of_lt h2]
   simp [h2]
theorem iJ {el by_:Nat} {zs:List Value} {kl kc:IntKind} {m c:Int} (H:St w0 S l w) (F:MK P t el by_ zs) (lN cN:Nat) (hx:ev ρ x=.int kl m) (hy:ev ρ y=.int kc c) (hm:m=(lN:Int)) (hc:c=(cN:Int)) (hlc:lN≤cN) (hb:by_ * cN≤281474976710656) (h63:cN≤9223372036854775807) (hd:Nat.blt d n=true)
  (h:∀ w' b,w.heap.size≤b→w0.heap.size≤b→St w0 S (aa b (dk cN zs) el :: l) w'→VL P n ops Q rest (eW ρ d (.slice (aT b) lN cN)) w') :
  VL P n ops Q (⟨some d,.makeSlice t x y,ty,pos,after,none⟩ :: rest) ρ w:=by
 subst hm hc
 obtain ⟨hu,i,z,h1,h2,h3,h4,h5⟩:=F
 subst h5
 have hb':((i.bytes * cN:Nat):Int)≤281474976710656:=ω
 rw [Int.natCast_mul] at hb'
 have hr:=run_make (P:=P) w t el i z hu h1 h2 kl kc lN cN ω ω hb' ω
 have e:madeCells z.cells ((cN:Int).toNat * i.size)=(dk cN zs).toArray:=by
  have:=iE zs cN
  rw [← this,h4,← h3]
  rfl
 rw [e] at hr
 simp only [Int.toNat_natCast] at hr
 refine Lo hd (v:=.slice (some ⟨w.heap.size,0,none⟩) lN cN) (w':=w.alloc (.cells (dk cN zs).toArray el)) ?_ (h _ _ (Nat.le_refl _) H.high (H.new _ el))
 unfold dE
 simp only [execOp,hx,hy,Sem.run_bind,hr,Result.andThen_ok]
 rfl
theorem Bx {e:Operand→Value} {d:Option Tmp} {g:Option (Nat × Bool)} {len el size:Nat} (F:AR P t len el size) (hx:e x=.pointer (some ⟨b,off,none⟩)):dE P e ⟨d,.slice t x none none none,ty,pos,after,g⟩ w (.slice (some ⟨b,off,none⟩) len len) w:=by
 unfold dE
 simp only [execOp,hx,Option.map_none,Sem.run_bind,Instr.sliceAt,run_underlying F.1,Result.andThen_ok,Instr.sureAddr,Instr.sliceBounds,Sem.run_pure,FF F.2 w,Nat.zero_mul,Nat.sub_zero]
 by_cases h:len=0
 ·rw [if_pos h]
 ·rw [if_neg h]
  rfl
def BZ (P:Program) (t:TypeId) (cs:List Value):Prop:=∀ w:World,(Instr.build t #[]).run P w=.ok (.agg cs.toArray) w
theorem nx {e:Operand→Value} {d:Option Tmp} {g:Option (Nat × Bool)} (F:BZ P t cs):dE P e ⟨d,.build t #[],ty,pos,after,g⟩ w (.agg cs.toArray) w:=by
 unfold dE
 simp only [execOp,List.map_toArray,List.map_nil,Sem.run_bind,F w,Result.andThen_ok]
 rfl
theorem CQ {e:Operand→Value} {d:Option Tmp} {g:Option (Nat × Bool)} {el len:Nat} (hu:P.underlying t=some (.array len el)) (hs:(P.info? el).isSome=true) (F:xU P t cs):dE P e ⟨d,.build t #[],ty,pos,after,g⟩ w (.agg cs.toArray) w:=by
 obtain ⟨z,h1,h2⟩:=F.run
 obtain ⟨i,hi⟩:=Option.isSome_iff_exists.mp hs
 unfold dE
 simp only [execOp,Instr.build,Sem.run_bind,h1,Result.andThen_ok,run_underlying hu,sizeOf,typeInfo,hi]
 simp [h2,hi,Instr.fill]
end
section
variable {P:Program}
def LS (P:Program) (t len:Nat):Prop:=∀ (cs:Array Value) (j:Nat) (k:IntKind) (v:Value) (w:World),j<len→cs[j]?=some v→(Instr.index t (.agg cs) (.int k (j:Nat))).run P w=.ok v w
theorem idx {t len el:Nat} {d:TypeDesc} (hu:P.underlying t=some (.array len el)) (hs:(P.info? el).map (·.size)=some 1) (he:P.underlying el=some d) (hd:qB d=true):LS P t len:=fun cs j k v w hj hv => by
 have h1:(isAgg el).run P w=.ok false w:=by
  simp only [isAgg,Sem.run_bind,run_underlying he,Result.andThen_ok]
  cases d <;> simp_all [qB]
 simp only [Instr.index,asIntOf,Sem.run_bind,Sem.run_pure,Result.andThen_ok,run_underlying hu]
 rw [if_pos ω]
 simp only [Sem.run_bind,FF hs w,Result.andThen_ok,part,h1,Int.toNat_natCast,Nat.mul_one,hv]
 rfl
variable {e:Operand→Value} {d:Option Tmp} {ty:TypeId} {pos:String} {after:Array Edge} {g:Option (Nat × Bool)} {w:World} {t:TypeId} {x y:Operand}
theorem Gt {len:Nat} {cs:Array Value} {k:IntKind} {m:Int} {v:Value} (j:Nat) (F:LS P t len) (hx:e x=.agg cs) (hy:e y=.int k m) (hj:m=(j:Int)) (hl:j<len) (hv:cs[j]?=some v) :
  dE P e ⟨d,.index t x y,ty,pos,after,g⟩ w v w:=by
 subst hj
 unfold dE
 simp only [execOp,hx,hy,Sem.run_bind,F cs j k v w hl hv,Result.andThen_ok]
 rfl
theorem iF {parts:Array (Nat × Operand)} {ps:List (Nat × Value)} (cs:List Value) (hp:(parts.toList.map fun q => (q.1,e q.2))=ps) (hb:P.built t ps=some cs.toArray) :
  dE P e ⟨d,.build t parts,ty,pos,after,g⟩ w (.agg cs.toArray) w:=by
 have h2:(parts.map fun q => (q.1,e q.2)).toList=ps:=by rw [Array.toList_map];exact hp
 unfold dE
 simp only [execOp,Sem.run_bind]
 rw [run_build w t _ cs.toArray (by rw [h2];exact hb)]
 rfl
def Mj (P:Program) (a t:TypeId):Prop:=∀ (v:Value) (u:TypeId) (w:World),(Instr.typeAssert (.iface t v) u a true).run P w=.ok (.tuple #[.iface t v,.bool true]) w
theorem LA {a u v0:TypeId} {v:Value} (F:Mj P a v0) (hx:e x=.iface v0 v):dE P e ⟨d,.typeAssert x u a true,ty,pos,after,g⟩ w (.tuple #[.iface v0 v,.bool true]) w:=by
 unfold dE
 simp only [execOp,hx,Sem.run_bind,F v u w,Result.andThen_ok]
 rfl
def LT (P:Program) (t:TypeId):Prop:=∀ (v:Value) (w:World),(Instr.makeInterface t v).run P w=.ok (.iface t v) w
theorem Eu {v:Value} (F:LT P t) (hx:e x=v):dE P e ⟨d,.makeInterface t x,ty,pos,after,g⟩ w (.iface t v) w:=by
 subst hx
 unfold dE
 simp only [execOp,Sem.run_bind,F _ w,Result.andThen_ok]
 rfl
def Mq (P:Program) (t f k:Nat):Prop:=∀ (cs:Array Value) (v:Value) (w:World),cs[k]?=some v→(Instr.field t (.agg cs) f).run P w=.ok v w
theorem MM {t f k:Nat} {fs:Array Field} {fd:Field} {d:TypeDesc} (hu:P.underlying t=some (.struct fs)) (hf:fs[f]?=some fd) (hk:fd.offset=k) (he:P.underlying fd.type=some d) (hd:qB d=true):Mq P t f k:=fun cs v w hv => by
 have h1:(isAgg fd.type).run P w=.ok false w:=by
  simp only [isAgg,Sem.run_bind,run_underlying he,Result.andThen_ok]
  cases d <;> simp_all [qB]
 subst hk
 simp only [Instr.field,Sem.run_bind,run_underlying hu,Result.andThen_ok,hf,asAgg,Sem.run_pure,part,h1,hv]
 rfl
theorem Mt {f k:Nat} {cs:Array Value} {v:Value} (F:Mq P t f k) (hx:e x=.agg cs) (hv:cs[k]?=some v):dE P e ⟨d,.field t x f,ty,pos,after,g⟩ w v w:=by
 unfold dE
 simp only [execOp,hx,Sem.run_bind,F cs v w hv,Result.andThen_ok]
 rfl
end
theorem ju {P:Program} {fn:Func} {R:Ending→World→Prop} {ρ:dK} {w:World} {a b c k t:Nat} {bk:Nat} {cs:List Value} {v2 v3:Value} (hr:fn.results=#[.cell a t,.tmp b,.tmp c]) (F:C5 P t k) (h1:ρ a=pT bk) (hl:cs.length=k) (hc:∀ j,j<k→w.cell? ⟨bk,0+j,none⟩=cs[j]?)
  (h2:ρ b=v2) (h3:ρ c=v3) (h:R (.returned (.tuple #[.agg cs.toArray,v2,v3])) w):aO P fn R .ret ρ w:=by
 refine ⟨_,fun tmps ht => ?_,h⟩
 have hL:=F bk 0 w cs hl hc
 simp only [Instr.loadAt,Instr.sureAddr,Sem.run_bind,Sem.run_pure,Result.andThen_ok] at hL
 simp only [results,hr]
 simp [ht,h1,h2,h3,asAddr,hL]
theorem lB {P:Program} {fn:Func} {R:Ending→World→Prop} {ρ:dK} {w:World} {a k t:Nat} {bk:Nat} {cs:List Value} (hr:fn.results=#[.cell a t]) (F:C5 P t k) (h1:ρ a=pT bk) (hl:cs.length=k) (hc:∀ j,j<k→w.cell? ⟨bk,0+j,none⟩=cs[j]?)
  (h:R (.returned (.agg cs.toArray)) w):aO P fn R .ret ρ w:=by
 refine ⟨_,fun tmps ht => ?_,h⟩
 have hL:=F bk 0 w cs hl hc
 simp only [Instr.loadAt,Instr.sureAddr,Sem.run_bind,Sem.run_pure,Result.andThen_ok] at hL
 simp only [results,hr]
 simp [ht,h1,asAddr,hL]
theorem tK {P:Program} {n:Nat} {ops:Array Oper} {Q:cY} {ρ:dK} {w:World} {rest:List Oper} {f:FuncId} {c:Operand} {fs cs:List Value} {xs:Array Operand} {ts:Array TypeId} {ty:TypeId} {pos:String} {after:Array Edge} {d:Nat} {vs:List Value} {R:Ending→World→Prop}
  (hd:Nat.blt d n=true) (he:fZ P f) (hv:ev ρ c=.func (.func f) fs.toArray cs.toArray) (hc:Calls P f (fs++vs++cs).toArray w R) (hx:xs.toList.map (ev ρ)=vs)
  (h:∀ e w',R e w'→∃ v,e=.returned v∧VL P n ops Q rest (eW ρ d v) w') :
  VL P n ops Q (⟨some d,.call ⟨.value c,xs,ts⟩,ty,pos,after,none⟩ :: rest) ρ w:=fun a ha => by
 unfold wpList
 rw [if_pos (by simp [Region.wanted])]
 refine .inl ?_
 have hr:(execOp (ev ρ) ⟨some d,.call ⟨.value c,xs,ts⟩,ty,pos,after,none⟩).run P w=.ok (.enter f (fs++vs++cs).toArray) w:=by
  have hx:xs.map (ev ρ)=vs.toArray:=by apply Array.ext';rw [Array.toList_map,hx]
  have:=he (fs++vs++cs).toArray w
  have e2:fs.toArray++vs.toArray++cs.toArray=(fs++vs++cs).toArray:=by simp
  simp only [execOp,resolve,Deferred.ofValue,hv,Sem.run_bind,Sem.run_pure,Result.andThen_ok,hx,Go.invoke,e2,this]
 unfold Oper.wp
 rw [ha.eval,hr]
 refine hc.mono fun e w' hR => ?_
 obtain ⟨v,rfl,hv⟩:=h e w' hR
 exact hv _ (ha.put hd v)
theorem aJ:Tryz.prog.follows .mixedOrders=true:=κ
theorem G7:AR Tryz.prog 110 4 109 4:=⟨κ,κ⟩
theorem Dw:AR Tryz.prog 111 4 4 1:=⟨κ,κ⟩
theorem J0:AR Tryz.prog 121 4 120 1:=⟨κ,κ⟩
theorem uU:AR Tryz.prog 157 128 36 1:=⟨κ,κ⟩
theorem mS:AR Tryz.prog 161 5 159 129:=⟨κ,κ⟩
theorem GE:AR Tryz.prog 173 2 3 1:=⟨κ,κ⟩
theorem J2:AR Tryz.prog 182 120 5 1:=⟨κ,κ⟩
theorem sn:AR Tryz.prog 187 2 36 1:=⟨κ,κ⟩
theorem wz:AR Tryz.prog 189 19 36 1:=⟨κ,κ⟩
theorem G3:AR Tryz.prog 190 19 5 1:=⟨κ,κ⟩
theorem C9:AR Tryz.prog 194 3 5 1:=⟨κ,κ⟩
theorem F1:AR Tryz.prog 197 256 5 1:=⟨κ,κ⟩
theorem oI:AR Tryz.prog 198 16 36 1:=⟨κ,κ⟩
theorem Ju:AR Tryz.prog 86 5 85 1:=⟨κ,κ⟩
theorem Jw:AR Tryz.prog 89 5 3 1:=⟨κ,κ⟩
theorem DP:AR Tryz.prog 91 5 23 1:=⟨κ,κ⟩
theorem xy:BZ Tryz.prog 109 ([.int .u32 0,.int .i32 0,.int .u32 0,.slice none 0 0]):=fun _ => κ
theorem JN:BZ Tryz.prog 159 ([.slice none 0 0]++List.replicate 128 (.int .u32 0)):=fun _ => κ
theorem LF:BZ Tryz.prog 39 ([.slice none 0 0,.int .i64 0]):=fun _ => κ
theorem LH:BZ Tryz.prog 42 ([.slice none 0 0,.int .i64 0]):=fun _ => κ
theorem Cu:fZ Tryz.prog 10:=fun _ _ => κ
theorem FK:fZ Tryz.prog 11:=fun _ _ => κ
theorem Hy:fZ Tryz.prog 12:=fun _ _ => κ
theorem IN:fZ Tryz.prog 124:=fun _ _ => κ
theorem Iu:fZ Tryz.prog 125:=fun _ _ => κ
theorem IX:fZ Tryz.prog 126:=fun _ _ => κ
theorem Ih:fZ Tryz.prog 127:=fun _ _ => κ
theorem cQ:fZ Tryz.prog 128:=fun _ _ => κ
theorem nv:fZ Tryz.prog 129:=fun _ _ => κ
theorem KH:fZ Tryz.prog 13:=fun _ _ => κ
theorem vW:fZ Tryz.prog 130:=fun _ _ => κ
theorem v6:fZ Tryz.prog 131:=fun _ _ => κ
theorem wx:fZ Tryz.prog 14:=fun _ _ => κ
theorem JO:fZ Tryz.prog 15:=fun _ _ => κ
theorem ke:fZ Tryz.prog 16:=fun _ _ => κ
theorem zE:fZ Tryz.prog 17:=fun _ _ => κ
theorem Kv:fZ Tryz.prog 18:=fun _ _ => κ
theorem Kx:fZ Tryz.prog 19:=fun _ _ => κ
theorem Hv:fZ Tryz.prog 20:=fun _ _ => κ
theorem Gc:fZ Tryz.prog 21:=fun _ _ => κ
theorem HZ:fZ Tryz.prog 22:=fun _ _ => κ
theorem GW:fZ Tryz.prog 23:=fun _ _ => κ
theorem J4:fZ Tryz.prog 24:=fun _ _ => κ
theorem FZ:fZ Tryz.prog 25:=fun _ _ => κ
theorem HE:fZ Tryz.prog 26:=fun _ _ => κ
theorem KZ:fZ Tryz.prog 27:=fun _ _ => κ
theorem J3:fZ Tryz.prog 28:=fun _ _ => κ
theorem Hl:fZ Tryz.prog 29:=fun _ _ => κ
theorem KL:fZ Tryz.prog 30:=fun _ _ => κ
theorem G2:fZ Tryz.prog 31:=fun _ _ => κ
theorem K6:fZ Tryz.prog 32:=fun _ _ => κ
theorem wU:fZ Tryz.prog 33:=fun _ _ => κ
theorem JU:fZ Tryz.prog 34:=fun _ _ => κ
theorem Hf:fZ Tryz.prog 35:=fun _ _ => κ
theorem Kk:fZ Tryz.prog 36:=fun _ _ => κ
theorem J_:fZ Tryz.prog 37:=fun _ _ => κ
theorem JJ:fZ Tryz.prog 38:=fun _ _ => κ
theorem zN:fZ Tryz.prog 39:=fun _ _ => κ
theorem F_:fZ Tryz.prog 40:=fun _ _ => κ
theorem z3:fZ Tryz.prog 41:=fun _ _ => κ
theorem uD:fZ Tryz.prog 42:=fun _ _ => κ
theorem FX:fZ Tryz.prog 43:=fun _ _ => κ
theorem CE:fZ Tryz.prog 44:=fun _ _ => κ
theorem Gn:fZ Tryz.prog 45:=fun _ _ => κ
theorem HN:fZ Tryz.prog 46:=fun _ _ => κ
theorem JW:fZ Tryz.prog 47:=fun _ _ => κ
theorem Gu:fZ Tryz.prog 48:=fun _ _ => κ
theorem xO:fZ Tryz.prog 49:=fun _ _ => κ
theorem LN:fZ Tryz.prog 5:=fun _ _ => κ
theorem Hu:fZ Tryz.prog 50:=fun _ _ => κ
theorem K0:fZ Tryz.prog 51:=fun _ _ => κ
theorem ss:fZ Tryz.prog 52:=fun _ _ => κ
theorem JM:fZ Tryz.prog 53:=fun _ _ => κ
theorem J8:fZ Tryz.prog 54:=fun _ _ => κ
theorem DJ:fZ Tryz.prog 55:=fun _ _ => κ
theorem KS:fZ Tryz.prog 56:=fun _ _ => κ
theorem J6:fZ Tryz.prog 57:=fun _ _ => κ
theorem JK:fZ Tryz.prog 58:=fun _ _ => κ
theorem n_:fZ Tryz.prog 59:=fun _ _ => κ
theorem Ll:fZ Tryz.prog 6:=fun _ _ => κ
theorem Kh:fZ Tryz.prog 60:=fun _ _ => κ
theorem Kl:fZ Tryz.prog 61:=fun _ _ => κ
theorem JI:fZ Tryz.prog 62:=fun _ _ => κ
theorem KO:fZ Tryz.prog 63:=fun _ _ => κ
theorem K2:fZ Tryz.prog 64:=fun _ _ => κ
theorem JZ:fZ Tryz.prog 65:=fun _ _ => κ
theorem Ku:fZ Tryz.prog 66:=fun _ _ => κ
theorem FJ:fZ Tryz.prog 67:=fun _ _ => κ
theorem n0:fZ Tryz.prog 69:=fun _ _ => κ
theorem Jo:fZ Tryz.prog 7:=fun _ _ => κ
theorem K4:fZ Tryz.prog 70:=fun _ _ => κ
theorem Gp:fZ Tryz.prog 71:=fun _ _ => κ
theorem FY:fZ Tryz.prog 72:=fun _ _ => κ
theorem JH:fZ Tryz.prog 73:=fun _ _ => κ
theorem KD:fZ Tryz.prog 74:=fun _ _ => κ
theorem Ge:fZ Tryz.prog 75:=fun _ _ => κ
theorem As:fZ Tryz.prog 76:=fun _ _ => κ
theorem H7:fZ Tryz.prog 77:=fun _ _ => κ
theorem zD:fZ Tryz.prog 78:=fun _ _ => κ
theorem Kz:fZ Tryz.prog 79:=fun _ _ => κ
theorem vH:fZ Tryz.prog 8:=fun _ _ => κ
theorem JX:fZ Tryz.prog 80:=fun _ _ => κ
theorem JP:fZ Tryz.prog 81:=fun _ _ => κ
theorem KN:fZ Tryz.prog 82:=fun _ _ => κ
theorem K3:fZ Tryz.prog 84:=fun _ _ => κ
theorem K5:fZ Tryz.prog 86:=fun _ _ => κ
theorem HL:fZ Tryz.prog 87:=fun _ _ => κ
theorem Ch:fZ Tryz.prog 88:=fun _ _ => κ
theorem zW:fZ Tryz.prog 89:=fun _ _ => κ
theorem Jr:fZ Tryz.prog 9:=fun _ _ => κ
theorem GQ:fZ Tryz.prog 90:=fun _ _ => κ
theorem mW:FA Tryz.prog 109 0 0:=fun _ _ _ => κ
theorem kA:FA Tryz.prog 109 1 1:=fun _ _ _ => κ
theorem ei:FA Tryz.prog 109 2 2:=fun _ _ _ => κ
theorem gu:FA Tryz.prog 109 3 3:=fun _ _ _ => κ
theorem wF:FA Tryz.prog 124 0 0:=fun _ _ _ => κ
theorem ql:FA Tryz.prog 124 1 1:=fun _ _ _ => κ
theorem BD:FA Tryz.prog 124 2 2:=fun _ _ _ => κ
theorem xe:FA Tryz.prog 134 0 0:=fun _ _ _ => κ
theorem qh:FA Tryz.prog 134 1 1:=fun _ _ _ => κ
theorem od:FA Tryz.prog 145 0 0:=fun _ _ _ => κ
theorem fS:FA Tryz.prog 145 1 1:=fun _ _ _ => κ
theorem fF:FA Tryz.prog 145 2 2:=fun _ _ _ => κ
theorem eS:FA Tryz.prog 159 0 0:=fun _ _ _ => κ
theorem ov:FA Tryz.prog 159 1 1:=fun _ _ _ => κ
theorem lZ:FA Tryz.prog 166 0 0:=fun _ _ _ => κ
theorem Hp:FA Tryz.prog 166 1 1:=fun _ _ _ => κ
theorem Hh:FA Tryz.prog 166 2 2:=fun _ _ _ => κ
theorem xK:FA Tryz.prog 181 0 0:=fun _ _ _ => κ
theorem lX:FA Tryz.prog 181 1 1:=fun _ _ _ => κ
theorem v9:FA Tryz.prog 39 0 0:=fun _ _ _ => κ
theorem tL:FA Tryz.prog 39 1 1:=fun _ _ _ => κ
theorem vV:FA Tryz.prog 42 0 0:=fun _ _ _ => κ
theorem th:FA Tryz.prog 42 1 1:=fun _ _ _ => κ
theorem gU:FA Tryz.prog 47 0 0:=fun _ _ _ => κ
theorem eV:FA Tryz.prog 47 1 1:=fun _ _ _ => κ
theorem kF:FA Tryz.prog 47 2 2:=fun _ _ _ => κ
theorem iP:FA Tryz.prog 47 3 3:=fun _ _ _ => κ
theorem zw:FA Tryz.prog 58 0 0:=fun _ _ _ => κ
theorem oT:FA Tryz.prog 58 1 1:=fun _ _ _ => κ
theorem dL:FA Tryz.prog 58 2 2:=fun _ _ _ => κ
theorem gC:FA Tryz.prog 58 3 3:=fun _ _ _ => κ
theorem wh:FA Tryz.prog 72 0 0:=fun _ _ _ => κ
theorem tD:FA Tryz.prog 72 1 1:=fun _ _ _ => κ
theorem qT:FA Tryz.prog 74 0 0:=fun _ _ _ => κ
theorem zQ:FA Tryz.prog 74 1 2:=fun _ _ _ => κ
theorem IF:FA Tryz.prog 77 0 0:=fun _ _ _ => κ
theorem IG:FA Tryz.prog 77 1 1:=fun _ _ _ => κ
theorem Ap:FA Tryz.prog 77 2 2:=fun _ _ _ => κ
theorem v_:FA Tryz.prog 88 0 0:=fun _ _ _ => κ
theorem qX:FA Tryz.prog 88 1 1:=fun _ _ _ => κ
theorem zy:FA Tryz.prog 88 2 2:=fun _ _ _ => κ
theorem j3:FA Tryz.prog 88 3 3:=fun _ _ _ => κ
theorem zH:FA Tryz.prog 88 4 4:=fun _ _ _ => κ
theorem I5:LS Tryz.prog 177 5:=idx κ κ Tryz.underlying36 rfl
theorem F9:LS Tryz.prog 89 5:=idx κ κ Tryz.underlying3 rfl
theorem aX:Ly Tryz.prog 64:=(by kernel_rfl:Tryz.prog.underlying 64=some (.interface (Tryz.prog.methodsAt 64)))
theorem lA:Av Tryz.prog 130 21 .i32:=⟨κ,κ⟩
theorem qL:Av Tryz.prog 130 3 .i64:=⟨κ,κ⟩
theorem kJ:Av Tryz.prog 21 3 .i64:=⟨κ,κ⟩
theorem oe:Av Tryz.prog 21 36 .u32:=⟨κ,κ⟩
theorem iX:Av Tryz.prog 21 5 .u8:=⟨κ,κ⟩
theorem lr:Av Tryz.prog 36 21 .i32:=⟨κ,κ⟩
theorem jT:Av Tryz.prog 36 3 .i64:=⟨κ,κ⟩
theorem gP:Av Tryz.prog 36 5 .u8:=⟨κ,κ⟩
theorem qQ:Av Tryz.prog 3 130 .i8:=⟨κ,κ⟩
theorem Gk:Av Tryz.prog 3 21 .i32:=⟨κ,κ⟩
theorem jV:Av Tryz.prog 3 36 .u32:=⟨κ,κ⟩
theorem IZ:Av Tryz.prog 3 5 .u8:=⟨κ,κ⟩
theorem mE:Av Tryz.prog 5 130 .i8:=⟨κ,κ⟩
theorem df:Av Tryz.prog 5 21 .i32:=⟨κ,κ⟩
theorem zV:Av Tryz.prog 5 3 .i64:=⟨κ,κ⟩
theorem gx:Av Tryz.prog 5 36 .u32:=⟨κ,κ⟩
theorem g9 : Mo Tryz.prog 67 "ReadByte" 107 := fun _ _ _ => by kernel_rfl
theorem J7:x6 Tryz.prog 120:=Aw Tryz.underlying120 rfl
theorem DH:x6 Tryz.prog 132:=Aw Tryz.underlying132 rfl
theorem Gd:x6 Tryz.prog 136:=Aw Tryz.underlying136 rfl
theorem uX:x6 Tryz.prog 140:=Aw Tryz.underlying140 rfl
theorem jl:x6 Tryz.prog 156:=Aw Tryz.underlying156 rfl
theorem Ix:x6 Tryz.prog 2:=Aw Tryz.underlying2 rfl
theorem nP:x6 Tryz.prog 21:=Aw Tryz.underlying21 rfl
theorem gw:x6 Tryz.prog 22:=Aw Tryz.underlying22 rfl
theorem zn:x6 Tryz.prog 23:=Aw Tryz.underlying23 rfl
theorem jg:x6 Tryz.prog 24:=Aw Tryz.underlying24 rfl
theorem a_:x6 Tryz.prog 3:=Aw Tryz.underlying3 rfl
theorem bD:x6 Tryz.prog 36:=Aw Tryz.underlying36 rfl
theorem jz:x6 Tryz.prog 4:=Aw Tryz.underlying4 rfl
theorem qj:x6 Tryz.prog 40:=Aw Tryz.underlying40 rfl
theorem aQ:x6 Tryz.prog 5:=Aw Tryz.underlying5 rfl
theorem nk:x6 Tryz.prog 64:=Aw Tryz.underlying64 rfl
theorem El:x6 Tryz.prog 84:=Aw Tryz.underlying84 rfl
theorem JG:x6 Tryz.prog 85:=Aw Tryz.underlying85 rfl
theorem jW:C5 Tryz.prog 109 4:=Ic Tryz.underlying109 rfl κ
theorem j6:C5 Tryz.prog 134 2:=Ic Tryz.underlying134 rfl κ
theorem Em:C5 Tryz.prog 166 3:=Ic Tryz.underlying166 rfl κ
theorem Im:C5 Tryz.prog 177 5:=Ic Tryz.underlying177 rfl κ
theorem Jg:C5 Tryz.prog 187 2:=Ic Tryz.underlying187 rfl κ
theorem pf:C5 Tryz.prog 47 4:=Ic Tryz.underlying47 rfl κ
theorem uj:C5 Tryz.prog 74 4:=Ic Tryz.underlying74 rfl κ
theorem wH:C5 Tryz.prog 88 5:=Ic Tryz.underlying88 rfl κ
theorem CD:C5 Tryz.prog 89 5:=Ic Tryz.underlying89 rfl κ
theorem HI:C5 Tryz.prog 91 5:=Ic Tryz.underlying91 rfl κ
theorem HG:MK Tryz.prog 101 47 48 ([.int .i64 0,.int .i64 0,.int .i64 0,.slice none 0 0]):=⟨κ,_,_,rfl,rfl,κ,κ,κ⟩
theorem F8:MK Tryz.prog 131 136 24 ([.slice none 0 0]):=⟨κ,_,_,rfl,rfl,κ,κ,κ⟩
theorem KC:MK Tryz.prog 136 134 16 ([.map none,.int .i64 0]):=⟨κ,_,_,rfl,rfl,κ,κ,κ⟩
theorem KX:MK Tryz.prog 152 161 2680 ([.slice none 0 0]++List.replicate 128 (.int .u32 0)++[.slice none 0 0]++List.replicate 128 (.int .u32 0)++[.slice none 0 0]++List.replicate 128 (.int .u32 0)++[.slice none 0 0]++List.replicate 128 (.int .u32 0)++[.slice none 0 0]++List.replicate 128 (.int .u32 0)):=⟨κ,_,_,rfl,rfl,κ,κ,κ⟩
theorem Gi:MK Tryz.prog 156 181 8 ([.int .u32 0,.int .i32 0]):=⟨κ,_,_,rfl,rfl,κ,κ,κ⟩
theorem qq:MK Tryz.prog 163 166 24 ([.int .i64 0,.int .i64 0,.int .i64 0]):=⟨κ,_,_,rfl,rfl,κ,κ,κ⟩
theorem K1:MK Tryz.prog 174 173 16 ([.int .i64 0,.int .i64 0]):=⟨κ,_,_,rfl,rfl,κ,κ,κ⟩
theorem gj:MK Tryz.prog 22 36 4 ([.int .u32 0]):=⟨κ,_,_,rfl,rfl,κ,κ,κ⟩
theorem mg:MK Tryz.prog 23 3 8 ([.int .i64 0]):=⟨κ,_,_,rfl,rfl,κ,κ,κ⟩
theorem xp:MK Tryz.prog 24 5 1 ([.int .u8 0]):=⟨κ,_,_,rfl,rfl,κ,κ,κ⟩
theorem Jy:MK Tryz.prog 82 88 40 ([.int .u32 0,.int .i64 0,.int .i64 0,.int .i64 0,.int .i64 0]):=⟨κ,_,_,rfl,rfl,κ,κ,κ⟩
theorem Es:MK Tryz.prog 84 91 120 ([.slice none 0 0,.slice none 0 0,.slice none 0 0,.slice none 0 0,.slice none 0 0]):=⟨κ,_,_,rfl,rfl,κ,κ,κ⟩
theorem yv:MK Tryz.prog 85 4 1 ([.bool false]):=⟨κ,_,_,rfl,rfl,κ,κ,κ⟩
theorem Iy:LT Tryz.prog 149:=fun _ _ => κ
theorem GD:LT Tryz.prog 67:=fun _ _ => κ
theorem J5:LT Tryz.prog 69:=fun _ _ => κ
theorem wu:Ls Tryz.prog 149 151:=⟨κ,κ,κ⟩
theorem Gx:SL Tryz.prog 101 47 4:=⟨κ,κ⟩
theorem Hj:SL Tryz.prog 131 136 1:=⟨κ,κ⟩
theorem xD:SL Tryz.prog 136 134 2:=⟨κ,κ⟩
theorem Aq:SL Tryz.prog 152 161 645:=⟨κ,κ⟩
theorem jo:SL Tryz.prog 156 181 2:=⟨κ,κ⟩
theorem nj:SL Tryz.prog 163 166 3:=⟨κ,κ⟩
theorem Ad:SL Tryz.prog 174 173 2:=⟨κ,κ⟩
theorem aZ:SL Tryz.prog 22 36 1:=⟨κ,κ⟩
theorem bh:SL Tryz.prog 23 3 1:=⟨κ,κ⟩
theorem am:SL Tryz.prog 24 5 1:=⟨κ,κ⟩
theorem D2:SL Tryz.prog 82 88 5:=⟨κ,κ⟩
theorem Jp:SL Tryz.prog 84 91 5:=⟨κ,κ⟩
theorem rz:SL Tryz.prog 85 4 1:=⟨κ,κ⟩
theorem Dd:vK Tryz.prog 156:=dV κ
theorem L9:vK Tryz.prog 2:=dV κ
theorem Gr:vK Tryz.prog 21:=dV κ
theorem vp:vK Tryz.prog 22:=dV κ
theorem Jn:vK Tryz.prog 23:=dV κ
theorem Eh:vK Tryz.prog 24:=dV κ
theorem k_:vK Tryz.prog 3:=dV κ
theorem dY:vK Tryz.prog 36:=dV κ
theorem lU:vK Tryz.prog 4:=dV κ
theorem cZ:vK Tryz.prog 5:=dV κ
theorem Js:vK Tryz.prog 84:=dV κ
theorem kE:vM Tryz.prog 109 4:=by unfold vM;kernel_rfl
theorem qM:vM Tryz.prog 134 2:=by unfold vM;kernel_rfl
theorem Iv:vM Tryz.prog 159 129:=by unfold vM;kernel_rfl
theorem Eb:vM Tryz.prog 166 3:=by unfold vM;kernel_rfl
theorem IB:vM Tryz.prog 189 19:=by unfold vM;kernel_rfl
theorem DW:vM Tryz.prog 198 16:=by unfold vM;kernel_rfl
theorem GL:vM Tryz.prog 47 4:=by unfold vM;kernel_rfl
theorem CR:vM Tryz.prog 74 4:=by unfold vM;kernel_rfl
theorem Kq:vM Tryz.prog 86 5:=by unfold vM;kernel_rfl
theorem Cg:vM Tryz.prog 88 5:=by unfold vM;kernel_rfl
theorem An:vM Tryz.prog 89 5:=by unfold vM;kernel_rfl
theorem Ds:Mj Tryz.prog 140 67:=fun _ _ _ => κ
theorem Eg:xU Tryz.prog 109 ([.int .u32 0,.int .i32 0,.int .u32 0,.slice none 0 0]):=⟨_,_,rfl,rfl,κ⟩
theorem I8:xU Tryz.prog 110 ([.int .u32 0,.int .i32 0,.int .u32 0,.slice none 0 0,.int .u32 0,.int .i32 0,.int .u32 0,.slice none 0 0,.int .u32 0,.int .i32 0,.int .u32 0,.slice none 0 0,.int .u32 0,.int .i32 0,.int .u32 0,.slice none 0 0]):=⟨_,_,rfl,rfl,κ⟩
theorem IY:xU Tryz.prog 111 ([.bool false,.bool false,.bool false,.bool false]):=⟨_,_,rfl,rfl,κ⟩
theorem tB:xU Tryz.prog 134 ([.map none,.int .i64 0]):=⟨_,_,rfl,rfl,κ⟩
theorem I2:xU Tryz.prog 159 ([.slice none 0 0]++List.replicate 128 (.int .u32 0)):=⟨_,_,rfl,rfl,κ⟩
theorem DQ:xU Tryz.prog 166 ([.int .i64 0,.int .i64 0,.int .i64 0]):=⟨_,_,rfl,rfl,κ⟩
theorem IV:xU Tryz.prog 187 ([.int .u32 0,.int .u32 0]):=⟨_,_,rfl,rfl,κ⟩
theorem D_:xU Tryz.prog 189 (List.replicate 19 (.int .u32 0)):=⟨_,_,rfl,rfl,κ⟩
theorem v7:xU Tryz.prog 198 (List.replicate 16 (.int .u32 0)):=⟨_,_,rfl,rfl,κ⟩
theorem Dr:xU Tryz.prog 22 ([.slice none 0 0]):=⟨_,_,rfl,rfl,κ⟩
theorem GS:xU Tryz.prog 3 ([.int .i64 0]):=⟨_,_,rfl,rfl,κ⟩
theorem H8:xU Tryz.prog 47 ([.int .i64 0,.int .i64 0,.int .i64 0,.slice none 0 0]):=⟨_,_,rfl,rfl,κ⟩
theorem Db:xU Tryz.prog 74 ([.int .i64 0,.int .i64 0,.int .i64 0,.int .i64 0]):=⟨_,_,rfl,rfl,κ⟩
theorem HH:xU Tryz.prog 84 ([.slice none 0 0]):=⟨_,_,rfl,rfl,κ⟩
theorem KR:xU Tryz.prog 86 ([.slice none 0 0,.slice none 0 0,.slice none 0 0,.slice none 0 0,.slice none 0 0]):=⟨_,_,rfl,rfl,κ⟩
theorem CK:xU Tryz.prog 88 ([.int .u32 0,.int .i64 0,.int .i64 0,.int .i64 0,.int .i64 0]):=⟨_,_,rfl,rfl,κ⟩
theorem zX:xU Tryz.prog 89 ([.int .i64 0,.int .i64 0,.int .i64 0,.int .i64 0,.int .i64 0]):=⟨_,_,rfl,rfl,κ⟩
theorem HO:xU Tryz.prog 91 ([.slice none 0 0,.slice none 0 0,.slice none 0 0,.slice none 0 0,.slice none 0 0]):=⟨_,_,rfl,rfl,κ⟩
abbrev nG:Nat:=11
def eT:List Nat:=[24,7,23,25,40,6,39,41,22,26,38,42,56,5,55,57,21,27,54,58,37,43,72,4,71,73,20,28,53,59,70,74,36,44,88,69,75,52,60,3,87,89,19,29,86,90,35,45,68,76,85,91,51,61,104,2,103,105,18,30,102,106,34,46,84,92,67,77,101,107,50,62,120,1,119,121,83,93,17,31,100,108,66,78,118,122,33,47,117,123,49,63,99,109,82,94,0,116,124,65,79,16,32,98,110,48,115,125,81,95,64,114,126,97,111,80,113,127,96,112]
def bY:List Nat:=[17,18,0,1,2,3,4,5,16,6,7,8,9,10,11,12,13,14,15]
def mO:List Nat:=[2,3,7]
def kU:List Nat:=[3,3,11]
def dM:List Nat:=[280,256,256,256,40]
def gq:List Nat:=[0,128,64,192,32,160,96,224,16,144,80,208,48,176,112,240,8,136,72,200,40,168,104,232,24,152,88,216,56,184,120,248,4,132,68,196,36,164,100,228,20,148,84,212,52,180,116,244,12,140,76,204,44,172,108,236,28,156,92,220,60,188,124,252,2,130,66,194,34,162,98,226,18,146,82,210,50,178,114,242,10,138,74,202,42,170,106,234,26,154,90,218,58,186,122,250,6,134,70,198,38,166,102,230,22,150,86,214,54,182,118,246,14,142,78,206,46,174,110,238,30,158,94,222,62,190,126,254,1,129,65,193,33,161,97,225,17,145,81,209,49,177,113,241,9,137,73,201,41,169,105,233,25,153,89,217,57,185,121,249,5,133,69,197,37,165,101,229,21,149,85,213,53,181,117,245,13,141,77,205,45,173,109,237,29,157,93,221,61,189,125,253,3,131,67,195,35,163,99,227,19,147,83,211,51,179,115,243,11,139,75,203,43,171,107,235,27,155,91,219,59,187,123,251,7,135,71,199,39,167,103,231,23,151,87,215,55,183,119,247,15,143,79,207,47,175,111,239,31,159,95,223,63,191,127,255]
theorem nW (w:World) (r sb so n cap i:Nat) (pr:Int) (c:Nat)
  (hb:ff w r [.slice (some ⟨sb,so,none⟩) n cap,.int .i64 i,.int .i64 pr] 124)
  (hc:w.cell? ⟨sb,so+i,none⟩=some (.int .u8 c)) (hsb:sb≠r) (hi:i<n) (hn:n≤9223372036854775807) :
  Calls Tryz.prog 107 #[pT r] w fun e w' => e=.returned (.tuple #[.int .u8 c,.nilIface]) ∧
   ff w' r [.slice (some ⟨sb,so,none⟩) n cap,iT (i+1),.int .i64 (-1)] 124∧cf [r] w w':=by
 have H:=gQ hb
 have hS:sb ∉ [r]:=by simpa using hsb
 refine enter (m:=37) Tryz.func107 O Tryz.ntmps107 O (Cy (az O (bI O (Lt (Cy (bH O (aK O (aU BD O (bC H 0 k_ O O O O ?_)))))))))
 intro w H
 refine Lt (Cs (Cs (Cd aJ κ ?_)))
 intro w hsame
 replace H:=H.same hsame
 refine mY O (du O (dD ql O (aD Ix O (H.cell 0 O O) (mY O (du O (dD wF O (aD jg O (H.cell 0 O O) (Sp (dx am O) (Sp (ou O O) (Sn (tn (CF O ω (Ck (tn (Cs (Cd aJ κ ?_))))))))))))))))
 intro w hsame
 replace H:=H.same hsame
 refine mY O (du O (dD wF O (aD jg O (H.cell 0 O O) (mY O (du O (dD ql O (aD Ix O (H.cell 0 O O) (Sp (ci _ am O O O ω) (aD aQ O (H.old hc hS) (oZ O (Sn (tn (Cy (bH O (aK O (aU ql O (aC Ix O (H.cell 0 O O) (ao O O (fg ω) ?_))))))))))))))))))
 refine aK O (aU ql O (bC H 0 L9 O O O O ?_))
 intro w H
 refine Lt (Cy (ai O (az O (bI O (Lt (Ct ?_))))))
 exact cr O O O ⟨O,H.blk (i:=0) rfl,H.frm⟩
theorem oF (w:World) (r sb so n cap i:Nat) (pr:Int) (v:Value)
  (hb:ff w r [.slice (some ⟨sb,so,none⟩) n cap,.int .i64 i,.int .i64 pr] 124)
  (hv:w.cell? ⟨1,0,none⟩=some v) (hg:1<r) (hi:n≤i) (hn:n≤9223372036854775807) :
  Calls Tryz.prog 107 #[pT r] w fun e w' => e=.returned (.tuple #[.int .u8 0,v]) ∧
   ff w' r [.slice (some ⟨sb,so,none⟩) n cap,.int .i64 i,.int .i64 (-1)] 124∧cf [r] w w':=by
 have H:=gQ hb
 have hS:1 ∉ [r]:=by simp;omega
 refine enter (m:=37) Tryz.func107 O Tryz.ntmps107 O (Cy (az O (bI O (Lt (Cy (bH O (aK O (aU BD O (bC H 0 k_ O O O O ?_)))))))))
 intro w H
 refine Lt (Cs (Cs (Cd aJ κ ?_)))
 intro w hsame
 replace H:=H.same hsame
 refine mY O (du O (dD ql O (aD Ix O (H.cell 0 O O) (mY O (du O (dD wF O (aD jg O (H.cell 0 O O) (Sp (dx am O) (Sp (ou O O) (Sn (tn (CT O ω (Cs (Cd aJ κ ?_))))))))))))))
 intro w hsame
 replace H:=H.same hsame
 refine aD nk O (H.old hv hS) (oZ O (Mb O (Sn (tn (Ct (aE ?_))))))
 exact cr O O O ⟨O,H.blk (i:=0) rfl,H.frm⟩
def eP (Q:cY):Prop:=∀ c ρ w,¬ Q (.panic c) ρ w
theorem fB {K:dK→World→Prop} {Q:cY} (h:eP Q):eP (Ey K Q):=h
theorem eP.blk {id:Nat} {Q:cY} (h:eP Q):eP (blk id Q):=h
theorem fy {l:Nat} {J:dK→World→Prop} {Q:cY} (h:eP Q):eP (K9 l J Q):=h
theorem dP {Q:cY} (h:eP Q):eP (DT Q):=h
theorem eP.done {P:Program} {fn:Func} {R:Ending→World→Prop}:eP (aO P fn R):=fun _ _ _ h => h
def VH (P:Program) (n:Nat) (ops:Array Oper) (Q:cY) (I:World→Prop) (fuel:Nat) (listed:Array Bool) (ρ:dK) (w:World):Prop :=
 eP Q→∀ a,Fr n ρ a→wpAnyH P .any ops (FN n Q) I fuel listed a w
section
variable {P:Program} {n:Nat} {Q:cY} {I:World→Prop} {fuel:Nat} {listed:Array Bool} {ρ:dK} {w:World} {l:List Oper}
theorem VC.held {id:Nat} (I:World→Prop) (hm:P.follows .mixedOrders=true) (hQ:eP Q)
  (h:∀ w',CI w w'→VH P n l.toArray Q I l.length (Array.replicate l.length false) ρ w'):VC P n (.region id l.toArray true) Q ρ w:=fun a ha => by
 refine wp_region_held (S:=I) hm ?_
 have:=h w.drew ⟨rfl,rfl,rfl,rfl⟩ hQ a ha
 simpa using this
theorem Ht (i:Nat) {op:Op} {ty:TypeId} {pos:String} {after:Array Edge} {d:Nat} {v:Value} (hi:l[i]?=some ⟨some d,op,ty,pos,after,none⟩)
  (hs:Region.noSelect l.toArray=true) (hf:Region.free .any l.toArray listed i=true) (hr:(Region.ready .any l.toArray listed).contains i=true)
  (hd:Nat.blt d n=true) (hI:I w) (hy:∀ w,I w→dE P (ev ρ) ⟨some d,op,ty,pos,after,none⟩ w v w)
  (h:VH P n l.toArray Q I fuel (listed.setIfInBounds i true) (eW ρ d v) w):VH P n l.toArray Q I (fuel+1) listed ρ w:=fun hQ a ha =>
 wpAnyH_take (oi:=⟨some d,op,ty,pos,after,none⟩) (v:=v) (by simpa using hi) hs hf hr (fun c a w ⟨ρ,_,hq⟩ => absurd hq (hQ c ρ w))
  (.inl ⟨by simp [Region.wanted],fun w hw => by rw [ha.eval];exact hy w hw⟩) hI (h hQ _ (ha.put hd v))
theorem JA (i:Nat) {op:Op} {ty:TypeId} {pos:String} {after:Array Edge} {d:Nat} {v:Value} {w':World} (hi:l[i]?=some ⟨some d,op,ty,pos,after,none⟩)
  (hr:Region.ready .any l.toArray listed=[i]) (hd:Nat.blt d n=true) (hy:dE P (ev ρ) ⟨some d,op,ty,pos,after,none⟩ w v w') (hI:I w')
  (h:VH P n l.toArray Q I fuel (listed.setIfInBounds i true) (eW ρ d v) w'):VH P n l.toArray Q I (fuel+1) listed ρ w:=fun hQ a ha => by
 refine wpAnyH_all hr (by simp) fun j hj => ?_
 obtain rfl:j=i:=by simpa using hj
 unfold wpOp
 simp only [show l.toArray[j]?=some ⟨some d,op,ty,pos,after,none⟩ by simpa using hi]
 rw [if_pos (by simp [Region.wanted])]
 refine .inl ?_
 unfold Oper.wp
 rw [ha.eval,hy]
 exact ⟨hI,h hQ _ (ha.put hd v)⟩
theorem y7 (i:Nat) {op:Op} {ty:TypeId} {pos:String} {after:Array Edge} {w':World} (hi:l[i]?=some ⟨none,op,ty,pos,after,none⟩)
  (hr:Region.ready .any l.toArray listed=[i]) (hy:IW P (ev ρ) ⟨none,op,ty,pos,after,none⟩ w w') (hI:I w')
  (h:VH P n l.toArray Q I fuel (listed.setIfInBounds i true) ρ w'):VH P n l.toArray Q I (fuel+1) listed ρ w:=fun hQ a ha => by
 refine wpAnyH_all hr (by simp) fun j hj => ?_
 obtain rfl:j=i:=by simpa using hj
 unfold wpOp
 simp only [show l.toArray[j]?=some ⟨none,op,ty,pos,after,none⟩ by simpa using hi]
 rw [if_pos (by simp [Region.wanted])]
 refine .inl ?_
 unfold Oper.wp
 rw [ha.eval,hy]
 exact ⟨hI,h hQ _ ha⟩
theorem gA (i:Nat) {f:FuncId} {xs:Array Operand} {ts:Array TypeId} {ty:TypeId} {pos:String} {after:Array Edge} {d:Nat} {vs:List Value} {R:Ending→World→Prop}
  (hi:l[i]?=some ⟨some d,.call ⟨.value (.func f),xs,ts⟩,ty,pos,after,none⟩) (hr:Region.ready .any l.toArray listed=[i])
  (hd:Nat.blt d n=true) (he:fZ P f) (hc:Calls P f vs.toArray w R) (hx:xs.toList.map (ev ρ)=vs)
  (h:∀ e w',R e w'→∃ v,e=.returned v∧I w'∧VH P n l.toArray Q I fuel (listed.setIfInBounds i true) (eW ρ d v) w'):VH P n l.toArray Q I (fuel+1) listed ρ w:=fun hQ a ha => by
 refine wpAnyH_all hr (by simp) fun j hj => ?_
 obtain rfl:j=i:=by simpa using hj
 unfold wpOp
 simp only [show l.toArray[j]?=some ⟨some d,.call ⟨.value (.func f),xs,ts⟩,ty,pos,after,none⟩ by simpa using hi]
 rw [if_pos (by simp [Region.wanted])]
 refine .inl ?_
 have hr:(execOp (ev ρ) ⟨some d,.call ⟨.value (.func f),xs,ts⟩,ty,pos,after,none⟩).run P w=.ok (.enter f vs.toArray) w:=by
  have hx:xs.map (ev ρ)=vs.toArray:=by apply Array.ext';rw [Array.toList_map,hx]
  have:=he vs.toArray w
  simp only [execOp,resolve,Deferred.ofValue,ev,Sem.run_bind,Sem.run_pure,Result.andThen_ok,hx,Go.invoke,Array.append_empty]
  simpa using this
 unfold Oper.wp
 rw [ha.eval,hr]
 refine hc.mono fun e w' hR => ?_
 obtain ⟨v,rfl,hI,hv⟩:=h e w' hR
 exact ⟨hI,hv hQ _ (ha.put hd v)⟩
theorem kR (i:Nat) {f:FuncId} {xs:Array Operand} {ts:Array TypeId} {ty:TypeId} {pos:String} {after:Array Edge} {d:Nat} {vs:List Value} {v:Value}
  (hi:l[i]?=some ⟨some d,.call ⟨.value (.func f),xs,ts⟩,ty,pos,after,none⟩) (hr:Region.ready .any l.toArray listed=[i])
  (hd:Nat.blt d n=true) (he:fZ P f) (hc:Calls P f vs.toArray w fun e w' => e=.returned v∧w'=w) (hx:xs.toList.map (ev ρ)=vs) (hI:I w)
  (h:VH P n l.toArray Q I fuel (listed.setIfInBounds i true) (eW ρ d v) w):VH P n l.toArray Q I (fuel+1) listed ρ w :=
 gA i hi hr hd he hc hx fun e w' hR => ⟨v,hR.1,hR.2 ▸ hI,hR.2 ▸ h⟩
theorem g7 (hr:Region.ready .any l.toArray listed=[]) (h:Q .normal ρ w):VH P n l.toArray Q I fuel listed ρ w:=fun _ a ha => wpAnyH_done hr ⟨ρ,ha,h⟩ fuel
end
theorem JY {P:Program} {n:Nat} {Q:cY} {fuel:Nat} {listed:Array Bool} {ρ:dK} {w w0:World} {S:List Nat} {lo:List Oper} {l:List e_} {ty t tt:TypeId} {pos:String} {after:Array Edge} {x y:Operand} {b off:Nat} {cs:List Value} {v old:Value}
  (i:Nat) (hio:lo[i]?=some ⟨none,.store t x y,ty,pos,after,none⟩) (hr:Region.ready .any lo.toArray listed=[i]) (H:St w0 S l w) (j:Nat) (F:vK P t) (hx:ev ρ x=.pointer (some ⟨b,off,none⟩)) (hi:l[j]?=some (aa b cs tt)) (hy:ev ρ y=v) (hv:v.oneCell'=true) (hc:cs[off]?=some old)
  (h:∀ w',St w0 S (l.set j (aa b (cs.set off v) tt)) w'→VH P n lo.toArray Q (cf S w0) fuel (listed.setIfInBounds i true) ρ w'):VH P n lo.toArray Q (cf S w0) (fuel+1) listed ρ w :=
 y7 i hio hr (td F hx hy hv (H.cell j hi hc) (H.fz j hi)) (H.put j v hi).frm (h _ (H.put j v hi))
theorem I0 {P:Program} {n:Nat} {Q:cY} {fuel:Nat} {listed:Array Bool} {ρ:dK} {w w0:World} {S:List Nat} {lo:List Oper} {l:List e_} {ty t:TypeId} {pos:String} {after:Array Edge} {x y:Operand} {d el by_:Nat} {zs:List Value} {kl kc:IntKind} {m c:Int}
  (i:Nat) (hio:lo[i]?=some ⟨some d,.makeSlice t x y,ty,pos,after,none⟩) (hrd:Region.ready .any lo.toArray listed=[i]) (H:St w0 S l w) (F:MK P t el by_ zs) (lN cN:Nat) (hx:ev ρ x=.int kl m) (hy:ev ρ y=.int kc c) (hm:m=(lN:Int)) (hc:c=(cN:Int)) (hlc:lN≤cN) (hb:by_ * cN≤281474976710656) (h63:cN≤9223372036854775807) (hd:Nat.blt d n=true)
  (h:∀ w' b,w.heap.size≤b→w0.heap.size≤b→St w0 S (aa b (dk cN zs) el :: l) w'→VH P n lo.toArray Q (cf S w0) fuel (listed.setIfInBounds i true) (eW ρ d (.slice (aT b) lN cN)) w') :
  VH P n lo.toArray Q (cf S w0) (fuel+1) listed ρ w:=by
 subst hm hc
 obtain ⟨hu,i2,z,h1,h2,h3,h4,h5⟩:=F
 subst h5
 have hb':((i2.bytes * cN:Nat):Int)≤281474976710656:=ω
 rw [Int.natCast_mul] at hb'
 have hr:=run_make (P:=P) w t el i2 z hu h1 h2 kl kc lN cN ω ω hb' ω
 have e:madeCells z.cells ((cN:Int).toNat * i2.size)=(dk cN zs).toArray:=by
  have:=iE zs cN
  rw [← this,h4,← h3]
  rfl
 rw [e] at hr
 simp only [Int.toNat_natCast] at hr
 refine JA i hio hrd hd (v:=.slice (some ⟨w.heap.size,0,none⟩) lN cN) (w':=w.alloc (.cells (dk cN zs).toArray el)) ?_ (H.new _ el).frm (h _ _ (Nat.le_refl _) H.high (H.new _ el))
 unfold dE
 simp only [execOp,hx,hy,Sem.run_bind,hr,Result.andThen_ok]
 rfl
theorem ph {P:Program} {n:Nat} {Q:cY} {I:World→Prop} {fuel:Nat} {listed:Array Bool} {ρ:dK} {w w0:World} {S:List Nat} {lo:List Oper} {l:List e_} {ty t tt:TypeId} {pos:String} {after:Array Edge} {x y:Operand} {b off:Nat} {cs:List Value} {v old:Value}
  (i:Nat) (hio:lo[i]?=some ⟨none,.store t x y,ty,pos,after,none⟩) (hr:Region.ready .any lo.toArray listed=[i]) (H:St w0 S l w) (j:Nat) (F:vK P t) (hx:ev ρ x=.pointer (some ⟨b,off,none⟩)) (hi:l[j]?=some (aa b cs tt)) (hy:ev ρ y=v) (hv:v.oneCell'=true) (hc:cs[off]?=some old)
  (h:∀ w',cf [b] w w'→St w0 S (l.set j (aa b (cs.set off v) tt)) w'→I w'∧VH P n lo.toArray Q I fuel (listed.setIfInBounds i true) ρ w'):VH P n lo.toArray Q I (fuel+1) listed ρ w :=
 have hh:=h _ (cf.put w _ v (by simp)) (H.put j v hi)
 y7 i hio hr (td F hx hy hv (H.cell j hi hc) (H.fz j hi)) hh.1 hh.2
theorem zu {P:Program} {n:Nat} {Q:cY} {fuel:Nat} {listed:Array Bool} {ρ:dK} {w w0:World} {S:List Nat} {lo:List Oper} {l:List e_} {ty t tt:TypeId} {pos:String} {after:Array Edge} {x y:Operand} {b off:Nat} {cs:List Value} {k:IntKind} {m:Int} {old:Value}
  (i:Nat) (hio:lo[i]?=some ⟨none,.store t x y,ty,pos,after,none⟩) (hr:Region.ready .any lo.toArray listed=[i]) (H:St w0 S l w) (j:Nat) (F:vK P t) (hx:ev ρ x=.pointer (some ⟨b,off,none⟩)) (hi:l[j]?=some (aa b cs tt)) (hy:ev ρ y=.int k m) (hc:cs[off]?=some old)
  (h:∀ w',St w0 S (l.set j (aa b (cs.set off (.int k m)) tt)) w'→VH P n lo.toArray Q (cf S w0) fuel (listed.setIfInBounds i true) ρ w'):VH P n lo.toArray Q (cf S w0) (fuel+1) listed ρ w:=JY i hio hr H j F hx hi hy rfl hc h
abbrev aM:=List Bool
def val:aM→Nat
 | [] => 0
 | b :: r => b.toNat+2 * val r
theorem uO:∀ l:aM,val l<2 ^ l.length
 | [] => by simp [val]
 | b :: r => by
  have:=uO r
  have hb:b.toNat≤1:=Bool.toNat_le b
  simp only [val,List.length_cons,Nat.pow_succ]
  omega
theorem pj:∀ a b:aM,val (a++b)=val a+2 ^ a.length * val b
 | [],b => by simp [val]
 | x :: a,b => by
  have h:=pj a b
  simp only [List.cons_append,val,List.length_cons,Nat.pow_succ,h]
  rw [Nat.mul_comm (2 ^ a.length) 2,Nat.mul_assoc]
  omega
theorem A7 (l:aM) (n:Nat):val (l.take n)=val l % 2 ^ n:=by
 induction l generalizing n with
 | nil => simp [val]
 | cons b r ih =>
  cases n with
  | zero => simp [val,Nat.mod_one]
  | succ n =>
   have hb:b.toNat≤1:=Bool.toNat_le b
   simp only [List.take_succ_cons,val,ih,Nat.pow_succ]
   rw [Nat.mul_comm (2 ^ n) 2,Nat.mod_mul,show (b.toNat+2 * val r) / 2=val r by omega]
   omega
theorem Gg (l:aM) (n:Nat):val (l.drop n)=val l / 2 ^ n:=by
 induction l generalizing n with
 | nil => simp [val]
 | cons b r ih =>
  cases n with
  | zero => simp [val]
  | succ n =>
   have hb:b.toNat≤1:=Bool.toNat_le b
   simp only [List.drop_succ_cons,val,ih,Nat.pow_succ]
   rw [Nat.mul_comm (2 ^ n) 2,← Nat.div_div_eq_div_mul]
   congr 1
   omega
def aV:Nat→Nat→aM
 | _,0 => []
 | c,n+1 => (c % 2 == 1) :: aV (c / 2) n
theorem kZ:∀ (c n:Nat),(aV c n).length=n
 | _,0 => rfl
 | c,n+1 => by simp [aV,kZ]
theorem mK:∀ (c n:Nat),val (aV c n)=c % 2 ^ n
 | c,0 => by simp [aV,val,Nat.mod_one]
 | c,n+1 => by
  have h:=mK (c / 2) n
  simp only [aV,val,h,Nat.pow_succ]
  rw [Nat.mul_comm (2 ^ n) 2,Nat.mod_mul]
  have hb:(c % 2 == 1).toNat=c % 2:=by
   rcases Nat.mod_two_eq_zero_or_one c with h | h <;> simp [h]
  omega
theorem oa:∀ l:aM,aV (val l) l.length=l
 | [] => rfl
 | b :: r => by
  have h:=oa r
  simp only [val,List.length_cons,aV]
  have h2:(b.toNat+2 * val r) / 2=val r:=by have:=Bool.toNat_le b;omega
  have h3:((b.toNat+2 * val r) % 2 == 1)=b:=by cases b <;> simp <;> omega
  rw [h2,h3,h]
def kI (c:Nat):aM:=aV c 8
def fi (s:List Nat):aM:=s.flatMap kI
theorem nD (c:Nat) (s:List Nat):fi (c :: s)=kI c++fi s:=rfl
theorem ie (c:Nat):(kI c).length=8:=kZ c 8
theorem nU:∀ s:List Nat,(fi s).length=8 * s.length
 | [] => rfl
 | c :: s => by rw [nD,List.length_append,ie,nU s,List.length_cons];omega
theorem vE (s:List Nat) (i:Nat) (h:i<s.length):fi (s.drop i)=kI s[i]++fi (s.drop (i+1)):=by
 rw [List.drop_eq_getElem_cons h,nD]
structure xv (s:List Nat) (R:aM) (i nb:Nat):Prop where
 i_le:i≤s.length
 nb_le:nb≤R.length
 rest:R.drop nb=fi (s.drop i)
theorem xv.length {s:List Nat} {R:aM} {i nb:Nat} (h:xv s R i nb):R.length=nb+8 * (s.length - i):=by
 have:=congrArg List.length h.rest
 rw [List.length_drop,nU,List.length_drop] at this
 have:=h.nb_le
 omega
theorem xv.more {s:List Nat} {R:aM} {i nb:Nat} (h:xv s R i nb) (hi:i<s.length):xv s R (i+1) (nb+8):=by
 have hl:=h.length
 refine ⟨hi,ω,?_⟩
 rw [← List.drop_drop,h.rest,vE s i hi]
 have:(kI s[i]).length=8:=ie _
 rw [← this,List.drop_left]
theorem xv.val_more {s:List Nat} {R:aM} {i nb:Nat} (h:xv s R i nb) (hi:i<s.length) (hc:s[i]<256):val (R.take (nb+8))=val (R.take nb)+s[i] * 2 ^ nb:=by
 have h1:R.take (nb+8)=R.take nb++kI s[i]:=by
  have h8:(kI s[i]).length=8:=ie _
  rw [List.take_add,h.rest,vE s i hi]
  congr 1
 have hl:(R.take nb).length=nb:=by rw [List.length_take];have:=h.nb_le;omega
 rw [h1,pj,hl,kI,mK]
 rw [Nat.mod_eq_of_lt ω,Nat.mul_comm]
theorem xv.less {s:List Nat} {R:aM} {i nb:Nat} (h:xv s R i nb) {n:Nat} (hn:n≤nb):xv s (R.drop n) i (nb - n):=by
 refine ⟨h.i_le,by rw [List.length_drop];have:=h.nb_le;omega,?_⟩
 rw [List.drop_drop,show n+(nb - n)=nb by omega,h.rest]
theorem oX {R:aM} {nb n:Nat} (hn:n≤nb) (hnb:nb≤R.length):val ((R.drop n).take (nb - n))=val (R.take nb) / 2 ^ n:=by
 rw [← Gg,List.drop_take]
theorem AD {R:aM} {nb n:Nat} (hn:n≤nb):val (R.take n)=val (R.take nb) % 2 ^ n:=by
 rw [← A7,List.take_take,Nat.min_eq_left hn]
theorem bK (R:aM) (n:Nat):val (R.take n)<2 ^ n:=by
 rw [A7];exact Nat.mod_lt _ (Nat.two_pow_pos n)
theorem Jd {a b n:Nat} (ha:a<2 ^ n) (hb:a+b * 2 ^ n<2 ^ 32):H9 .u32 (a:Int) ((b * 2 ^ n:Nat):Int)=((a+b * 2 ^ n:Nat):Int):=by
 have hn:(a ||| b * 2 ^ n)=a+b * 2 ^ n:=by
  have:=Nat.shiftLeft_add_eq_or_of_lt ha b
  rw [Nat.shiftLeft_eq] at this
  rw [Nat.or_comm,← this,Nat.add_comm]
 have h1:a<2 ^ 32:=ω
 have h2:b * 2 ^ n<2 ^ 32:=ω
 show IntKind.u32.wrap _=_
 rw [vd]
 show ((BitVec.ofInt 32 (a:Int) ||| BitVec.ofInt 32 ((b * 2 ^ n:Nat):Int)).toNat:Int) % 4294967296=_
 rw [BitVec.toNat_or,BitVec.ofInt_natCast,BitVec.ofInt_natCast,BitVec.toNat_ofNat,BitVec.toNat_ofNat,Nat.mod_eq_of_lt h1,Nat.mod_eq_of_lt h2,hn]
 omega
theorem t8 {a n:Nat} (ha:a<2 ^ 32) (hn:n≤31):sL .u32 (a:Int) ((2 ^ n - 1:Nat):Int)=((a % 2 ^ n:Nat):Int):=by
 have hp:(2:Nat) ^ n<2 ^ 32:=Nat.pow_lt_pow_right ω ω
 have h2:2 ^ n - 1<2 ^ 32:=ω
 show IntKind.u32.wrap _=_
 rw [vd]
 show ((BitVec.ofInt 32 (a:Int) &&& BitVec.ofInt 32 ((2 ^ n - 1:Nat):Int)).toNat:Int) % 4294967296=_
 rw [BitVec.toNat_and,BitVec.ofInt_natCast,BitVec.ofInt_natCast,BitVec.toNat_ofNat,BitVec.toNat_ofNat,Nat.mod_eq_of_lt ha,Nat.mod_eq_of_lt h2,Nat.and_two_pow_sub_one_eq_mod]
 have:a % 2 ^ n≤a:=Nat.mod_le _ _
 omega
theorem xM {a n:Nat} (hn:n≤31) (h:a * 2 ^ n<2 ^ 32):IntKind.u32.wrap ((a:Int) * 2 ^ min (n:Int).toNat IntKind.u32.bits)=((a * 2 ^ n:Nat):Int):=by
 have:min (n:Int).toNat IntKind.u32.bits=n:=by
  simp only [Int.toNat_natCast]
  exact Nat.min_eq_left (by show n≤32;omega)
 rw [this,vd]
 have:((a:Int) * 2 ^ n)=((a * 2 ^ n:Nat):Int):=by simp
 rw [this]
 omega
theorem rS {a n:Nat} (hn:n≤31):(a:Int).fdiv (2 ^ min (n:Int).toNat IntKind.u32.bits)=((a / 2 ^ n:Nat):Int):=by
 have:min (n:Int).toNat IntKind.u32.bits=n:=by
  simp only [Int.toNat_natCast]
  exact Nat.min_eq_left (by show n≤32;omega)
 rw [this,show ((2:Int) ^ n)=((2 ^ n:Nat):Int) by simp,Int.fdiv_eq_ediv_of_nonneg _ (Int.natCast_nonneg _)]
 exact (Int.natCast_ediv a (2 ^ n)).symm
end Go.Proofs.YtmgemcffhbnpfaaGreatDoor
