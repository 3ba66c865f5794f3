/-
  A picture is written and read: part 9 of 13 (Len, LenP, Ops4, LenA, RunsP, Runs, TokP, Sym, Ops5, Dist, TransP).
-/
import Derived.Test.YtinkhckpckfajaaDoorA08
import Derived.Laws.Small
set_option linter.unusedVariables false
set_option linter.unusedSimpArgs false
set_option maxRecDepth 100000
set_option maxHeartbeats 1000000
namespace Go.Proofs.YtinkhckpckfajaaDoor
open Go
theorem VecOk.pre {w:World} {g c e n c' m:Nat} {xs:List Value} (h:VecOk w (some ⟨g,0,none⟩) c e 1 n xs) (hm:m≤n) (hmc:m≤c') (hc:c'≤c):VecOk w (some ⟨g,0,none⟩) c' e 1 m (xs.take m):=by
 rcases h with ⟨h0,_⟩ | ⟨g',cur,h0,h1,h2,h3,h4,rfl⟩
 ·cases h0
 ·cases h0
  exact .inr ⟨g,cur,rfl,h1,hmc,by omega,by omega,by rw [List.take_take];congr 1;omega⟩
theorem Y.slice3 {P:Program} {e:Operand→Value} {d:Option Tmp} {ty:TypeId} {pos:String} {after:Array Edge} {g:Option (Nat × Bool)} {w:World} {t:TypeId} {x hi mx:Operand} {k k':IntKind} {m m':Int} {el size:Nat} {b off l c:Nat} (j:Nat) (F:SL P t el size) (hx:e x=.slice (some ⟨b,off,none⟩) l c) (h1:e hi=.int k m) (h2:e mx=.int k' m') (hp:m=(j:Int)) (hq:m'=(j:Int)) (hj:j≤c) :
  Yld P e ⟨d,.slice t x none (some hi) (some mx),ty,pos,after,g⟩ w (.slice (some ⟨b,off,none⟩) j j) w:=by
 subst hp hq
 unfold Yld
 simp only [execOp,hx,Option.map_none,Option.map_some,h1,h2,Sem.run_bind,Instr.sliceAt,Instr.slice,run_underlying F.1,Result.andThen_ok,Instr.sliceBounds,Instr.sliceBound,asIntOf,Sem.run_pure,if_pos (show 0≤(j:Int)∧(j:Int)≤(c:Int) by omega),if_pos (show 0≤(j:Int)∧(j:Int)≤(j:Int) by omega),Int.toNat_natCast,siz F.2 w]
 by_cases hc:j=0
 ·subst hc
  simp
 ·rw [if_neg hc]
  simp [Addr.add]
theorem Y.sliceLx {P:Program} {e:Operand→Value} {d:Option Tmp} {ty:TypeId} {pos:String} {after:Array Edge} {g:Option (Nat × Bool)} {w:World} {t:TypeId} {x lo:Operand} {k:IntKind} {m:Int} {el size:Nat} {b off l c:Nat} (p:Nat) (F:SL P t el size) (hx:e x=.slice (some ⟨b,off,none⟩) l c) (h1:e lo=.int k m) (hp:m=(p:Int)) (hpq:p≤l) :
  Yld P e ⟨d,.slice t x (some lo) none none,ty,pos,after,g⟩ w (.slice (some ⟨b,if c=p then off else off+p * size,none⟩) (l - p) (c - p)) w:=by
 subst hp
 unfold Yld
 simp only [execOp,hx,Option.map_none,Option.map_some,h1,Sem.run_bind,Instr.sliceAt,Instr.slice,run_underlying F.1,Result.andThen_ok,Instr.sliceBounds,Instr.sliceBound,asIntOf,Sem.run_pure,if_pos (show 0≤(p:Int)∧(p:Int)≤(l:Int) by omega),Int.toNat_natCast,siz F.2 w]
 by_cases hc:c=p
 ·rw [if_pos hc,if_pos hc]
 ·rw [if_neg hc,if_neg hc]
  simp [Addr.add]
def setAll (out:List Nat) (l:List (Nat × Nat)):List Nat:=l.foldl (fun o q => o.set q.1 q.2) out
theorem kraft_set:∀ (out:List Nat) (s v:Nat),s<out.length→out.getD s 0=0→kraft (out.set s v)=kraft out+room v
 | [],s,v,h,_ => by simp at h
 | a :: out,0,v,h,h0 => by
  simp at h0
  subst h0
  simp [kraft,room]
  omega
 | a :: out,s+1,v,h,h0 => by
  have:=kraft_set out s v (by simpa using h) (by simpa using h0)
  simp only [kraft,List.set_cons_succ,List.map_cons,List.sum_cons] at this ⊢
  omega
def usedL (u:Nat→Bool) (i:Nat):List Nat:=(List.range i).filter u
theorem usedL_succ (u:Nat→Bool) (i:Nat):usedL u (i+1)=if u i then usedL u i++[i] else usedL u i:=by
 unfold usedL
 rw [List.range_succ,List.filter_append]
 split
 next h => simp [h]
 next h => simp [h]
theorem usedL_le (u:Nat→Bool) (i:Nat):(usedL u i).length≤i:=by
 have:=List.length_filter_le u (List.range i)
 simpa [usedL] using this
structure LenOk (u:Nat→Bool) (n most:Nat) (ls:List Nat):Prop where
 len:ls.length=n
 used:∀ s,s<n→(ls.getD s 0≠0 ↔ u s=true)
 most:∀ x ∈ ls,x≤most
 full:2≤(usedL u n).length→kraft ls=2 ^ 15
 one:∀ s,usedL u n=[s]→ls.getD s 0=1
structure SkOk (u:Nat→Bool) (n m0:Nat) (l out:List Nat) (long:Nat):Prop where
 len:out.length=n
 nodup:l.Nodup
 inl:∀ s ∈ l,s<n∧out.getD s 0=0
 used:∀ s,s<n→(u s=true ↔ out.getD s 0≠0∨s ∈ l)
 fits:l≠[]→kraft out+2 ^ (15 - long)=2 ^ 15
 le:∀ x ∈ out,x≤long
 sum:long+l.length=m0
theorem getD_set (l:List Nat) (s x v:Nat) (hs:s<l.length):(l.set s v).getD x 0=if x=s then v else l.getD x 0:=by
 simp only [List.getD_eq_getElem?_getD,List.getElem?_set]
 by_cases h:s=x
 ·subst h;simp [hs]
 ·rw [if_neg h,if_neg (fun e => h e.symm)]
theorem getD_repl (n s:Nat):(List.replicate n 0).getD s 0=0:=by
 rw [List.getD_eq_getElem?_getD,List.getElem?_replicate]
 split <;> rfl
theorem kraft_zeros:∀ n,kraft (List.replicate n 0)=0
 | 0 => rfl
 | n+1 => by
  have:=kraft_zeros n
  simp only [kraft,List.replicate_succ,List.map_cons,List.sum_cons] at this ⊢
  rw [this]
  rfl
theorem SkOk.start (u:Nat→Bool) (n:Nat):SkOk u n (usedL u n).length (usedL u n) (List.replicate n 0) 0:=by
 refine ⟨List.length_replicate,List.nodup_range.filter _,fun s hs => ?_,fun s hs => ?_,fun _ => ?_,fun x hx => ?_,by omega⟩
 ·have:=List.mem_filter.1 hs
  exact ⟨List.mem_range.1 this.1,getD_repl n s⟩
 ·rw [getD_repl]
  unfold usedL
  rw [List.mem_filter,List.mem_range]
  simp [hs]
 ·rw [kraft_zeros]
 ·rw [List.eq_of_mem_replicate hx]
  exact Nat.le_refl _
theorem SkOk.pick {u:Nat→Bool} {n m0 long x:Nat} {A B out:List Nat} (h:SkOk u n m0 (A++x :: B) out long) (hne:A++B≠[]) (hl:long+1≤15):SkOk u n m0 (A++B) (out.set x (long+1)) (long+1):=by
 have hx:=h.inl x (by simp)
 have hxl:x<out.length:=by rw [h.len];exact hx.1
 have hnd:=h.nodup
 rw [List.nodup_append,List.nodup_cons] at hnd
 obtain ⟨hA,⟨hxB,hB⟩,hAB⟩:=hnd
 have hxA:x ∉ A:=fun hm => hAB x hm x (by simp) rfl
 refine ⟨by rw [List.length_set];exact h.len,?_,fun s hs => ?_,fun s hs => ?_,fun _ => ?_,fun y hy => ?_,?_⟩
 ·rw [List.nodup_append]
  exact ⟨hA,hB,fun a ha b hb => hAB a ha b (List.mem_cons_of_mem _ hb)⟩
 ·have hs':s ∈ A++x :: B:=by
   rcases List.mem_append.1 hs with h | h
   ·exact List.mem_append.2 (.inl h)
   ·exact List.mem_append.2 (.inr (List.mem_cons_of_mem _ h))
  have hne:s≠x:=by
   rintro rfl
   rcases List.mem_append.1 hs with h | h
   ·exact hxA h
   ·exact hxB h
  rw [getD_set _ _ _ _ hxl,if_neg hne]
  exact h.inl s hs'
 ·rw [getD_set _ _ _ _ hxl,h.used s hs]
  by_cases e:s=x
  ·subst e;simp
  ·rw [if_neg e]
   simp [e]
 ·rw [kraft_set _ _ _ hxl hx.2]
  have:=h.fits (by simp)
  unfold room
  rw [if_neg (by omega),Nat.add_assoc,show 2 ^ (15 - (long+1))+2 ^ (15 - (long+1))=2 ^ (15 - long) by
   rw [show 15 - long=(15 - (long+1))+1 by omega,Nat.pow_succ]
   omega]
  exact this
 ·rcases List.mem_or_eq_of_mem_set hy with hy | rfl
  ·have:=h.le y hy;omega
  ·exact Nat.le_refl _
 ·have:=h.sum
  simp only [List.length_append,List.length_cons] at this ⊢
  omega
theorem nums_set (k:IntKind) (l:List Nat) (x v:Nat):(nums k l).set x (.int k (v:Nat))=nums k (l.set x v):=by simp [nums,List.map_set]
theorem nums_get {k:IntKind} {l:List Nat} {x:Nat} (h:x<l.length):(nums k l)[x]?=some (.int k ((l.getD x 0:Nat):Int)):=by simp [nums,h]
def fillL (D short:Nat):Nat→List Nat→List Nat→List Nat
 | _,[],out => out
 | i,s :: l,out => fillL D short (i+1) l (out.set s (D - if i<short then 1 else 0))
theorem fillL_drop (D short i:Nat) (l out:List Nat) (h:i<l.length):fillL D short i (l.drop i) out=fillL D short (i+1) (l.drop (i+1)) (out.set l[i] (D - if i<short then 1 else 0)):=by
 rw [List.drop_eq_getElem_cons h,fillL]
structure FiOk (u:Nat→Bool) (n D short i:Nat) (l out:List Nat):Prop where
 len:out.length=n
 nodup:l.Nodup
 inl:∀ s ∈ l,s<n∧out.getD s 0=0
 used:∀ s,s<n→(u s=true ↔ out.getD s 0≠0∨s ∈ l)
 fits:kraft out+2 ^ (15 - D) * (l.length+(short - i))=2 ^ 15
 le:∀ x ∈ out,x≤D
theorem fillL_ok {u:Nat→Bool} {n D short:Nat} (hD:1≤D) (hD15:D≤15) (h2:0<short→2≤D):∀ (l:List Nat) (i:Nat) (out:List Nat),(short≤i+l.length)→FiOk u n D short i l out→FiOk u n D short (i+l.length) [] (fillL D short i l out)
 | [],i,out,hs,h => h
 | s :: l,i,out,hs,h => by
  rw [fillL,List.length_cons,show i+(l.length+1)=i+1+l.length by omega]
  have hx:=h.inl s (by simp)
  have hxl:s<out.length:=by rw [h.len];exact hx.1
  have hnd:=List.nodup_cons.1 h.nodup
  have hv:D - (if i<short then 1 else 0)≠0:=by
   split
   ·have:=h2 (by omega);omega
   ·omega
  refine fillL_ok hD hD15 h2 l (i+1) _ (by simp only [List.length_cons] at hs;omega) ⟨by rw [List.length_set];exact h.len,hnd.2,fun y hy => ?_,fun y hy => ?_,?_,fun y hy => ?_⟩
  ·have hne:y≠s:=by rintro rfl;exact hnd.1 hy
   rw [getD_set _ _ _ _ hxl,if_neg hne]
   exact h.inl y (List.mem_cons_of_mem _ hy)
  ·rw [getD_set _ _ _ _ hxl,h.used y hy]
   by_cases e:y=s
   ·subst e;simp [hv]
   ·rw [if_neg e];simp [e]
  ·rw [kraft_set _ _ _ hxl hx.2]
   have:=h.fits
   unfold room
   rw [if_neg hv]
   simp only [List.length_cons] at this
   by_cases hi:i<short
   ·rw [if_pos hi] at hv ⊢
    have e1:2 ^ (15 - (D - 1))=2 * 2 ^ (15 - D):=by rw [show 15 - (D - 1)=(15 - D)+1 by omega,Nat.pow_succ,Nat.mul_comm]
    rw [e1]
    have e2:l.length+1+(short - i)=(l.length+(short - (i+1)))+2:=by omega
    rw [e2,Nat.mul_add] at this
    omega
   ·rw [if_neg hi,Nat.sub_zero]
    have e2:l.length+1+(short - i)=(l.length+(short - (i+1)))+1:=by omega
    rw [e2,Nat.mul_add] at this
    omega
  ·rcases List.mem_or_eq_of_mem_set hy with hy | rfl
   ·exact h.le y hy
   ·omega
theorem usedL_mem (u:Nat→Bool) (n s:Nat):s ∈ usedL u n ↔ s<n∧u s=true:=by
 unfold usedL;rw [List.mem_filter,List.mem_range]
theorem SkOk.done {u:Nat→Bool} {n most long deep:Nat} {l out:List Nat} (h:SkOk u n (usedL u n).length l out long) (hl:long=0∨long+12≤most) (hm:most=15∨(most=7∧n≤19)) (hn:n≤4096)
  (h1:l.length≤2 ^ deep) (h2:deep=0∨2 ^ (deep - 1)<l.length) (hlong:l=[]→long=0) :
  LenOk u n most (if long=0∧l.length=1 then (fillL (long+deep) (2 ^ deep - l.length) 0 l out).set (l.getD 0 0) 1 else fillL (long+deep) (2 ^ deep - l.length) 0 l out):=by
 have hul:=usedL_le u n
 have hsum:=h.sum
 by_cases hz:l=[]
 ·subst hz
  have hlg:=hlong rfl
  subst hlg
  simp only [List.length_nil,Nat.add_zero] at hsum
  rw [if_neg (by simp),fillL]
  refine ⟨h.len,fun s hs => ?_,fun x hx => ?_,fun h2 => by omega,fun s hs => by rw [hs] at hsum;simp at hsum⟩
  ·rw [h.used s hs];simp
  ·have:=h.le x hx;omega
 by_cases hone:long=0∧l.length=1
 ·rw [if_pos hone]
  obtain ⟨rfl,hl1⟩:=hone
  obtain ⟨x,rfl⟩:=List.length_eq_one_iff.1 hl1
  have hd:deep=0:=by
   rcases h2 with h2 | h2
   ·exact h2
   ·simp at h2
  subst hd
  have hx:=h.inl x (by simp)
  have hxl:x<out.length:=by rw [h.len];exact hx.1
  simp only [fillL,List.length_singleton,List.getD_cons_zero]
  rw [List.set_set]
  refine ⟨by rw [List.length_set];exact h.len,fun s hs => ?_,fun y hy => ?_,fun h2 => by simp at hsum;omega,fun s hs => ?_⟩
  ·rw [getD_set _ _ _ _ hxl,h.used s hs]
   by_cases e:s=x
   ·subst e;simp
   ·rw [if_neg e];simp [e]
  ·rcases List.mem_or_eq_of_mem_set hy with hy | rfl
   ·have:=h.le y hy;omega
   ·omega
  ·have hus:u s=true:=by
    have:s ∈ usedL u n:=by rw [hs];simp
    exact ((usedL_mem u n s).1 this).2
   have hsn:s<n:=by
    have:s ∈ usedL u n:=by rw [hs];simp
    exact ((usedL_mem u n s).1 this).1
   rw [h.used s hsn] at hus
   have h0:out.getD s 0=0:=by
    rw [List.getD_eq_getElem?_getD]
    cases e:out[s]? with
    | none => rfl
    | some y => have:=h.le y (List.mem_of_getElem? e);simp;omega
   rcases hus with hus | hus
   ·exact absurd h0 hus
   ·simp only [List.mem_singleton] at hus
    subst hus
    rw [getD_set _ _ _ _ hxl,if_pos rfl]
 rw [if_neg hone]
 have hlp:0<l.length:=List.length_pos_iff.2 hz
 have hll:l.length≤n:=by omega
 have hdeep:deep≤12∧(n≤19→deep≤5):=by
  rcases h2 with h2 | h2
  ·omega
  ·constructor
   ·refine Nat.le_of_not_lt fun hlt => ?_
    have:=Nat.pow_le_pow_right (n:=2) (by omega) (show 12≤deep - 1 by omega)
    omega
   ·intro h19
    refine Nat.le_of_not_lt fun hlt => ?_
    have:=Nat.pow_le_pow_right (n:=2) (by omega) (show 5≤deep - 1 by omega)
    omega
 have hD1:1≤long+deep:=by
  rcases Nat.eq_zero_or_pos deep with hd | hd
  ·subst hd
   simp at h1
   omega
  ·omega
 have hDm:long+deep≤most:=by omega
 have hD15:long+deep≤15:=by omega
 have hshort:2 ^ deep - l.length≤l.length:=by
  rcases h2 with h2 | h2
  ·subst h2;simp;omega
  ·have:2 ^ deep=2 * 2 ^ (deep - 1)∨deep=0:=by
    rcases Nat.eq_zero_or_pos deep with hd | hd
    ·exact .inr hd
    ·left;rw [show deep=(deep - 1)+1 by omega,Nat.pow_succ];simp;omega
   rcases this with h | h
   ·omega
   ·subst h;simp;omega
 have hs2:0<2 ^ deep - l.length→2≤long+deep:=fun hp => by
  rcases Nat.lt_or_ge deep 2 with hd | hd
  ·have:deep=0∨deep=1:=by omega
   rcases this with rfl | rfl
   ·simp at hp;omega
   ·rcases h2 with h2 | h2
    ·omega
    ·simp at h2 hp;omega
  ·omega
 have key:=fillL_ok hD1 hD15 hs2 l 0 out (by omega) ⟨h.len,h.nodup,h.inl,h.used,by
  rw [Nat.sub_zero,show l.length+(2 ^ deep - l.length)=2 ^ deep by omega,← Nat.pow_add,show 15 - (long+deep)+deep=15 - long by omega]
  exact h.fits hz,fun x hx => by have:=h.le x hx;omega⟩
 refine ⟨key.len,fun s hs => ?_,fun x hx => Nat.le_trans (key.le x hx) hDm,fun _ => ?_,fun s hs => ?_⟩
 ·rw [key.used s hs];simp
 ·have:=key.fits
  rw [List.length_nil,Nat.zero_add,show 2 ^ deep - l.length - (0+l.length)=0 by omega,Nat.mul_zero,Nat.add_zero] at this
  exact this
 ·rw [hs] at hsum
  simp at hsum
  omega
section
variable {P:Program} {e:Operand→Value} {d:Option Tmp} {ty:TypeId} {pos:String} {after:Array Edge} {g:Option (Nat × Bool)} {w:World} {x y:Operand} {k k':IntKind} {m n r:Int} {ts:Array TypeId}
theorem Y.min (hx:e x=.int k m) (hy:e y=.int k' n) (hr:(if n<m then n else m)=r):Yld P e ⟨d,.call ⟨.builtin .min,#[x,y],ts⟩,ty,pos,after,g⟩ w (.int k r) w:=by
 subst hr
 unfold Yld
 simp only [execOp,resolve,Sem.run_bind,Sem.run_pure,Result.andThen_ok,Go.invoke,builtin,List.map_toArray,List.map_cons,List.map_nil,hx,hy,run_min_int2]
theorem Y.max (hx:e x=.int k m) (hy:e y=.int k' n) (hr:(if m<n then n else m)=r):Yld P e ⟨d,.call ⟨.builtin .max,#[x,y],ts⟩,ty,pos,after,g⟩ w (.int k r) w:=by
 subst hr
 unfold Yld
 simp only [execOp,resolve,Sem.run_bind,Sem.run_pure,Result.andThen_ok,Go.invoke,builtin,List.map_toArray,List.map_cons,List.map_nil,hx,hy,run_max_int2]
theorem minN {a b:Nat}:(if (b:Int)<(a:Int) then (b:Int) else (a:Int))=((Min.min a b:Nat):Int):=by split <;> omega
theorem maxN {a b:Nat}:(if (a:Int)<(b:Int) then (b:Int) else (a:Int))=((Max.max a b:Nat):Int):=by split <;> omega
end
section
variable {w0 w:World} {S:List Nat} {l:List Res} {cb B k:Nat} {v:Value}
variable {nn:Nat} {lo:List Oper} {Q:Post} {rest:List Oper} {ρ:Env} {ty:TypeId} {pos:String} {after:Array Edge} {x y:Operand} {d:Nat} {ts:Array TypeId} {j dj:Nat} {b:Bool}
theorem VL.nextG (H:St w0 S l w) (i:Nat) (hi:l[i]?=some (blkR cb (chL v k) 53)) (hw:WayAt B v w0) (hS:∀ b ∈ S,B≠b) (hB:B≠cb) (m:Nat) (hk:k≤4611686018427387904) (hm0:0<m) (hm:m≤4294967296)
  (hj:(lo[j]?).bind (·.dst)=some dj) (hdj:Nat.blt dj nn=true) (hb:ρ dj=.bool b) (hd:Nat.blt d nn=true) (hx:ev ρ x=.pointer (some ⟨cb,0,none⟩)) (hy:ev ρ y=.int .i64 (m:Nat))
  (h:∀ w' r,r<m→St w0 S (l.set i (blkR cb (chL v (k+1)) 53)) w'→VL Tryd.prog nn lo.toArray Q rest (upd ρ d (.int .i64 (r:Nat))) w') :
  VL Tryd.prog nn lo.toArray Q (⟨some d,.call ⟨.value (.func 22),#[x,y],ts⟩,ty,pos,after,some (j,b)⟩ :: rest) ρ w :=
 VL.callG hj hdj hb hd ent_22 (next_any' w cb B v k m (H.blk hi) (hw.keep H.frm hS) hB hk hm0 hm) (by simp [hx,hy]) fun e w' ⟨⟨r,hr,he⟩,hb,hf⟩ => ⟨_,he,h _ r hr (H.turnB i hi hf hb)⟩
end
theorem VC.joinB {P:Program} {n:Nat} {Q:Post} {ρ:Env} {w:World} {c:Code} {id:Nat} {K:Env→World→Prop} (J:Env→World→Prop) (h:VC P n c (blk id (thn J Q)) ρ w) (k:∀ ρ' w',J ρ' w'→K ρ' w'):VC P n c (blk id (thn K Q)) ρ w :=
 h.mono fun e ρ w hQ => by
  cases e with
  | normal => exact k _ _ hQ
  | exit id' =>
   simp only [blk] at hQ ⊢
   by_cases hid:id'=id
   ·rw [if_pos hid] at hQ ⊢;exact k _ _ hQ
   ·rw [if_neg hid] at hQ ⊢;exact hQ
  | _ => exact hQ
theorem St.vec0 {w0 w:World} {S:List Nat} {l:List Res} (H:St w0 S l w) (e:TypeId) (k:Nat):St w0 S (vecR none 0 e k 0 [] :: l) w :=
 H.cons (.inl ⟨rfl,rfl,rfl,rfl⟩) (vecR_local _ _ _ _ _ _) (by simp [vecR,footA]) (by simp [vecR,footA])
theorem replicate_take {ls:List Nat} {i m x:Nat} (hm:i+m≤ls.length) (h:∀ j,j<m→ls.getD (i+j) 0=x):ls.take (i+m)=ls.take i++List.replicate m x:=by
 induction m with
 | zero => simp
 | succ m ih =>
  have hx:=h m (by omega)
  have hlt:i+m<ls.length:=by omega
  have e:ls.getD (i+m) 0=ls[i+m]:=by simp [hlt]
  rw [List.replicate_succ',← List.append_assoc,← ih (by omega) fun j hj => h j (by omega),show i+(m+1)=i+m+1 by omega,← hx,e,← List.take_succ_eq_append_getElem hlt]
theorem lengthsOf_any (W:World) (ub uo uc n:Nat) (u:Nat→Bool) (hu:∀ j,j<n→W.cell? ⟨ub,uo+j,none⟩=some (.bool (u j))) (cb B k:Nat) (v:Value) (most:Nat) (hb:Blk W cb (chL v k) 53) (hw:WayAt B v W) (hB:B≠cb) (hk:k≤4611686018427387000) (hn:n≤4096) (hm:most=15∨(most=7∧n≤19)) (hub:ub≠cb) :
  Calls Tryd.prog 62 #[.slice (some ⟨ub,uo,none⟩) n uc,.pointer (some ⟨cb,0,none⟩),.int .i64 (most:Nat)] W fun e w' => ∃ ls g k',LenOk u n most ls∧e=.returned (.slice (some ⟨g,0,none⟩) n n)∧W.heap.size≤g∧Blk w' g (nums .i64 ls) 3 ∧
   Blk w' cb (chL v k') 53∧k≤k'∧k'≤k+5∧Frm [cb] W w':=by
 have H:=St.ofBlk hb
 have hS:ub ∉ [cb]:=by simpa using hub
 refine enter (m:=121) Tryd.func62 O Tryd.ntmps62 O (Cy (Lo O (Y.asg O) (Lt (Cy (Lo O (YS O) (Lo O (Y.len sl_107 O) (VL.make H mk_23 n n O O O O (Nat.le_refl _) (by omega) (by omega) O ?_)))))))
 intro w g hn13 hg H
 refine Lo O (AS O) (Lt ?_)
 rw [mkCells_one] at H
 have hnew:vecR none 0 3 1 0 []=⟨[],fun w => VecOk w none 0 3 1 0 []⟩:=rfl
 replace H:St W [cb] [vecR none 0 3 1 0 [],blkR g (List.replicate n (.int .i64 0)) 3,blkR cb (chL v k) 53] w :=
  H.cons (.inl ⟨rfl,rfl,rfl,rfl⟩) (vecR_local _ _ _ _ _ _) (by simp [vecR,footA]) (by simp [vecR,footA])
 refine Cy (Lo O (Y.asg O) (Lt (Cs (Cy (Lo O (YS O) (Lo O (Y.len sl_107 O) (Lo O (YI O) (Lt ?_))))))))
 refine VC.join (fun ρ w' => ∃ a c,ρ 0=.slice (some ⟨ub,uo,none⟩) n uc∧ρ 1=.pointer (some ⟨cb,0,none⟩)∧ρ 2=.int .i64 (most:Nat)∧ρ 7=.slice (some ⟨g,0,none⟩) n n∧ρ 8=.slice a (usedL u n).length c ∧
  St W [cb] [vecR a c 3 1 (usedL u n).length (nums .i64 (usedL u n)),blkR g (List.replicate n (.int .i64 0)) 3,blkR cb (chL v k) 53] w') ?_ ?_
 case refine_1 =>
  refine Cb ?_
  refine Cl (fun mm ρ w' => ∃ i a c,i≤n∧mm=n - i∧ρ 0=.slice (some ⟨ub,uo,none⟩) n uc∧ρ 1=.pointer (some ⟨cb,0,none⟩)∧ρ 2=.int .i64 (most:Nat)∧ρ 7=.slice (some ⟨g,0,none⟩) n n∧ρ 8=.slice a (usedL u i).length c∧ρ 21=.slice (some ⟨ub,uo,none⟩) n uc∧ρ 22=.int .i64 (n:Nat)∧ρ 23=.int .i64 (i:Nat) ∧
   St W [cb] [vecR a c 3 1 (usedL u i).length (nums .i64 (usedL u i)),blkR g (List.replicate n (.int .i64 0)) 3,blkR cb (chL v k) 53] w') n
   ⟨0,none,0,by omega,rfl,rfl,rfl,rfl,rfl,rfl,rfl,rfl,rfl,H⟩ ?_
  clear H
  rintro mm ρ w5 ⟨i,a,c,hi,hmm,r0,r1,r2,r7,r8,r21,r22,r23,H⟩
  refine Cy (Lo O (Y.lss (by assumption) (by assumption)) (Lt ?_))
  by_cases hy:i=n
  case pos =>
   subst hy
   refine Cs (CF O (by omega) (Cx (thn_x (thn_x (blk_x (tn ?_))))))
   exact ⟨a,c,r0,r1,r2,r7,r8,H⟩
  have hlt:i<n:=by omega
  have hcell:=hu i hlt
  have hul:=usedL_le u i
  refine Cs (CT O (by omega) (Ck (tn (Cs (Cb (Cy (Lo O (YI (by assumption)) (Lo O (Y.ixS1 i sl_107 r21 r23 O hlt) (Lo O (Y.ld ld_4 O (H.old hcell hS)) (Lo O (AI O) (Lo O (Y.asgB O) (Lt (Cy (Lo O (Y.movB O) (Lt ?_)))))))))))))))
  have hsucc:=usedL_succ u i
  cases hui:u i
  case false =>
   rw [hui,if_neg (by simp)] at hsucc
   refine CB O (fun h => nomatch h) (fun _ => (Ck (blk_n (tn (Cr (Lo O (Y.add (r:=((i+1:Nat):Int)) r23 O (n64 (b:=1) (by omega))) (Lo O (YI O) (Lt ?_))))))))
   exact ⟨n - (i+1),by omega,i+1,a,c,by omega,rfl,r0,r1,r2,r7,by rw [hsucc];exact r8,r21,r22,rfl,by rw [hsucc];exact H⟩
  rw [hui,if_pos rfl] at hsucc
  refine CB O (fun _ => ?_) (fun h => nomatch h)
  refine Cr (Lo O (YS r8) (Lo O (YI O) (VL.bslice H mk_23 (nums .i64 [i]) O O (by decide) (by decide) (by kernel_rfl) ?_)))
  intro w b21 hn21 hb21 H
  refine VL.append H 1 mk_23 (by decide) O O O O (news:=nums .i64 [i]) O (fun j u hj => by rw [Nat.zero_add];exact H.cell 0 O hj) (nums_one _ _) (by simp only [maxLen];omega) (by omega) ?_
  intro a' c' w hfa H
  have hl1:(usedL u (i+1)).length=(usedL u i).length+1:=by rw [hsucc];simp
  replace H:St W [cb] [vecR a' c' 3 1 (usedL u (i+1)).length (nums .i64 (usedL u (i+1))),blkR g (List.replicate n (.int .i64 0)) 3,blkR cb (chL v k) 53] w:=by rw [hl1,hsucc,nums_append];exact H.sub [1,2,3] rfl (by decide)
  refine Lo O (AS O) (Ln (blk_n (tn (Cr (Lo O (Y.add (r:=((i+1:Nat):Int)) r23 O (n64 (b:=1) (by omega))) (Lo O (YI O) (Lt ?_)))))))
  exact ⟨n - (i+1),by omega,i+1,a',c',by omega,rfl,r0,r1,r2,r7,by rw [hl1];rfl,r21,r22,rfl,H⟩
 case refine_2 =>
 clear H
 rintro ρ w5 ⟨a,c,r0,r1,r2,r7,r8,H⟩
 refine Cy (Lo O (AI O) (Lt (Cs (Cy (Lo O (YP (by assumption)) (VL.next H 2 O hw (by simpa using hB) hB 5 (by omega) (by omega) (by omega) O O O ?_))))))
 intro w sk hsk H
 simp only [List.set] at H
 refine Lo O (AI O) (Lt ?_)
 have hsk0:SkOk u n (usedL u n).length (usedL u n) (List.replicate n 0) 0:=SkOk.start u n
 replace H:St W [cb] [vecR a c 3 1 (usedL u n).length (nums .i64 (usedL u n)),blkR g (nums .i64 (List.replicate n 0)) 3,blkR cb (chL v (k+1)) 53] w:=by
  rw [show nums .i64 (List.replicate n 0)=List.replicate n (.int .i64 0) by simp [nums]]
  exact H
 refine VC.join (fun ρ w' => ∃ l out long kk a c,SkOk u n (usedL u n).length l out long∧(long=0∨(long+12≤most∧1≤l.length))∧k+1≤kk∧kk≤k+5∧ρ 7=.slice (some ⟨g,0,none⟩) n n∧ρ 8=.slice a l.length c∧ρ 11=.int .i64 (long:Nat) ∧
  St W [cb] [vecR a c 3 1 l.length (nums .i64 l),blkR g (nums .i64 out) 3,blkR cb (chL v kk) 53] w') ?_ ?_
 case refine_1 =>
  refine Cb ?_
  refine Cl (fun mm ρ w' => ∃ l out long kk a c sk,mm=sk∧SkOk u n (usedL u n).length l out long∧(long=0∨(long+12≤most∧1≤l.length))∧k+1≤kk∧kk+sk≤k+5∧ρ 1=.pointer (some ⟨cb,0,none⟩)∧ρ 2=.int .i64 (most:Nat)∧ρ 7=.slice (some ⟨g,0,none⟩) n n∧ρ 8=.slice a l.length c∧ρ 11=.int .i64 (long:Nat)∧ρ 12=.int .i64 (sk:Nat) ∧
   St W [cb] [vecR a c 3 1 l.length (nums .i64 l),blkR g (nums .i64 out) 3,blkR cb (chL v kk) 53] w') sk
   ⟨usedL u n,List.replicate n 0,0,k+1,a,c,sk,rfl,hsk0,.inl rfl,by omega,by omega,r1,r2,r7,r8,rfl,rfl,H⟩ ?_
  clear H hsk0
  rintro mm ρ w6 ⟨l,out,long,kk,a,c,sk,hmm,hS1,hlm,hk1,hk2,r1,r2,r7,r8,r11,r12,H⟩
  by_cases h0:sk=0
  case pos =>
   refine Cs (Cy (Lo O (YI r12) (Lo O (Y.gtrD (b:=false) O O (decide_eq_false (by omega))) (Lo O (Y.movB O) (VL.skipG O O O O O (VL.skipG O O O O O (VL.skipG O O O O O (Lo O (Y.pick O O) (Lo O (Y.movB O) (VL.skipG O O O O O (VL.skipG O O O O O (VL.skipG O O O O O (VL.skipG O O O O O (Lo O (Y.pick O O) (Lt (CB O (fun h => nomatch h) (fun _ => (Cx (thn_x (thn_x (blk_x (tn ?_))))))))))))))))))))))
   exact ⟨l,out,long,kk,a,c,hS1,hlm,hk1,by omega,r7,r8,r11,H⟩
  by_cases h1:l.length≤1
  case pos =>
   refine Cs (Cy (Lo O (YI r12) (Lo O (Y.gtrD (b:=true) O O (decide_eq_true (by omega))) (Lo O (Y.movB O) (LG O O O O (YS (by assumption)) (LG O O O O (Y.len sl_23 O) (LG O O O O (Y.gtrD (b:=false) O O (decide_eq_false (by omega))) (Lo O (Y.pick O O) (Lo O (Y.movB O) (VL.skipG O O O O O (VL.skipG O O O O O (VL.skipG O O O O O (VL.skipG O O O O O (Lo O (Y.pick O O) (Lt (CB O (fun h => nomatch h) (fun _ => (Cx (thn_x (thn_x (blk_x (tn ?_))))))))))))))))))))))
   exact ⟨l,out,long,kk,a,c,hS1,hlm,hk1,by omega,r7,r8,r11,H⟩
  by_cases h2:most≤long+12
  case pos =>
   refine Cs (Cy (Lo O (YI r12) (Lo O (Y.gtrD (b:=true) O O (decide_eq_true (by omega))) (Lo O (Y.movB O) (LG O O O O (YS (by assumption)) (LG O O O O (Y.len sl_23 O) (LG O O O O (Y.gtrD (b:=true) O O (decide_eq_true (by omega))) (Lo O (Y.pick O O) (Lo O (Y.movB O) (LG O O O O (YI (by assumption)) (LG O O O O (YI (by assumption)) (LG O O O O (Y.sub O O (w64 (by omega))) (LG O O O O (Y.lssD (b:=false) O O (decide_eq_false (by omega))) (Lo O (Y.pick O O) (Lt (CB O (fun h => nomatch h) (fun _ => (Cx (thn_x (thn_x (blk_x (tn ?_))))))))))))))))))))))
   exact ⟨l,out,long,kk,a,c,hS1,hlm,hk1,by omega,r7,r8,r11,H⟩
  have hul:=usedL_le u n
  have hsum:=hS1.sum
  refine Cs (Cy (Lo O (YI r12) (Lo O (Y.gtrD (b:=true) O O (decide_eq_true (by omega))) (Lo O (Y.movB O) (LG O O O O (YS (by assumption)) (LG O O O O (Y.len sl_23 O) (LG O O O O (Y.gtrD (b:=true) O O (decide_eq_true (by omega))) (Lo O (Y.pick O O) (Lo O (Y.movB O) (LG O O O O (YI (by assumption)) (LG O O O O (YI (by assumption)) (LG O O O O (Y.sub O O (w64 (by omega))) (LG O O O O (Y.lssD (b:=true) O O (decide_eq_true (by omega))) (Lo O (Y.pick O O) (Lt ?_)))))))))))))))
  refine CB O (fun _ => ?_) (fun h => nomatch h)
  refine Ck (tn (Cs (Cb ?_)))
  obtain ⟨q,rfl,_⟩:=(H.get (i:=0) rfl:VecOk _ _ _ _ _ _ _).cell (by omega)
  refine Cy (Lo O (YP (by assumption)) (Lo O (YS (by assumption)) (Lo O (Y.len sl_23 O) (VL.next H 2 O hw (by simpa using hB) hB l.length (by omega) (by omega) (by omega) O O O ?_))))
  intro w r hr H
  simp only [List.set] at H
  refine Lo O (AI O) (Lt ?_)
  obtain ⟨x,hx⟩:∃ x,x=l[r]:=⟨_,rfl⟩
  have hlx:l=l.take r++x :: l.drop (r+1):=by rw [hx,List.getElem_cons_drop,List.take_append_drop]
  have hxn:=hS1.inl x (by rw [hx];exact List.getElem_mem hr)
  have hxg:(nums .i64 l)[r]?=some (.int .i64 (x:Nat)):=by simp [nums,hr,hx]
  refine Cy (Lo O (YI (by assumption)) (Lo O (Y.add O O (n64 (b:=1) (by omega))) (Lo O (AI O) (Lt (Cy (Lo O (YS (by assumption)) (Lo O (YS (by assumption)) (Lo O (YI O) (Lo O (Y.ixS0 r sl_23 O O O hr) (Lo O (Y.ld ld_3 O (VecOk.cellS (H.get (i:=0) O) hxg)) (Lo O (YI O) (Lo O (Y.ixS0 x sl_23 O O O hxn.1) (VL.putI H 1 st_3 O O O (show (nums .i64 out)[x]?=some (.int .i64 ((out.getD x 0:Nat):Int)) by simp [nums,show x<out.length by rw [hS1.len];exact hxn.1]) ?_)))))))))))))
  intro w H
  simp only [List.set] at H
  refine Lt ?_
  have hlc:l.length≤c:=by
   rcases (H.get (i:=0) rfl:VecOk _ _ _ _ _ _ _) with ⟨h0,_⟩ | ⟨g',cur,h0,h1,h2,_⟩
   ·cases h0
   ·exact h2
  refine VC.drawTail 8 mixedP (by kernel_rfl) ?_
  intro w hsame
  replace H:=H.same hsame
  refine So O (YS (by assumption)) (So O (YI O) (So O (YI O) (So O (Y.slice3 r sl_23 O O O O O (by omega)) (So O (YS (by assumption)) (So O (YI O) (So O (Y.add (r:=((r+1:Nat):Int)) O O (n64 (b:=1) (by omega))) (So O (Y.sliceLx (r+1) sl_23 O O O (by omega)) (Sn ?_))))))))
  have hV:VecOk w (some ⟨q,0,none⟩) c 3 1 l.length (nums .i64 l):=H.get (i:=0) rfl
  replace H:=H.turn (i:=0) (r':=vecR (some ⟨q,0,none⟩) r 3 1 r ((nums .i64 l).take r)) rfl (Frm.refl _ _) (VecOk.pre (m:=r) (c':=r) hV (by omega) (Nat.le_refl _) (by omega)) (vecR_local _ _ _ _ _ _) (fun b hb => .inl hb)
  simp only [List.set] at H
  refine VL.append (n:=r) (c:=r) (xs:=(nums .i64 l).take r) (m:=l.length - (r+1)) H 0 mk_23 (by decide) O O O O (news:=nums .i64 (l.drop (r+1))) (by simp [nums]) ?_ (nums_one _ _) (by simp only [maxLen];omega) (by omega) ?_
  ·intro j y hj
   by_cases hcr:c=r+1
   ·rw [List.drop_eq_nil_of_le (by omega)] at hj
    simp [nums] at hj
   ·rw [if_neg hcr,Nat.zero_add,Nat.mul_one]
    refine VecOk.cellS hV ?_
    rw [← hj]
    simp [nums,List.getElem?_drop]
  intro a' c' w hfa H
  have hl2:r+(l.length - (r+1))=(l.take r++l.drop (r+1)).length:=by simp;omega
  have hset:(nums .i64 out).set x (.int .i64 ((long+1:Nat):Int))=nums .i64 (out.set x (long+1)):=by simp [nums,List.map_set]
  have htk:(nums .i64 l).take r++nums .i64 (l.drop (r+1))=nums .i64 (l.take r++l.drop (r+1)):=by simp [nums,List.map_take]
  simp only [List.set,htk,hset,hl2] at H
  refine Lo O (AS O) (Ln (blk_n (tn (Cr (Lo O (YI r12) (Lo O (Y.sub (r:=((sk - 1:Nat):Int)) O O (by rw [w64 (by omega)];omega)) (Lo O (AI O) (Lt ?_))))))))
  rw [hlx] at hS1
  have hne:l.take r++l.drop (r+1)≠[]:=fun e => by
   have:=congrArg List.length e
   simp only [List.length_append,List.length_take,List.length_drop,List.length_nil] at this
   omega
  exact ⟨sk - 1,by omega,_,_,long+1,kk+1,a',c',sk - 1,rfl,hS1.pick hne (by omega),.inr ⟨by omega,by rw [← hl2];omega⟩,by omega,by omega,r1,r2,r7,by rw [← hl2];rfl,rfl,rfl,H⟩
 case refine_2 =>
 clear H hsk0 r0 r1 r2 r7 r8
 rintro ρ w6 ⟨l,out,long,kk,a,c,hS1,hlm,hk1,hk2,r7,r8,r11,H⟩
 have hul:=usedL_le u n
 have hsum:=hS1.sum
 have hln:l.length≤n:=by omega
 have hlong:long≤15:=by omega
 have hempty:l=[]→long=0:=fun e => by subst e;simp at hlm;exact hlm
 refine Cy (Lo O (AI O) (Lt (Cs ?_)))
 refine VC.join (fun ρ w' => ∃ deep,deep≤12∧l.length≤2 ^ deep∧(deep=0∨2 ^ (deep - 1)<l.length)∧ρ 7=.slice (some ⟨g,0,none⟩) n n∧ρ 8=.slice a l.length c∧ρ 11=.int .i64 (long:Nat)∧ρ 14=.int .i64 (deep:Nat) ∧
  St W [cb] [vecR a c 3 1 l.length (nums .i64 l),blkR g (nums .i64 out) 3,blkR cb (chL v kk) 53] w') ?_ ?_
 case refine_1 =>
  refine Cb ?_
  refine Cl (fun mm ρ w' => ∃ deep,mm=12 - deep∧deep≤12∧(deep=0∨2 ^ (deep - 1)<l.length)∧ρ 7=.slice (some ⟨g,0,none⟩) n n∧ρ 8=.slice a l.length c∧ρ 11=.int .i64 (long:Nat)∧ρ 14=.int .i64 (deep:Nat) ∧
   St W [cb] [vecR a c 3 1 l.length (nums .i64 l),blkR g (nums .i64 out) 3,blkR cb (chL v kk) 53] w') 12
   ⟨0,rfl,by omega,.inl rfl,r7,r8,r11,rfl,H⟩ ?_
  clear H r7 r8 r11
  rintro mm ρ w7 ⟨deep,hmm,hd12,hd,r7,r8,r11,r14,H⟩
  have hpow:2 ^ deep≤2 ^ 12:=Nat.pow_le_pow_right (by omega) hd12
  refine Cs (Cy (Lo O (YI (by assumption)) (Lo O (Y.shl (r:=((1 * 2 ^ deep:Nat):Int)) O O (by omega) (l64 (a:=1) (by omega))) (Lo O (YS (by assumption)) (Lo O (Y.len sl_23 O) (Lo O (Y.lss O O) (Lt ?_)))))))
  by_cases hlt:1 * 2 ^ deep<l.length
  case neg =>
   refine CF O (by omega) (Cx (thn_x (thn_x (blk_x (tn ?_)))))
   exact ⟨deep,hd12,by omega,hd,r7,r8,r11,r14,H⟩
  have hd11:deep<12:=Nat.lt_of_not_le fun hle => by
   have:=Nat.pow_le_pow_right (n:=2) (by omega) hle
   omega
  refine CT O (by omega) (Ck (tn (Cb (Cr (Lo O (YI (by assumption)) (Lo O (Y.add O O (n64 (b:=1) (by omega))) (Lo O (AI O) (Ln (blk_n (tn ?_))))))))))
  exact ⟨12 - (deep+1),by omega,deep+1,rfl,by omega,.inr (by rw [Nat.add_sub_cancel];omega),r7,r8,r11,rfl,H⟩
 case refine_2 =>
 clear H r7 r8 r11
 rintro ρ w7 ⟨deep,hd12,hd1,hd2,r7,r8,r11,r14,H⟩
 have hpow:2 ^ deep≤2 ^ 12:=Nat.pow_le_pow_right (by omega) hd12
 obtain ⟨D,hD⟩:∃ D,D=long+deep:=⟨_,rfl⟩
 obtain ⟨short,hshort⟩:∃ short,short=2 ^ deep - l.length:=⟨_,rfl⟩
 refine Cy (Lo O (YI (by assumption)) (Lo O (Y.shl (r:=((1 * 2 ^ deep:Nat):Int)) O O (by omega) (l64 (a:=1) (by omega))) (Lo O (YS (by assumption)) (Lo O (Y.len sl_23 O) (Lo O (Y.sub (r:=((short:Nat):Int)) O O (by rw [w64 (by omega)];omega)) (Lo O (AI O) (Lt (Cs (Cy (Lo O (YS (by assumption)) (Lo O (Y.len sl_23 O) (Lo O (YI O) (Lt ?_)))))))))))))
 refine VC.join (fun ρ w' => ρ 7=.slice (some ⟨g,0,none⟩) n n∧ρ 8=.slice a l.length c∧ρ 11=.int .i64 (long:Nat) ∧
  St W [cb] [vecR a c 3 1 l.length (nums .i64 l),blkR g (nums .i64 (fillL D short 0 l out)) 3,blkR cb (chL v kk) 53] w') ?_ ?_
 case refine_1 =>
  refine Cb ?_
  refine Cl (fun mm ρ w' => ∃ i o,i≤l.length∧mm=l.length - i∧o.length=n∧fillL D short i (l.drop i) o=fillL D short 0 l out∧ρ 7=.slice (some ⟨g,0,none⟩) n n∧ρ 8=.slice a l.length c∧ρ 11=.int .i64 (long:Nat)∧ρ 14=.int .i64 (deep:Nat)∧ρ 15=.int .i64 (short:Nat) ∧
   ρ 85=.slice a l.length c∧ρ 86=.int .i64 (l.length:Nat)∧ρ 87=.int .i64 (i:Nat) ∧
   St W [cb] [vecR a c 3 1 l.length (nums .i64 l),blkR g (nums .i64 o) 3,blkR cb (chL v kk) 53] w') l.length
   ⟨0,out,by omega,rfl,hS1.len,by rw [List.drop_zero],r7,r8,r11,r14,rfl,rfl,rfl,rfl,H⟩ ?_
  clear H r7 r8 r11 r14
  rintro mm ρ w8 ⟨i,o,hi,hmm,ho,hfill,r7,r8,r11,r14,r15,r85,r86,r87,H⟩
  refine Cy (Lo O (Y.lss (by assumption) (by assumption)) (Lt ?_))
  by_cases hlt:i<l.length
  case neg =>
   obtain rfl:i=l.length:=by omega
   refine Cs (CF O (by omega) (Cx (thn_x (thn_x (blk_x (tn ?_))))))
   rw [List.drop_length,fillL] at hfill
   subst hfill
   exact ⟨r7,r8,r11,H⟩
  obtain ⟨q,rfl,_⟩:=(H.get (i:=0) rfl:VecOk _ _ _ _ _ _ _).cell (by omega)
  rw [fillL_drop D short i l o hlt] at hfill
  obtain ⟨x,hx⟩:∃ x,x=l[i]:=⟨_,rfl⟩
  have hxn:x<n:=(hS1.inl x (by rw [hx];exact List.getElem_mem hlt)).1
  have hxg:(nums .i64 l)[i]?=some (.int .i64 (x:Nat)):=by simp [nums,hlt,hx]
  rw [← hx] at hfill
  refine Cs (CT O (by omega) (Ck (tn (Cs (Cb (Cy (Lo O (YI (by assumption)) (Lo O (Y.ixS0 i sl_23 r85 r87 O hlt) (Lo O (Y.ld ld_3 O (VecOk.cellS (H.get (i:=0) O) hxg)) (Lo O (AI O) (Lo O (AI O) (Lt (Cy (Lo O (YS (by assumption)) (Lo O (YI O) (Lo O (YI (by assumption)) ?_))))))))))))))))
  refine Lo O (YI (by assumption)) (Lo O (Y.add (r:=((D:Nat):Int)) O O (by rw [w64 (by omega)];omega)) (Lo O (Y.ixS0 x sl_23 O O O hxn) (VL.putI H 1 st_3 O O O (nums_get (by omega)) ?_)))
  intro w H
  simp only [List.set,nums_set] at H
  refine Lt (Cy (Lo O (YI O) (Lo O (YI (by assumption)) (Lo O (Y.lss O O) (Lt ?_)))))
  refine VC.joinB (fun ρ w' => ρ 7=.slice (some ⟨g,0,none⟩) n n∧ρ 8=.slice (some ⟨q,0,none⟩) l.length c∧ρ 11=.int .i64 (long:Nat)∧ρ 14=.int .i64 (deep:Nat)∧ρ 15=.int .i64 (short:Nat) ∧
   ρ 85=.slice (some ⟨q,0,none⟩) l.length c∧ρ 86=.int .i64 (l.length:Nat)∧ρ 87=.int .i64 (i:Nat) ∧
   St W [cb] [vecR (some ⟨q,0,none⟩) c 3 1 l.length (nums .i64 l),blkR g (nums .i64 (o.set x (D - if i<short then 1 else 0))) 3,blkR cb (chL v kk) 53] w') ?_ ?_
  case refine_1 =>
   by_cases his:i<short
   case neg =>
    refine CF O (by omega) (Ck (blk_n (tn ?_)))
    rw [if_neg his]
    exact ⟨r7,r8,r11,r14,r15,r85,r86,r87,H⟩
   have hD1:1≤D:=by
    refine Nat.pos_of_ne_zero fun h0 => ?_
    obtain rfl:deep=0:=by omega
    simp at hshort
    omega
   refine CT O (by omega) (Cr (Lo O (YS (by assumption)) (Lo O (YI O) (Lo O (Y.ixS0 x sl_23 O O O hxn) (Lo O (Y.ld ld_3 O (H.cell 1 O (show (nums .i64 (o.set x D))[x]?=some (.int .i64 (D:Nat)) by rw [nums_get (by rw [List.length_set];omega)];simp [show x<o.length by omega]))) (Lo O (Y.sub (r:=((D - 1:Nat):Int)) O O (by rw [w64 (by omega)];omega)) (Lo O (Y.ixS0 x sl_23 O O O hxn) (VL.putI H 1 st_3 O O O (nums_get (by rw [List.length_set];omega)) ?_))))))))
   intro w H
   simp only [List.set,nums_set,List.set_set] at H
   refine Ln (blk_n (tn ?_))
   rw [if_pos his]
   exact ⟨r7,r8,r11,r14,r15,r85,r86,r87,H⟩
  case refine_2 =>
  clear H r7 r8 r11 r14 r15 r85 r86 r87
  rintro ρ w9 ⟨r7,r8,r11,r14,r15,r85,r86,r87,H⟩
  refine Cr (Lo O (Y.add (by assumption) O (n64 (b:=1) (by omega))) (Lo O (YI O) (Lt ?_)))
  exact ⟨l.length - (i+1),by omega,i+1,_,by omega,rfl,by rw [List.length_set];exact ho,hfill,r7,r8,r11,r14,r15,r85,r86,rfl,H⟩
 case refine_2 =>
 clear H r7 r8 r11 r14
 rintro ρ w8 ⟨r7,r8,r11,H⟩
 have hfin:=hS1.done (deep:=deep) (hlm.imp id (·.1)) hm hn hd1 hd2 hempty
 rw [← hD,← hshort] at hfin
 have hflen:(fillL D short 0 l out).length=n:=by
  have:=hfin.len
  split at this
  ·rwa [List.length_set] at this
  ·exact this
 by_cases hone:long=0∧l.length=1
 case pos =>
  rw [if_pos hone] at hfin
  obtain ⟨h0,hl1⟩:=hone
  obtain ⟨q,rfl,_⟩:=(H.get (i:=0) rfl:VecOk _ _ _ _ _ _ _).cell (by omega)
  obtain ⟨x,hx⟩:∃ x,x=l.getD 0 0:=⟨_,rfl⟩
  rw [← hx] at hfin
  have hxg:(nums .i64 l)[0]?=some (.int .i64 (x:Nat)):=by rw [nums_get (by omega),hx]
  have hxn:x<n:=by
   have e:l.getD 0 0=l[0]:=by simp [hl1]
   rw [hx,e]
   exact (hS1.inl _ (List.getElem_mem (by omega))).1
  refine Cs (Cy (Lo O (YI (by assumption)) (Lo O (Y.eqlD (b:=true) O O (decide_eq_true (by omega))) (Lo O (Y.movB O) (LG O O O O (YS (by assumption)) (LG O O O O (Y.len sl_23 O) (LG O O O O (Y.eqlD (b:=true) O O (decide_eq_true (by omega))) (Lo O (Y.pick O O) (Lt ?_)))))))))
  refine CB O (fun _ => ?_) (fun h => nomatch h)
  refine Cr (Lo O (YS (by assumption)) (Lo O (YS (by assumption)) (Lo O (Y.ixS0 0 sl_23 O O O (by omega)) (Lo O (Y.ld ld_3 O (VecOk.cellS (H.get (i:=0) O) hxg)) (Lo O (Y.ixS0 x sl_23 O O O hxn) (VL.putI (m:=((1:Nat):Int)) H 1 st_3 O O O (nums_get (by omega)) ?_))))))
  intro w H
  simp only [List.set,nums_set] at H
  refine Lt (Cy (Lo O (YS (by assumption)) (Lo O (AS O) (Lt (Ct ?_)))))
  exact Done.ret1 O O ⟨_,g,kk,hfin,rfl,hg,H.blk (i:=1) rfl,H.blk (i:=2) rfl,by omega,by omega,H.frm⟩
 rw [if_neg hone] at hfin
 by_cases h0:long=0
 case neg =>
  refine Cs (Cy (Lo O (YI (by assumption)) (Lo O (Y.eqlD (b:=false) O O (decide_eq_false (by omega))) (Lo O (Y.movB O) (VL.skipG O O O O O (VL.skipG O O O O O (VL.skipG O O O O O (Lo O (Y.pick O O) (Lt (CB O (fun h => nomatch h) (fun _ => (Ck (tn (Cy (Lo O (YS (by assumption)) (Lo O (AS O) (Lt ?_)))))))))))))))))
  refine Ct ?_
  exact Done.ret1 O O ⟨_,g,kk,hfin,rfl,hg,H.blk (i:=1) rfl,H.blk (i:=2) rfl,by omega,by omega,H.frm⟩
 refine Cs (Cy (Lo O (YI (by assumption)) (Lo O (Y.eqlD (b:=true) O O (decide_eq_true (by omega))) (Lo O (Y.movB O) (LG O O O O (YS (by assumption)) (LG O O O O (Y.len sl_23 O) (LG O O O O (Y.eqlD (b:=false) O O (decide_eq_false (by omega))) (Lo O (Y.pick O O) (Lt (CB O (fun h => nomatch h) (fun _ => (Ck (tn (Cy (Lo O (YS (by assumption)) (Lo O (AS O) (Lt ?_)))))))))))))))))
 refine Ct ?_
 exact Done.ret1 O O ⟨_,g,kk,hfin,rfl,hg,H.blk (i:=1) rfl,H.blk (i:=2) rfl,by omega,by omega,H.frm⟩
abbrev Run:=Nat × Nat × Nat
def out1 (p:Nat) (r:Run):List Nat:=if r.1<16 then [r.1] else List.replicate (r.2.1+repO (r.1 - 16)) (if r.1=16 then p else 0)
def nxt (p s:Nat):Nat:=if s<16∧s≠0 then s else p
def runOut:Nat→List Run→List Nat
 | _,[] => []
 | p,r :: rs => out1 p r++runOut (nxt p r.1) rs
def runPrev:Nat→List Run→Nat
 | p,[] => p
 | p,r :: rs => runPrev (nxt p r.1) rs
theorem runOut_append:∀ (rs ts:List Run) (p:Nat),runOut p (rs++ts)=runOut p rs++runOut (runPrev p rs) ts
 | [],ts,p => rfl
 | r :: rs,ts,p => by rw [List.cons_append,runOut,runOut_append rs ts,runOut,runPrev,List.append_assoc]
theorem runPrev_append:∀ (rs ts:List Run) (p:Nat),runPrev p (rs++ts)=runPrev (runPrev p rs) ts
 | [],ts,p => rfl
 | r :: rs,ts,p => by rw [List.cons_append,runPrev,runPrev_append rs ts,runPrev]
def RunOk (r:Run):Prop:=(r.1<16∧r.2.1=0∧r.2.2=0)∨(16≤r.1∧r.1≤18∧r.2.2=repB (r.1 - 16)∧r.2.1<2 ^ repB (r.1 - 16))
theorem repBO:repB 0=2∧repB 1=3∧repB 2=7∧repO 0=3∧repO 1=3∧repO 2=11:=by
 rw [repB_eq,repB_eq,repB_eq,repO_eq,repO_eq,repO_eq]
 decide
theorem RunOk.out_pos {r:Run} (h:RunOk r) (p:Nat):1≤(out1 p r).length:=by
 unfold out1
 rcases h with h | h
 ·rw [if_pos h.1];simp
 ·rw [if_neg (by omega),List.length_replicate]
  have:=repO_pos (r.1 - 16) (by omega)
  omega
theorem RunOk.bits {r:Run} (h:RunOk r):r.1≤18∧r.2.2≤7∧r.2.1<128:=by
 rcases h with ⟨h1,h2,h3⟩ | ⟨h1,h2,h3,h4⟩
 ·omega
 ·have:=repO_pos (r.1 - 16) (by omega)
  have hp:2 ^ repB (r.1 - 16)≤2 ^ 7:=Nat.pow_le_pow_right (by omega) this.2.2
  omega
theorem runOut_len:∀ (rs:List Run) (p:Nat),(∀ r ∈ rs,RunOk r)→rs.length≤(runOut p rs).length
 | [],p,h => by simp [runOut]
 | r :: rs,p,h => by
  have h1:=(h r (by simp)).out_pos p
  have h2:=runOut_len rs (nxt p r.1) fun x hx => h x (List.mem_cons_of_mem _ hx)
  rw [runOut,List.length_append,List.length_cons]
  omega
def runBits (cd:Nat→Bits) (rs:List Run):Bits:=rs.flatMap fun r => cd r.1++bitsN r.2.1 r.2.2
theorem runBits_cons (cd:Nat→Bits) (r:Run) (rs:List Run):runBits cd (r :: rs)=cd r.1++bitsN r.2.1 r.2.2++runBits cd rs:=rfl
theorem runBits_append (cd:Nat→Bits) (rs ts:List Run):runBits cd (rs++ts)=runBits cd rs++runBits cd ts:=by simp [runBits]
theorem runBits_len (cd:Nat→Bits) (m:Nat):∀ (rs:List Run),(∀ r ∈ rs,RunOk r∧(cd r.1).length≤m)→(runBits cd rs).length≤(m+7) * rs.length
 | [],h => by simp [runBits]
 | r :: rs,h => by
  have h1:=h r (by simp)
  have h2:=runBits_len cd m rs fun x hx => h x (List.mem_cons_of_mem _ hx)
  have h3:=h1.1.bits
  rw [runBits_cons,List.length_append,List.length_append,bnl,List.length_cons,Nat.mul_succ]
  omega
theorem Rds.congr {α:Type} {p:Par α} {X X':Bits} {v v':α} (h:Rds p X v) (hX:X=X') (hv:v=v'):Rds p X' v':=by subst hX hv;exact h
theorem Rds.last {α β:Type} {p:Par α} {f:α→Par β} {X:Bits} {v:α} {u:β} (h:Rds p X v) (k:Rds (f v) [] u):Rds (Go.Proofs.YtinkhckpckfajaaDoor.pb p f) X u:=(h.pb k).congr (List.append_nil _) rfl
theorem Rds.retE {α:Type} {v u:α} (h:v=u):Rds (Go.Proofs.YtinkhckpckfajaaDoor.ret v) [] u:=h ▸ Rds.ret v
theorem clLoop_reads (t:T) (n:Nat) (cd:Nat→Bits):∀ (rs:List Run) (k:Nat) (acc:List Nat) (ms prev:Nat),
  (∀ r ∈ rs,RunOk r∧Rds t.walk (cd r.1) r.1)→acc.length+(runOut prev rs).length≤n→n≤acc.length+k→rs.length≤ms→(ms=rs.length∨acc.length+(runOut prev rs).length=n) →
  Rds (clLoop t n k acc ms prev) (runBits cd rs) (acc++runOut prev rs++List.replicate (n - (acc.length+(runOut prev rs).length)) 0)
 | [],0,acc,ms,prev,hr,hle,hk,hms,hor => by
  simp only [runOut,List.length_nil,Nat.add_zero] at hle hor ⊢
  rw [show n - acc.length=0 by omega,List.replicate_zero,List.append_nil,List.append_nil]
  exact fun Y => rfl
 | [],k+1,acc,ms,prev,hr,hle,hk,hms,hor => by
  simp only [runOut,List.length_nil,Nat.add_zero] at hle hor ⊢
  refine Rds.eq ?_ (clLoop_eq t n k acc ms prev)
  by_cases hn:n≤acc.length
  ·rw [if_pos hn,show n - acc.length=0 by omega,List.replicate_zero,List.append_nil,List.append_nil]
   exact Rds.ret acc
  ·rw [if_neg hn,if_pos (by omega),List.append_nil]
   exact Rds.ret _
 | r :: rs,0,acc,ms,prev,hr,hle,hk,hms,hor => by
  have:=(hr r (by simp)).1.out_pos prev
  rw [runOut,List.length_append] at hle
  omega
 | r :: rs,k+1,acc,ms,prev,hr,hle,hk,hms,hor => by
  have h1:=hr r (by simp)
  have hp:=h1.1.out_pos prev
  have e:(runOut prev (r :: rs)).length=(out1 prev r).length+(runOut (nxt prev r.1) rs).length:=by rw [runOut,List.length_append]
  rw [e] at hle hor
  rw [List.length_cons] at hms hor
  have ih:∀ acc',acc'=acc++out1 prev r→Rds (clLoop t n k acc' (ms - 1) (nxt prev r.1)) (runBits cd rs) (acc++runOut prev (r :: rs)++List.replicate (n - (acc.length+(runOut prev (r :: rs)).length)) 0):=by
   rintro acc' rfl
   have hl:(acc++out1 prev r).length=acc.length+(out1 prev r).length:=List.length_append
   refine (clLoop_reads t n cd rs k (acc++out1 prev r) (ms - 1) (nxt prev r.1) (fun x hx => hr x (List.mem_cons_of_mem _ hx)) (by rw [hl];omega) (by rw [hl];omega) (by omega) (by rw [hl];omega)).congr O ?_
   rw [e,hl,runOut,← List.append_assoc acc,Nat.add_assoc]
  refine Rds.eq ?_ (clLoop_eq t n k acc ms prev)
  rw [if_neg (by omega),if_neg (by omega),runBits_cons,List.append_assoc]
  refine h1.2.pb ?_
  rcases h1.1 with ⟨hs,hm,hx⟩ | ⟨hs1,hs2,hx,hm⟩
  ·rw [if_pos hs,hm,hx]
   have en:nxt prev r.1=if r.1≠0 then r.1 else prev:=by unfold nxt;by_cases h0:r.1=0 <;> simp [h0,hs]
   rw [← en]
   exact ih _ (by unfold out1;rw [if_pos hs])
  ·rw [if_neg (by omega)]
   rw [hx]
   refine (rds_bits hm).pb ?_
   have eo:out1 prev r=List.replicate (r.2.1+repO (r.1 - 16)) (if r.1=16 then prev else 0):=by unfold out1;rw [if_neg (by omega)]
   have en:nxt prev r.1=prev:=by unfold nxt;rw [if_neg (by omega)]
   have hl:(out1 prev r).length=r.2.1+repO (r.1 - 16):=by rw [eo,List.length_replicate]
   rw [if_neg (by omega)]
   have:=ih _ rfl
   rw [en,eo] at this
   exact this
def ZeroRun (r:Run):Prop:=r.1=0∨16<r.1
theorem zero_runs:∀ (rs:List Run) (p:Nat),(∀ r ∈ rs,ZeroRun r)→runOut p rs=List.replicate (runOut p rs).length 0
 | [],p,h => rfl
 | r :: rs,p,h => by
  have ih:=zero_runs rs (nxt p r.1) fun x hx => h x (List.mem_cons_of_mem _ hx)
  have h1:out1 p r=List.replicate (out1 p r).length 0:=by
   unfold out1
   rcases h r (by simp) with h0 | h0
   ·rw [h0];rfl
   ·rw [if_neg (by omega),if_neg (by omega),List.length_replicate]
  rw [runOut,List.length_append,← List.replicate_append_replicate,← h1,← ih]
theorem decCL_all {A:Nat} {ccl ls:List Nat} {t:T} {cd:Nat→Bits} {rs:List Run} (hb:buildT ccl=some t) (hr:∀ r ∈ rs,RunOk r∧Rds t.walk (cd r.1) r.1) (ho:runOut 8 rs=ls) (hl:ls.length=A) :
  Rds (decCL A ccl) (bitsN 0 1++runBits cd rs) ls:=by
 have hlen:=runOut_len rs 8 fun r h => (hr r h).1
 refine Rds.eq ?_ (decCL_eq A ccl)
 rw [hb]
 refine Rds.pb (v:=A) ?_ ?_
 ·refine Rds.eq ?_ (clMax_eq A)
  refine (Rds.pb (Z:=[]) (rds_bits (n:=0) (k:=1) (by decide)) ?_).congr (List.append_nil _) O
  rw [if_pos rfl]
  exact Rds.ret A
 ·subst ho
  refine (clLoop_reads t A cd rs A [] A 8 hr (by simp;omega) (by simp) (by omega) (.inr (by simpa using hl))).congr O ?_
  simp [hl]
theorem decCL_some {A long:Nat} {ccl ls:List Nat} {t:T} {cd:Nat→Bits} {rs zs:List Run} (hb:buildT ccl=some t) (hr:∀ r ∈ rs,RunOk r∧Rds t.walk (cd r.1) r.1) (hz:∀ r ∈ zs,RunOk r∧ZeroRun r) (ho:runOut 8 (rs++zs)=ls) (hl:ls.length=A)
  (h2:2≤rs.length) (h8:long<8) (hlong:rs.length - 2<2 ^ (2+2 * long)) :
  Rds (decCL A ccl) (bitsN 1 1++(bitsN long 3++bitsN (rs.length - 2) (2+2 * long))++runBits cd rs) ls:=by
 have hlen:=runOut_len (rs++zs) 8 fun r h => by
  rcases List.mem_append.1 h with h | h
  ·exact (hr r h).1
  ·exact (hz r h).1
 rw [ho,hl,List.length_append] at hlen
 refine Rds.eq ?_ (decCL_eq A ccl)
 rw [hb]
 refine Rds.pb (v:=rs.length) ?_ ?_
 ·refine Rds.eq ?_ (clMax_eq A)
  refine (rds_bits (n:=1) (k:=1) (by decide)).pb ?_
  rw [if_neg (by decide)]
  refine (rds_bits (by simpa using h8)).pb ?_
  refine (Rds.pb (Z:=[]) (rds_bits hlong) ?_).congr (List.append_nil _) O
  rw [if_neg (by omega)]
  exact (Rds.ret _).congr O (by omega)
 ·rw [runOut_append] at ho
  have hzr:=zero_runs zs (runPrev 8 rs) fun r h => (hz r h).2
  have hA:(runOut 8 rs).length+(runOut (runPrev 8 rs) zs).length=A:=by rw [← hl,← ho,List.length_append]
  refine (clLoop_reads t A cd rs A [] rs.length 8 hr (by simp;omega) (by simp) (by omega) (.inl O)).congr O ?_
  rw [List.nil_append,List.length_nil,Nat.zero_add,← ho]
  conv => rhs;rw [hzr]
  congr 2
  omega
theorem cclLoop_reads (l:Nat→Nat) (hl:∀ j,j<19→l j<8):∀ (k i:Nat) (f:Nat→Nat),i+k≤19 →
  Rds (cclLoop k i f) ((List.range' i k).flatMap fun q => bitsN (l (ord q)) 3) (fun j => (List.range' i k).foldl (fun v q => if j=ord q then l j else v) (f j))
 | 0,i,f,h => Rds.ret f
 | k+1,i,f,h => by
  rw [List.range'_succ,List.flatMap_cons,cclLoop]
  refine (rds_bits (show l (ord i)<2 ^ 3 from hl _ (ord_lt i (by omega)))).pb ((cclLoop_reads l hl k (i+1) _ (by omega)).congr O (funext fun j => ?_))
  rw [List.foldl_cons]
  by_cases e:j=ord i
  ·subst e;simp
  ·rw [if_neg e,if_neg e]
theorem foldl_pick (v:Nat) (p:Nat→Prop) [DecidablePred p]:∀ (l:List Nat) (a:Nat),l.foldl (fun a q => if p q then v else a) a=if (∃ q ∈ l,p q) then v else a
 | [],a => by simp
 | x :: l,a => by
  rw [List.foldl_cons,foldl_pick v p l]
  by_cases h1:∃ q ∈ l,p q
  ·rw [if_pos h1,if_pos (by obtain ⟨q,hq,h⟩:=h1;exact ⟨q,List.mem_cons_of_mem _ hq,h⟩)]
  ·rw [if_neg h1]
   by_cases h2:p x
   ·rw [if_pos h2,if_pos ⟨x,by simp,h2⟩]
   ·rw [if_neg h2,if_neg]
    rintro ⟨q,hq,h⟩
    rcases List.mem_cons.1 hq with rfl | hq
    ·exact h2 h
    ·exact h1 ⟨q,hq,h⟩
theorem ord_onto:∀ j,j<19→∃ i,i<19∧ord i=j:=by
 have:∀ j,j<19→∃ i,i<19∧tab_codeLengthCodeOrder.getD i 0=j:=by decide
 intro j hj
 obtain ⟨i,h1,h2⟩:=this j hj
 exact ⟨i,h1,by rw [ord_eq];exact h2⟩
theorem ccl_reads (ls:List Nat) (hl:ls.length=19) (h7:∀ x ∈ ls,x≤7) (n:Nat) (hn:n≤19) (hz:∀ i,n≤i→i<19→ls.getD (ord i) 0=0) :
  ∃ f,Rds (cclLoop n 0 (fun _ => 0)) ((List.range n).flatMap fun q => bitsN (ls.getD (ord q) 0) 3) f∧(List.range 19).map f=ls:=by
 have hlt:∀ j,j<19→ls.getD j 0<8:=fun j hj => by
  have:ls.getD j 0=ls[j]:=by simp [hl,hj]
  rw [this]
  have:=h7 _ (List.getElem_mem (show j<ls.length by omega))
  omega
 refine ⟨_,by rw [List.range_eq_range'];exact cclLoop_reads (fun j => ls.getD j 0) hlt n 0 _ (by omega),?_⟩
 apply List.ext_getElem
 ·simp [hl]
 ·intro j h1 h2
  rw [List.getElem_map,List.getElem_range,foldl_pick]
  have hj:j<19:=by simpa using h1
  have e:ls.getD j 0=ls[j]:=by simp [h2]
  split
  ·exact e
  ·rename_i hne
   obtain ⟨i,hi,ho⟩:=ord_onto j hj
   rw [← e,← ho]
   refine (hz i (Nat.le_of_not_lt fun hlt => hne ⟨i,?_,ho.symm⟩) hi).symm
   simp [hlt]
theorem list_map_getD (ls:List Nat):(List.range ls.length).map (fun s => ls.getD s 0)=ls:=by
 apply List.ext_getElem
 ·simp
 ·intro j h1 h2
  simp [h2]
theorem LenOk.count {u:Nat→Bool} {n most:Nat} {ls:List Nat} (h:LenOk u n most ls):ls.countP (·≠0)=(usedL u n).length:=by
 rw [← list_map_getD ls,List.countP_map,h.len,List.countP_eq_length_filter]
 congr 1
 apply List.filter_congr
 intro s hs
 have:=h.used s (List.mem_range.1 hs)
 cases hu:u s with
 | true => simpa using this.2 hu
 | false =>
  have:¬ ls.getD s 0≠0:=fun h0 => by rw [this.1 h0] at hu;cases hu
  simpa using this
theorem kraft_used {u:Nat→Bool} {n most:Nat} {ls:List Nat} (h:LenOk u n most ls):kraft ls=((usedL u n).map fun s => room (ls.getD s 0)).sum:=by
 have key:∀ m,m≤n→(((List.range m).map fun s => room (ls.getD s 0)).sum=((usedL u m).map fun s => room (ls.getD s 0)).sum):=by
  intro m
  induction m with
  | zero => intro _;rfl
  | succ m ih =>
   intro hm
   rw [List.range_succ,List.map_append,List.sum_append,ih (by omega),usedL_succ]
   have hu:=h.used m (by omega)
   cases e:u m with
   | true => simp
   | false =>
    have:ls.getD m 0=0:=by
     by_cases h0:ls.getD m 0=0
     ·exact h0
     ·rw [hu.1 h0] at e;cases e
    have h2:room (ls.getD m 0)=0:=by rw [this];rfl
    rw [List.map_singleton,List.sum_singleton,h2,if_neg (by simp)]
    rfl
 rw [← key n (Nat.le_refl _)]
 unfold kraft
 conv => lhs;rw [← list_map_getD ls]
 rw [List.map_map,h.len]
 rfl
def symBits (u:Nat→Bool) (n:Nat) (ls:List Nat) (s:Nat):Bits:=if (usedL u n).length=1 then [] else bitsM (scode ls s) (ls.getD s 0)
theorem LenOk.reads {u:Nat→Bool} {n most:Nat} {ls:List Nat} (h:LenOk u n most ls) (hm:most≤15) (hu:usedL u n≠[]) :
  ∃ t,buildT ls=some t∧∀ s,s<n→u s=true→Rds t.walk (symBits u n ls s) s:=by
 have hc:=h.count
 have hpos:0<(usedL u n).length:=List.length_pos_iff.2 hu
 by_cases h1:(usedL u n).length=1
 ·obtain ⟨x,hx⟩:=List.length_eq_one_iff.1 h1
  have hxm:=(usedL_mem u n x).1 (by rw [hx];simp)
  refine ⟨.leaf x,buildT_one (by rw [hc,h1]) (by rw [h.len];exact hxm.1) ((h.used x hxm.1).2 hxm.2),fun s hs hus Y => ?_⟩
  have:s ∈ usedL u n:=(usedL_mem u n s).2 ⟨hs,hus⟩
  rw [hx,List.mem_singleton] at this
  subst this
  unfold symBits
  rw [if_pos h1]
  rfl
 ·obtain ⟨t,ht,hw⟩:=buildT_kraft (ls:=ls) (by omega) (fun x hx => Nat.le_trans (h.most x hx) hm) (h.full (by omega))
  refine ⟨t,ht,fun s hs hus Y => ?_⟩
  have h0:=(h.used s hs).2 hus
  unfold symBits
  rw [if_neg h1,scode_path ls s h0]
  exact hw s (by rw [h.len];exact hs) h0 Y
theorem usedL_low (u:Nat→Bool) {a n:Nat} (h:a≤n):usedL u a=(usedL u n).filter (·<a):=by
 unfold usedL
 rw [List.filter_filter,show n=a+(n - a) by omega,List.range_add,List.filter_append]
 have h1:(List.range a).filter (fun x => decide (x<a) && u x)=(List.range a).filter u:=by
  apply List.filter_congr
  intro x hx
  simp [List.mem_range.1 hx]
 have h2:((List.range (n - a)).map (a+·)).filter (fun x => decide (x<a) && u x)=[]:=by
  rw [List.filter_eq_nil_iff]
  intro x hx
  obtain ⟨y,_,rfl⟩:=List.mem_map.1 hx
  simp
  intro h0
  omega
 rw [h1,h2,List.append_nil]
theorem take_ones {u:Nat→Bool} {n most:Nat} {ls:List Nat} (h:LenOk u n most ls) (hall:∀ s ∈ usedL u n,ls.getD s 0=1) (a:Nat) (ha:a≤n):(ls.take a).count 1=(usedL u a).length:=by
 induction a with
 | zero => simp [usedL]
 | succ a ih =>
  rw [take_count_succ ls a (by rw [h.len];omega),ih (by omega),usedL_succ]
  have e:ls.getD a 0=ls[a]'(by rw [h.len];omega):=by simp [h.len,show a<n by omega]
  cases hu:u a with
  | true =>
   have h1:ls[a]'(by rw [h.len];omega)=1:=by rw [← e];exact hall a ((usedL_mem u n a).2 ⟨by omega,hu⟩)
   simp [h1]
  | false =>
   have h1:¬ ls[a]'(by rw [h.len];omega)=1:=by
    rw [← e]
    intro h1
    have:=(h.used a (by omega)).1 (by omega)
    rw [hu] at this
    cases this
   simp [h1]
theorem two_lengths {u:Nat→Bool} {n most:Nat} {ls:List Nat} {a b:Nat} (h:LenOk u n most ls) (hu:usedL u n=[a,b]):a<b∧b<n∧ls.getD a 0=1∧ls.getD b 0=1∧scode ls a=0∧scode ls b=1:=by
 have ha:=(usedL_mem u n a).1 (by rw [hu];simp)
 have hb:=(usedL_mem u n b).1 (by rw [hu];simp)
 have hab:a<b:=by
  have hs:(usedL u n).Pairwise (·<·):=List.Pairwise.filter _ List.pairwise_lt_range
  rw [hu] at hs
  simpa using hs
 have hk:=kraft_used h
 rw [h.full (by rw [hu];simp),hu] at hk
 simp only [List.map_cons,List.map_nil,List.sum_cons,List.sum_nil,Nat.add_zero] at hk
 have hr:∀ l,l≠0→room l≤2 ^ 14∧(room l=2 ^ 14→l=1):=fun l h0 => by
  unfold room
  rw [if_neg h0]
  refine ⟨Nat.pow_le_pow_right (by omega) (by omega),fun he => ?_⟩
  rcases Nat.lt_or_ge 1 l with hlt | hge
  ·have:=Nat.pow_le_pow_right (n:=2) (by omega) (show 15 - l≤13 by omega)
   rw [he] at this
   exact absurd this (by decide)
  ·omega
 have h1:=hr _ ((h.used a ha.1).2 ha.2)
 have h2:=hr _ ((h.used b hb.1).2 hb.2)
 have e15:(2:Nat) ^ 15=2 ^ 14+2 ^ 14:=by decide
 have la:=h1.2 (by omega)
 have lb:=h2.2 (by omega)
 have hall:∀ s ∈ usedL u n,ls.getD s 0=1:=fun s hs => by
  rw [hu] at hs
  simp only [List.mem_cons,List.not_mem_nil,or_false] at hs
  rcases hs with rfl | rfl
  ·exact la
  ·exact lb
 have us1:us ls 1=0:=rfl
 refine ⟨hab,hb.1,la,lb,?_,?_⟩
 ·unfold scode
  rw [la,us1,take_ones h hall a (by omega),usedL_low u (show a≤n by omega),hu]
  simp
  omega
 ·unfold scode
  rw [lb,us1,take_ones h hall b (by omega),usedL_low u (show b≤n by omega),hu]
  simp [hab]
def fstBits (sh:Bool) (s:Nat):Bits:=if sh then bitsN 0 1++bitsN s 1 else bitsN 1 1++bitsN s 8
theorem simple_reads {u:Nat→Bool} {A most:Nat} {ls l:List Nat} {sh:Bool} (h:LenOk u A most ls) (hl:usedL u A=l) (hne:l≠[]) (h2:l.length≤2) (h256:∀ s ∈ l,s<256) (hsh:sh=true→l.getD 0 0<2) :
  ∃ t,Rds (decSimple A) (bitsN (l.length - 1) 1++(fstBits sh (l.getD 0 0)++(if l.length=2 then bitsN (l.getD 1 0) 8 else []))) t∧∀ s,s<A→u s=true→Rds t.walk (symBits u A ls s) s:=by
 have first:∀ {β:Type} {f:Nat→Par β} {Z:Bits} {v:β} (s:Nat),s<256→(sh=true→s<2)→Rds (f s) Z v→Rds (pb (rd 1) fun q => pb (rd (7 * q+1)) f) (fstBits sh s++Z) v:=by
  intro β f Z v s hs h2 hf
  unfold fstBits
  cases sh with
  | true =>
   rw [if_pos rfl,List.append_assoc]
   exact (rds_bits (n:=0) (k:=1) (by decide)).pb ((rds_bits (k:=7 * 0+1) (by have:=h2 rfl;omega)).pb hf)
  | false =>
   rw [if_neg (by simp),List.append_assoc]
   exact (rds_bits (n:=1) (k:=1) (by decide)).pb ((rds_bits (k:=7 * 1+1) (by omega)).pb hf)
 match l,hne,h2,hl,h256,hsh with
 | [a],_,_,hl,h256,hsh =>
  have ha:=(usedL_mem u A a).1 (by rw [hl];simp)
  refine ⟨.leaf a,?_,fun s hs hus Y => ?_⟩
  ·refine (rds_bits (n:=0) (k:=1) (by decide)).pb ?_
   refine first a (h256 a (by simp)) hsh ?_
   rw [if_neg (by decide),if_neg (by simp)]
   unfold simpleT
   rw [if_pos rfl,if_pos ha.1]
   exact Rds.ret _
  ·have:s ∈ usedL u A:=(usedL_mem u A s).2 ⟨hs,hus⟩
   rw [hl,List.mem_singleton] at this
   subst this
   unfold symBits
   simp [hl]
   rfl
 | [a,b],_,_,hl,h256,hsh =>
  obtain ⟨hab,hb,la,lb,ca,cb⟩:=two_lengths h hl
  refine ⟨.node (.leaf a) (.leaf b),?_,fun s hs hus Y => ?_⟩
  ·refine (rds_bits (n:=1) (k:=1) (by decide)).pb ?_
   refine first a (h256 a (by simp)) hsh ?_
   rw [if_pos rfl,if_pos (by simp)]
   refine (Rds.pb (Z:=[]) (rds_bits (show b<2 ^ 8 from h256 b (by simp))) ?_).congr (List.append_nil _) O
   unfold simpleT
   rw [if_neg (by decide),if_pos (by omega)]
   exact Rds.ret _
  ·have:s ∈ usedL u A:=(usedL_mem u A s).2 ⟨hs,hus⟩
   rw [hl] at this
   simp only [List.mem_cons,List.not_mem_nil,or_false] at this
   unfold symBits
   rw [hl,if_neg (by simp)]
   rcases this with rfl | rfl
   ·rw [ca,la];rfl
   ·rw [cb,lb];rfl
def runCell (r:Run):List Value:=[.int .i64 (r.1:Nat),.int .i64 (r.2.1:Nat),.int .i64 (r.2.2:Nat)]
def runCells (rs:List Run):List Value:=rs.flatMap runCell
theorem runCells_snoc (rs:List Run) (r:Run):runCells (rs++[r])=runCells rs++runCell r:=by simp [runCells]
theorem runCell_one (r:Run):∀ u ∈ runCell r,u.oneCell'=true:=by
 intro u hu
 simp only [runCell,List.mem_cons,List.not_mem_nil,or_false] at hu
 rcases hu with rfl | rfl | rfl <;> rfl
theorem runOk18 {m:Nat} (h:m<128):RunOk (18,m,7):=.inr ⟨by show 16≤18;omega,by show 18≤18;omega,by show 7=repB 2;exact repBO.2.2.1.symm,by show m<2 ^ repB 2;rw [repBO.2.2.1];exact h⟩
theorem runOk17 {m:Nat} (h:m<8):RunOk (17,m,3):=.inr ⟨by show 16≤17;omega,by show 17≤18;omega,by show 3=repB 1;exact repBO.2.1.symm,by show m<2 ^ repB 1;rw [repBO.2.1];exact h⟩
theorem runOk16 {m:Nat} (h:m<4):RunOk (16,m,2):=.inr ⟨by show 16≤16;omega,by show 16≤18;omega,by show 2=repB 0;exact repBO.1.symm,by show m<2 ^ repB 0;rw [repBO.1];exact h⟩
theorem out18 {m p:Nat} (h:11≤m):out1 p (18,m - 11,7)=List.replicate m 0:=by
 show List.replicate (m - 11+repO 2) 0=_
 rw [repBO.2.2.2.2.2,show m - 11+11=m by omega]
theorem out17 {m p:Nat} (h:3≤m):out1 p (17,m - 3,3)=List.replicate m 0:=by
 show List.replicate (m - 3+repO 1) 0=_
 rw [repBO.2.2.2.2.1,show m - 3+3=m by omega]
theorem out16 {m p:Nat} (h:3≤m):out1 p (16,m - 3,2)=List.replicate m p:=by
 show List.replicate (m - 3+repO 0) p=_
 rw [repBO.2.2.2.1,show m - 3+3=m by omega]
structure RunsTo (ls:List Nat) (i p:Nat) (rs:List Run):Prop where
 out:runOut 8 rs=ls.take i
 prev:runPrev 8 rs=p
 ok:∀ r ∈ rs,RunOk r
 len:rs.length≤i
theorem RunsTo.snoc {ls:List Nat} {i p m x:Nat} {rs:List Run} {r:Run} (h:RunsTo ls i p rs) (hr:RunOk r) (hm:i+m≤ls.length) (h1:1≤m) (hx:∀ j,j<m→ls.getD (i+j) 0=x) (ho:out1 p r=List.replicate m x):RunsTo ls (i+m) (nxt p r.1) (rs++[r]):=by
 refine ⟨?_,?_,fun q hq => ?_,?_⟩
 ·rw [runOut_append,h.out,h.prev,replicate_take hm hx,runOut,runOut,ho,List.append_nil]
 ·rw [runPrev_append,h.prev];rfl
 ·rcases List.mem_append.1 hq with hq | hq
  ·exact h.ok q hq
  ·rw [List.mem_singleton] at hq;subst hq;exact hr
 ·have:=h.len
  rw [List.length_append,List.length_singleton]
  omega
theorem runs_any (W:World) (b o c:Nat) (ls:List Nat) (hr:Row W .i64 b o ls) (h15:∀ x ∈ ls,x≤15) (hn:ls.length≤4096) (cb B k:Nat) (v:Value) (hb:Blk W cb (chL v k) 53) (hw:WayAt B v W) (hB:B≠cb) (hk:k≤4611686018427300000) (hbc:b≠cb) :
  Calls Tryd.prog 72 #[.slice (some ⟨b,o,none⟩) ls.length c,.pointer (some ⟨cb,0,none⟩)] W fun e w' => ∃ rs a cap k',e=.returned (.slice a rs.length cap)∧VecOk w' a cap 162 3 rs.length (runCells rs)∧(∀ x ∈ footA a,W.heap.size≤x) ∧
   RunsTo ls ls.length (runPrev 8 rs) rs∧Blk w' cb (chL v k') 53∧k≤k'∧k'≤k+3 * ls.length∧Frm [cb] W w':=by
 have H:=(St.ofBlk hb).vec0 162 3
 have hS:b ∉ [cb]:=by simpa using hbc
 have hcbB:∀ x ∈ [cb],B≠x:=by simpa using hB
 refine enter (m:=125) Tryd.func72 O Tryd.ntmps72 O (Cy (Lo O (Y.asg O) (Lt (Cy (Lo O (Y.asg O) (Lt (Cy (Lo O (AI O) (Lt (Cs (Cy (Lo O (AI O) (Ln ?_)))))))))))))
 refine tn ?_
 refine VC.join (fun ρ w' => ∃ rs a cap kk,ρ 5=.slice a rs.length cap∧RunsTo ls ls.length (runPrev 8 rs) rs∧k≤kk∧kk≤k+3 * ls.length ∧
  St W [cb] [vecR a cap 162 3 rs.length (runCells rs),blkR cb (chL v kk) 53] w') ?_ ?_
 case refine_1 =>
  refine Cb ?_
  refine Cl (fun mm ρ w' => ∃ i rs p a cap kk,i≤ls.length∧mm=ls.length - i∧RunsTo ls i p rs∧k≤kk∧kk≤k+3 * i∧ρ 0=.slice (some ⟨b,o,none⟩) ls.length c∧ρ 1=.pointer (some ⟨cb,0,none⟩)∧ρ 5=.slice a rs.length cap∧ρ 6=.int .i64 (p:Nat)∧ρ 7=.int .i64 (i:Nat) ∧
   St W [cb] [vecR a cap 162 3 rs.length (runCells rs),blkR cb (chL v kk) 53] w') ls.length
   ⟨0,[],8,none,0,k,by omega,rfl,⟨rfl,rfl,by simp,by simp⟩,by omega,by omega,rfl,rfl,rfl,rfl,rfl,H⟩ ?_
  clear H
  rintro mm ρ w5 ⟨i,rs,p,a,cap,kk,hi,hmm,hR,hk1,hk2,r0,r1,r5,r6,r7,H⟩
  refine Cs (Cy (Lo O (YI r7) (Lo O (YS r0) (Lo O (Y.len sl_23 O) (Lo O (Y.lss O O) (Lt ?_))))))
  by_cases hlt:i<ls.length
  case neg =>
   obtain rfl:i=ls.length:=by omega
   refine CF O (by omega) (Cx (thn_x (thn_x (blk_x (tn ?_)))))
   exact ⟨rs,a,cap,kk,r5,by rw [hR.prev];exact hR,hk1,hk2,H⟩
  have hcell:=hr i hlt
  obtain ⟨x,hx⟩:∃ x,x=ls[i]:=⟨_,rfl⟩
  have hx15:x≤15:=by rw [hx];exact h15 _ (List.getElem_mem hlt)
  have hxg:ls.getD i 0=x:=by simp [hlt,hx]
  rw [← hx] at hcell
  refine CT O (by omega) (Ck (tn (Cb (Cy (Lo O (AI O) (Lt (Cs ?_)))))))
  refine VC.join (fun ρ w' => ∃ m,1≤m∧i+m≤ls.length∧(∀ j,j<m→ls.getD (i+j) 0=x)∧ρ 0=.slice (some ⟨b,o,none⟩) ls.length c∧ρ 1=.pointer (some ⟨cb,0,none⟩)∧ρ 5=.slice a rs.length cap∧ρ 6=.int .i64 (p:Nat)∧ρ 7=.int .i64 (i:Nat)∧ρ 8=.int .i64 (m:Nat) ∧
   St W [cb] [vecR a cap 162 3 rs.length (runCells rs),blkR cb (chL v kk) 53] w') ?_ ?_
  case refine_1 =>
   refine Cb ?_
   refine Cl (fun mm ρ w' => ∃ m,mm=ls.length - m∧1≤m∧i+m≤ls.length∧(∀ j,j<m→ls.getD (i+j) 0=x)∧ρ 0=.slice (some ⟨b,o,none⟩) ls.length c∧ρ 1=.pointer (some ⟨cb,0,none⟩)∧ρ 5=.slice a rs.length cap∧ρ 6=.int .i64 (p:Nat)∧ρ 7=.int .i64 (i:Nat)∧ρ 8=.int .i64 (m:Nat) ∧
    St W [cb] [vecR a cap 162 3 rs.length (runCells rs),blkR cb (chL v kk) 53] w') (ls.length - 1)
    ⟨1,rfl,by omega,by omega,fun j hj => by rw [show i+j=i by omega];exact hxg,r0,r1,r5,r6,r7,rfl,H⟩ ?_
   clear H r0 r1 r5 r6 r7
   rintro mm ρ w6 ⟨m,hmm2,h1,hm,hall,r0,r1,r5,r6,r7,r8,H⟩
   by_cases hmn:i+m<ls.length
   case neg =>
    refine Cs (Cs (Cd mixedP (by kernel_rfl) ?_))
    intro w hsame
    replace H:=H.same hsame
    refine So O (YI r7) (So O (YI r8) (So O (Y.add O O (n64 (by omega))) (So O (YS r0) (So O (Y.len sl_23 O) (So O (Y.lssD (b:=false) O O (decide_eq_false (by omega))) (So O (Y.movB O) (VS.skipG O O O O O (VS.skipG O O O O O (VS.skipG O O O O O (VS.skipG O O O O O (VS.skipG O O O O O (VS.skipG O O O O O (VS.skipG O O O O O (VS.skipG O O O O O (VS.skipG O O O O O (VS.skipG O O O O O (VS.skipG O O O O O (So O (Y.pick O O) (Sn ?_)))))))))))))))))))
    refine tn (CB O (fun h => nomatch h) (fun _ => (Cx (thn_x (thn_x (blk_x (tn ?_)))))))
    exact ⟨m,h1,hm,hall,r0,r1,r5,r6,r7,r8,H⟩
   have hcell2:=hr (i+m) hmn
   obtain ⟨y,hy⟩:∃ y,y=ls[i+m]:=⟨_,rfl⟩
   have hyg:ls.getD (i+m) 0=y:=by simp [hmn,hy]
   rw [← hy] at hcell2
   refine Cs (Cs (Cd mixedP (by kernel_rfl) ?_))
   intro w hsame
   replace H:=H.same hsame
   refine So O (YI r7) (So O (YI r8) (So O (Y.add O O (n64 (by omega))) (So O (YS r0) (So O (Y.len sl_23 O) (So O (Y.lssD (b:=true) O O (decide_eq_true (by omega))) (So O (Y.movB O) (VS.opG O O O O (YS r0) (VS.opG O O O O (YI r7) (VS.opG O O O O (YI r8) (VS.opG O O O O (Y.add O O (n64 (by omega))) (VS.opG O O O O (Y.ixS1 (i+m) sl_23 O O O hmn) (VS.opG O O O O (Y.ld ld_3 O (H.old hcell2 hS)) (VS.opG O O O O (YS r0) (VS.opG O O O O (YI r7) (VS.opG O O O O (Y.ixS1 i sl_23 O O O hlt) (VS.opG O O O O (Y.ld ld_3 O (H.old hcell hS)) (VS.opG O O O O (Y.eql O O) (So O (Y.pick O O) (Sn ?_)))))))))))))))))))
   refine tn ?_
   by_cases hxy:y=x
   case neg =>
    refine CF O (by omega) (Cx (thn_x (thn_x (blk_x (tn ?_)))))
    exact ⟨m,h1,hm,hall,r0,r1,r5,r6,r7,r8,H⟩
   refine CT O (by omega) (Ck (tn (Cb (Cr (Lo O (YI r8) (Lo O (Y.add O O (n64 (b:=1) (by omega))) (Lo O (AI O) (Ln (blk_n (tn ?_))))))))))
   refine ⟨ls.length - (m+1),by omega,m+1,rfl,by omega,by omega,fun j hj => ?_,r0,r1,r5,r6,r7,rfl,H⟩
   by_cases hjm:j=m
   ·rw [hjm,hyg,hxy]
   ·exact hall j (by omega)
  case refine_2 =>
  clear H r0 r1 r5 r6 r7
  rintro ρ w6 ⟨m,h1,hm,hall,r0,r1,r5,r6,r7,r8,H⟩
  have hrl:=hR.len
  refine Cs ?_
  refine VC.join (fun ρ w' => ∃ m' rs' p' a' cap' kk',1≤m'∧i+m'≤ls.length∧RunsTo ls (i+m') p' rs'∧kk≤kk'∧kk'≤kk+3 * m'∧ρ 0=.slice (some ⟨b,o,none⟩) ls.length c∧ρ 1=.pointer (some ⟨cb,0,none⟩)∧ρ 5=.slice a' rs'.length cap'∧ρ 6=.int .i64 (p':Nat)∧ρ 7=.int .i64 (i:Nat)∧ρ 8=.int .i64 (m':Nat) ∧
   St W [cb] [vecR a' cap' 162 3 rs'.length (runCells rs'),blkR cb (chL v kk') 53] w') ?_ ?_
  case refine_1 =>
   refine Cb (Cs ?_)
   refine VC.join (fun ρ w' => ∃ (T:Bool) (kk':Nat),ρ 51=.bool T∧(T=true→x=0∧11≤m)∧kk≤kk'∧kk'≤kk+1∧ρ 0=.slice (some ⟨b,o,none⟩) ls.length c∧ρ 1=.pointer (some ⟨cb,0,none⟩)∧ρ 5=.slice a rs.length cap∧ρ 6=.int .i64 (p:Nat)∧ρ 7=.int .i64 (i:Nat)∧ρ 8=.int .i64 (m:Nat) ∧
    St W [cb] [vecR a cap 162 3 rs.length (runCells rs),blkR cb (chL v kk') 53] w') ?_ ?_
   case refine_1 =>
    by_cases hx0:x=0
    case neg =>
     refine Cr (Lo O (YS r0) (Lo O (YI r7) (Lo O (Y.ixS1 i sl_23 O O O hlt) (Lo O (Y.ld ld_3 O (H.old hcell hS)) (Lo O (Y.eqlD (b:=false) O O (decide_eq_false (by omega))) (Lo O (Y.movB O) (VL.skipG O O O O O (VL.skipG O O O O O (Lo O (Y.pick O O) (Lo O (Y.movB O) (VL.skipG O O O O O (VL.skipG O O O O O (VL.skipG O O O O O (Lo O (Y.pick O O) (Lo O (Y.asgB O) (Lt ?_))))))))))))))))
     exact ⟨false,kk,rfl,by simp,by omega,by omega,r0,r1,r5,r6,r7,r8,H⟩
    by_cases hm11:11≤m
    case neg =>
     refine Cr (Lo O (YS r0) (Lo O (YI r7) (Lo O (Y.ixS1 i sl_23 O O O hlt) (Lo O (Y.ld ld_3 O (H.old hcell hS)) (Lo O (Y.eqlD (b:=true) O O (decide_eq_true (by omega))) (Lo O (Y.movB O) (LG O O O O (YI r8) (LG O O O O (Y.geqD (b:=false) O O (decide_eq_false (by omega))) (Lo O (Y.pick O O) (Lo O (Y.movB O) (VL.skipG O O O O O (VL.skipG O O O O O (VL.skipG O O O O O (Lo O (Y.pick O O) (Lo O (Y.asgB O) (Lt ?_))))))))))))))))
     exact ⟨false,kk,rfl,by simp,by omega,by omega,r0,r1,r5,r6,r7,r8,H⟩
    refine Cr (Lo O (YS r0) (Lo O (YI r7) (Lo O (Y.ixS1 i sl_23 O O O hlt) (Lo O (Y.ld ld_3 O (H.old hcell hS)) (Lo O (Y.eqlD (b:=true) O O (decide_eq_true (by omega))) (Lo O (Y.movB O) (LG O O O O (YI r8) (LG O O O O (Y.geqD (b:=true) O O (decide_eq_true (by omega))) (Lo O (Y.pick O O) (Lo O (Y.movB O) (LG O O O O (YP r1) (VL.nextG H 1 O hw hcbB hB 4 (by omega) (by omega) (by omega) O O O O O O ?_))))))))))))
    intro w r hr4 H
    simp only [List.set] at H
    refine LG O O O O (Y.gtr O O) (Lo O (Y.pick O O) (Lo O (Y.asgB O) (Lt ?_)))
    exact ⟨_,kk+1,rfl,fun _ => ⟨hx0,hm11⟩,by omega,by omega,r0,r1,r5,r6,r7,r8,H⟩
   case refine_2 =>
   clear H r0 r1 r5 r6 r7 r8
   rintro ρ w7 ⟨T,kk1,r51,hT,hk3,hk4,r0,r1,r5,r6,r7,r8,H⟩
   refine CB r51 (fun hTt => ?_) (fun _ => ?_)
   ·obtain ⟨hx0,hm11⟩:=hT hTt
    subst hx0
    refine Cy (Lo O (YI r8) (Lo O (Y.min O O (minN (b:=138))) (Lo O (AI O) (Lt (Cr (Lo O (YS r5) (Lo O (YI O) (Lo O (Y.sub O O (s64 (b:=11) (by omega))) (Lo O (Y.bld (runCell (18,min m 138 - 11,7)) O (by kernel_rfl)) (VL.bslice H mk_159 (runCell (18,min m 138 - 11,7)) O O (by decide) (by decide) (by kernel_rfl) ?_))))))))))
    intro w b22 hn22 hb22 H
    refine VL.append H 1 mk_159 (by decide) O O O O (news:=runCell (18,min m 138 - 11,7)) O (fun j u hj => by rw [Nat.zero_add];exact H.cell 0 O hj) (runCell_one _) (by simp only [maxLen];omega) (by omega) ?_
    intro a' c' w hfa H
    simp only [List.set] at H
    refine Lo O (AS O) (Ln (blk_n (tn ?_)))
    refine ⟨min m 138,rs++[(18,min m 138 - 11,7)],_,a',c',kk1,by omega,by omega,hR.snoc (runOk18 (by omega)) (by omega) (by omega) (fun j hj => hall j (by omega)) (out18 (by omega)),by omega,by omega,r0,r1,?_,r6,r7,rfl,?_⟩
    ·rw [List.length_append];rfl
    ·rw [runCells_snoc,List.length_append]
     exact H.sub [1,2] O (by simp)
   refine Cs ?_
   refine VC.join (fun ρ w' => ∃ (T:Bool) (kk':Nat),ρ 74=.bool T∧(T=true→x=0∧3≤m)∧kk≤kk'∧kk'≤kk+2∧ρ 0=.slice (some ⟨b,o,none⟩) ls.length c∧ρ 1=.pointer (some ⟨cb,0,none⟩)∧ρ 5=.slice a rs.length cap∧ρ 6=.int .i64 (p:Nat)∧ρ 7=.int .i64 (i:Nat)∧ρ 8=.int .i64 (m:Nat) ∧
    St W [cb] [vecR a cap 162 3 rs.length (runCells rs),blkR cb (chL v kk') 53] w') ?_ ?_
   case refine_1 =>
    by_cases hx0:x=0
    case neg =>
     refine Cr (Lo O (YS r0) (Lo O (YI r7) (Lo O (Y.ixS1 i sl_23 O O O hlt) (Lo O (Y.ld ld_3 O (H.old hcell hS)) (Lo O (Y.eqlD (b:=false) O O (decide_eq_false (by omega))) (Lo O (Y.movB O) (VL.skipG O O O O O (VL.skipG O O O O O (Lo O (Y.pick O O) (Lo O (Y.movB O) (VL.skipG O O O O O (VL.skipG O O O O O (VL.skipG O O O O O (Lo O (Y.pick O O) (Lo O (Y.asgB O) (Lt ?_))))))))))))))))
     exact ⟨false,kk1,rfl,by simp,by omega,by omega,r0,r1,r5,r6,r7,r8,H⟩
    by_cases hml:3≤m
    case neg =>
     refine Cr (Lo O (YS r0) (Lo O (YI r7) (Lo O (Y.ixS1 i sl_23 O O O hlt) (Lo O (Y.ld ld_3 O (H.old hcell hS)) (Lo O (Y.eqlD (b:=true) O O (decide_eq_true (by omega))) (Lo O (Y.movB O) (LG O O O O (YI (by assumption)) (LG O O O O (Y.geqD (b:=false) O O (decide_eq_false (by omega))) (Lo O (Y.pick O O) (Lo O (Y.movB O) (VL.skipG O O O O O (VL.skipG O O O O O (VL.skipG O O O O O (Lo O (Y.pick O O) (Lo O (Y.asgB O) (Lt ?_))))))))))))))))
     exact ⟨false,kk1,rfl,by simp,by omega,by omega,r0,r1,r5,r6,r7,r8,H⟩
    refine Cr (Lo O (YS r0) (Lo O (YI r7) (Lo O (Y.ixS1 i sl_23 O O O hlt) (Lo O (Y.ld ld_3 O (H.old hcell hS)) (Lo O (Y.eqlD (b:=true) O O (decide_eq_true (by omega))) (Lo O (Y.movB O) (LG O O O O (YI (by assumption)) (LG O O O O (Y.geqD (b:=true) O O (decide_eq_true (by omega))) (Lo O (Y.pick O O) (Lo O (Y.movB O) (LG O O O O (YP r1) (VL.nextG H 1 O hw hcbB hB 4 (by omega) (by omega) (by omega) O O O O O O ?_))))))))))))
    intro w r hr4 H
    simp only [List.set] at H
    refine LG O O O O (Y.gtr O O) (Lo O (Y.pick O O) (Lo O (Y.asgB O) (Lt ?_)))
    exact ⟨_,kk1+1,rfl,fun _ => ⟨hx0,hml⟩,by omega,by omega,r0,r1,r5,r6,r7,r8,H⟩
   case refine_2 =>
   clear H r0 r1 r5 r6 r7 r8
   rintro ρ w7 ⟨T,kk2,r74,hT,hk3,hk4,r0,r1,r5,r6,r7,r8,H⟩
   refine CB r74 (fun hTt => ?_) (fun _ => ?_)
   ·obtain ⟨hx0,hml⟩:=hT hTt
    subst hx0
    refine Cy (Lo O (YI r8) (Lo O (Y.min O O (minN (b:=10))) (Lo O (AI O) (Lt (Cr (Lo O (YS r5) (Lo O (YI O) (Lo O (Y.sub O O (s64 (b:=3) (by omega))) (Lo O (Y.bld (runCell (17,min m 10 - 3,3)) O (by kernel_rfl)) (VL.bslice H mk_159 (runCell (17,min m 10 - 3,3)) O O (by decide) (by decide) (by kernel_rfl) ?_))))))))))
    intro w b22 hn22 hb22 H
    refine VL.append H 1 mk_159 (by decide) O O O O (news:=runCell (17,min m 10 - 3,3)) O (fun j u hj => by rw [Nat.zero_add];exact H.cell 0 O hj) (runCell_one _) (by simp only [maxLen];omega) (by omega) ?_
    intro a' c' w hfa H
    simp only [List.set] at H
    refine Lo O (AS O) (Ln (blk_n (tn ?_)))
    refine ⟨min m 10,rs++[(17,min m 10 - 3,3)],_,a',c',kk2,by omega,by omega,hR.snoc (runOk17 (by omega)) (by omega) (by omega) (fun j hj => hall j (by omega)) (out17 (by omega)),by omega,by omega,r0,r1,?_,r6,r7,rfl,?_⟩
    ·rw [List.length_append];rfl
    ·rw [runCells_snoc,List.length_append]
     exact H.sub [1,2] O (by simp)
   refine Cs ?_
   refine VC.join (fun ρ w' => ∃ (T:Bool) (kk':Nat),ρ 97=.bool T∧(T=true→x=p∧3≤m)∧kk≤kk'∧kk'≤kk+3∧ρ 0=.slice (some ⟨b,o,none⟩) ls.length c∧ρ 1=.pointer (some ⟨cb,0,none⟩)∧ρ 5=.slice a rs.length cap∧ρ 6=.int .i64 (p:Nat)∧ρ 7=.int .i64 (i:Nat)∧ρ 8=.int .i64 (m:Nat) ∧
    St W [cb] [vecR a cap 162 3 rs.length (runCells rs),blkR cb (chL v kk') 53] w') ?_ ?_
   case refine_1 =>
    by_cases hx0:x=p
    case neg =>
     refine Cr (Lo O (YS r0) (Lo O (YI r7) (Lo O (Y.ixS1 i sl_23 O O O hlt) (Lo O (Y.ld ld_3 O (H.old hcell hS)) (Lo O (YI r6) (Lo O (Y.eqlD (b:=false) O O (decide_eq_false (by omega))) (Lo O (Y.movB O) (VL.skipG O O O O O (VL.skipG O O O O O (Lo O (Y.pick O O) (Lo O (Y.movB O) (VL.skipG O O O O O (VL.skipG O O O O O (VL.skipG O O O O O (Lo O (Y.pick O O) (Lo O (Y.asgB O) (Lt ?_)))))))))))))))))
     exact ⟨false,kk2,rfl,by simp,by omega,by omega,r0,r1,r5,r6,r7,r8,H⟩
    by_cases hml:3≤m
    case neg =>
     refine Cr (Lo O (YS r0) (Lo O (YI r7) (Lo O (Y.ixS1 i sl_23 O O O hlt) (Lo O (Y.ld ld_3 O (H.old hcell hS)) (Lo O (YI r6) (Lo O (Y.eqlD (b:=true) O O (decide_eq_true (by omega))) (Lo O (Y.movB O) (LG O O O O (YI (by assumption)) (LG O O O O (Y.geqD (b:=false) O O (decide_eq_false (by omega))) (Lo O (Y.pick O O) (Lo O (Y.movB O) (VL.skipG O O O O O (VL.skipG O O O O O (VL.skipG O O O O O (Lo O (Y.pick O O) (Lo O (Y.asgB O) (Lt ?_)))))))))))))))))
     exact ⟨false,kk2,rfl,by simp,by omega,by omega,r0,r1,r5,r6,r7,r8,H⟩
    refine Cr (Lo O (YS r0) (Lo O (YI r7) (Lo O (Y.ixS1 i sl_23 O O O hlt) (Lo O (Y.ld ld_3 O (H.old hcell hS)) (Lo O (YI r6) (Lo O (Y.eqlD (b:=true) O O (decide_eq_true (by omega))) (Lo O (Y.movB O) (LG O O O O (YI (by assumption)) (LG O O O O (Y.geqD (b:=true) O O (decide_eq_true (by omega))) (Lo O (Y.pick O O) (Lo O (Y.movB O) (LG O O O O (YP r1) (VL.nextG H 1 O hw hcbB hB 4 (by omega) (by omega) (by omega) O O O O O O ?_)))))))))))))
    intro w r hr4 H
    simp only [List.set] at H
    refine LG O O O O (Y.gtr O O) (Lo O (Y.pick O O) (Lo O (Y.asgB O) (Lt ?_)))
    exact ⟨_,kk2+1,rfl,fun _ => ⟨hx0,hml⟩,by omega,by omega,r0,r1,r5,r6,r7,r8,H⟩
   case refine_2 =>
   clear H r0 r1 r5 r6 r7 r8
   rintro ρ w7 ⟨T,kk3,r97,hT,hk3,hk4,r0,r1,r5,r6,r7,r8,H⟩
   refine CB r97 (fun hTt => ?_) (fun _ => ?_)
   ·obtain ⟨hx0,hml⟩:=hT hTt
    subst hx0
    refine Cy (Lo O (YI r8) (Lo O (Y.min O O (minN (b:=6))) (Lo O (AI O) (Lt (Cr (Lo O (YS r5) (Lo O (YI O) (Lo O (Y.sub O O (s64 (b:=3) (by omega))) (Lo O (Y.bld (runCell (16,min m 6 - 3,2)) O (by kernel_rfl)) (VL.bslice H mk_159 (runCell (16,min m 6 - 3,2)) O O (by decide) (by decide) (by kernel_rfl) ?_))))))))))
    intro w b22 hn22 hb22 H
    refine VL.append H 1 mk_159 (by decide) O O O O (news:=runCell (16,min m 6 - 3,2)) O (fun j u hj => by rw [Nat.zero_add];exact H.cell 0 O hj) (runCell_one _) (by simp only [maxLen];omega) (by omega) ?_
    intro a' c' w hfa H
    simp only [List.set] at H
    refine Lo O (AS O) (Ln (blk_n (tn ?_)))
    refine ⟨min m 6,rs++[(16,min m 6 - 3,2)],_,a',c',kk3,by omega,by omega,hR.snoc (runOk16 (by omega)) (by omega) (by omega) (fun j hj => hall j (by omega)) (out16 (by omega)),by omega,by omega,r0,r1,?_,r6,r7,rfl,?_⟩
    ·rw [List.length_append];rfl
    ·rw [runCells_snoc,List.length_append]
     exact H.sub [1,2] O (by simp)
   refine Cy (Lo O (AI O) (Lt (Cy (Lo O (YS (by assumption)) (Lo O (YS r0) (Lo O (YI r7) (Lo O (Y.ixS1 i sl_23 O O O hlt) (Lo O (Y.ld ld_3 O (H.old hcell hS)) (Lo O (Y.bld (runCell (x,0,0)) O (by kernel_rfl)) (VL.bslice H mk_159 (runCell (x,0,0)) O O (by decide) (by decide) (by kernel_rfl) ?_))))))))))
   intro w b22 hn22 hb22 H
   refine VL.append H 1 mk_159 (by decide) O O O O (news:=runCell (x,0,0)) O (fun j u hj => by rw [Nat.zero_add];exact H.cell 0 O hj) (runCell_one _) (by simp only [maxLen];omega) (by omega) ?_
   intro a' c' w hfa H
   simp only [List.set] at H
   refine Lo O (AS O) (Lt (Cy (Lo O (YS r0) (Lo O (YI r7) (Lo O (Y.ixS1 i sl_23 O O O hlt) (Lo O (Y.ld ld_3 O (H.old hcell hS)) (Lo O (Y.gtr O O) (Lt ?_))))))))
   have hfin:RunsTo ls (i+1) (nxt p x) (rs++[(x,0,0)]):=hR.snoc (r:=(x,0,0)) (m:=1) (x:=x) (.inl ⟨by show x<16;omega,rfl,rfl⟩) (by omega) (by omega) (fun j hj => hall j (by omega)) (by
    unfold out1
    rw [if_pos (show x<16 by omega)]
    rfl)
   have hSt:St W [cb] [vecR a' c' 162 3 (rs++[(x,0,0)]).length (runCells (rs++[(x,0,0)])),blkR cb (chL v kk3) 53] w:=by
    rw [runCells_snoc,List.length_append]
    exact H.sub [1,2] O (by simp)
   by_cases hxp:x > 0
   case neg =>
    have en:nxt p x=p:=by unfold nxt;rw [if_neg (by omega)]
    rw [en] at hfin
    refine CF O (by omega) (Ck (blk_n (tn ?_)))
    exact ⟨1,_,p,a',c',kk3,by omega,by omega,hfin,by omega,by omega,r0,r1,by rw [List.length_append];rfl,r6,r7,rfl,hSt⟩
   have en:nxt p x=x:=by unfold nxt;rw [if_pos (by omega)]
   rw [en] at hfin
   refine CT O (by omega) (Cr (Lo O (YS r0) (Lo O (YI r7) (Lo O (Y.ixS1 i sl_23 O O O hlt) (Lo O (Y.ld ld_3 O (H.old hcell hS)) (Lo O (AI O) (Ln (blk_n (tn ?_)))))))))
   exact ⟨1,_,x,a',c',kk3,by omega,by omega,hfin,by omega,by omega,r0,r1,by rw [List.length_append];rfl,rfl,r7,rfl,hSt⟩
  case refine_2 =>
  clear H r0 r1 r5 r6 r7 r8
  rintro ρ w7 ⟨m',rs',p',a',cap',kk',hm1,hm2,hR',hk3,hk4,r0,r1,r5,r6,r7,r8,H⟩
  refine Cr (Lo O (YI r7) (Lo O (YI r8) (Lo O (Y.add O O (n64 (by omega))) (Lo O (AI O) (Ln (blk_n (tn ?_)))))))
  exact ⟨ls.length - (i+m'),by omega,i+m',rs',p',a',cap',kk',hm2,rfl,hR',by omega,by omega,r0,r1,r5,r6,rfl,H⟩
 case refine_2 =>
 clear H
 rintro ρ w5 ⟨rs,a,cap,kk,r5,hR,hk1,hk2,H⟩
 refine Cy (Lo O (YS r5) (Lo O (AS O) (Lt (Ct ?_))))
 refine Done.ret1 O O ⟨rs,a,cap,kk,rfl,H.get (i:=0) rfl,fun x hx => ?_,hR,H.blk (i:=1) rfl,hk1,hk2,H.frm⟩
 rcases H.own _ (List.mem_cons_self ..) x hx with h | h
 ·rw [List.mem_singleton] at h
  subst h
  exact absurd (by simp [blkR]) (apart_disj H.apart (i:=0) (j:=1) O O (by decide) x hx)
 ·exact h
def lzLo (s:Nat):Nat:=(2+s % 2) * 2 ^ ((s - 2) / 2)+1
def lzHi (s:Nat):Nat:=lzLo s+2 ^ ((s - 2) / 2)
theorem lzLo_succ (s:Nat) (h:4≤s):lzLo (s+1)=lzHi s:=by
 unfold lzHi lzLo
 rcases Nat.mod_two_eq_zero_or_one s with h2 | h2
 ·rw [show (s+1) % 2=1 by omega,show (s+1 - 2) / 2=(s - 2) / 2 by omega,h2]
  omega
 ·rw [show (s+1) % 2=0 by omega,show (s+1 - 2) / 2=(s - 2) / 2+1 by omega,h2,Nat.pow_succ]
  omega
def symGo:Nat→Nat→Nat→Nat
 | 0,s,_ => s
 | k+1,s,n => if n<lzHi s then s else symGo k (s+1) n
def symN (n:Nat):Nat:=if n≤4 then n - 1 else symGo 36 4 n
def moreN (n:Nat):Nat:=if n≤4 then 0 else n - lzLo (symN n)
def extraN (n:Nat):Nat:=if n≤4 then 0 else (symN n - 2) / 2
theorem symGo_spec (n:Nat):∀ (k s:Nat),4≤s→lzLo s≤n→n<lzLo (s+k)→s≤symGo k s n∧symGo k s n<s+k∧lzLo (symGo k s n)≤n∧n<lzHi (symGo k s n)
 | 0,s,h4,h1,h2 => by simp at h2;omega
 | k+1,s,h4,h1,h2 => by
  rw [symGo]
  by_cases h:n<lzHi s
  ·rw [if_pos h];exact ⟨by omega,by omega,h1,h⟩
  ·rw [if_neg h]
   have:=symGo_spec n k (s+1) (by omega) (by rw [lzLo_succ s h4];omega) (by rw [show s+1+k=s+(k+1) by omega];exact h2)
   omega
theorem lzLo_mono {a b:Nat} (ha:4≤a) (h:a≤b):lzLo a≤lzLo b:=by
 induction b with
 | zero => omega
 | succ b ih =>
  rcases Nat.lt_or_ge b a with h1 | h1
  ·have:a=b+1:=by omega
   subst this;exact Nat.le_refl _
  ·rw [lzLo_succ b (by omega)]
   exact Nat.le_trans (ih h1) (Nat.le_add_right _ _)
theorem sym_spec {n:Nat} (h1:1≤n) (h2:n≤1048576):symN n<40∧(n≤4096→symN n<24)∧moreN n<2 ^ extraN n∧extraN n≤18∧Rds (lz (symN n)) (bitsN (moreN n) (extraN n)) n:=by
 by_cases h4:n≤4
 ·have e:symN n=n - 1:=by unfold symN;rw [if_pos h4]
  have em:moreN n=0:=by unfold moreN;rw [if_pos h4]
  have ee:extraN n=0:=by unfold extraN;rw [if_pos h4]
  rw [em,ee,e]
  refine ⟨by omega,fun _ => by omega,by decide,by omega,?_⟩
  unfold lz
  rw [if_pos (by omega)]
  exact (Rds.ret _).congr O (by omega)
 ·have e:symN n=symGo 36 4 n:=by unfold symN;rw [if_neg h4]
  have em:moreN n=n - lzLo (symN n):=by unfold moreN;rw [if_neg h4]
  have ee:extraN n=(symN n - 2) / 2:=by unfold extraN;rw [if_neg h4]
  obtain ⟨a1,a2,a3,a4⟩:=symGo_spec n 36 4 (by omega) (by show 5≤n;omega) (by show n<1048577;omega)
  rw [← e] at a1 a2 a3 a4
  rw [em,ee]
  have h24:n≤4096→symN n<24:=fun hn => Nat.lt_of_not_le fun hle => by
   have:=lzLo_mono (a:=24) (by omega) hle
   rw [show lzLo 24=4097 from rfl] at this
   omega
  have hm:n - lzLo (symN n)<2 ^ ((symN n - 2) / 2):=by unfold lzHi at a4;omega
  refine ⟨by omega,h24,hm,by omega,?_⟩
  unfold lz
  rw [if_neg (by omega)]
  refine Rds.last (rds_bits hm) (Rds.retE ?_)
  unfold lzLo at a3 ⊢
  omega
inductive Tk where
 | lit (p:Nat)
 | hit (p k:Nat)
 | cp (p far long:Nat)
def Tk.len:Tk→Nat
 | .lit _ => 1
 | .hit _ _ => 1
 | .cp _ _ long => long
def Tk.Ok (w cc:Nat) (px:List Nat) (at_:Nat):Tk→Prop
 | .lit p => px[at_]?=some p
 | .hit p k => px[at_]?=some p∧0<cc∧k<2 ^ cc∧cached cc (px.take at_) k=p
 | .cp p far long => px[at_]?=some p∧1≤long∧long≤4096∧at_+long≤px.length∧1≤far∧far≤1048576∧distOf w far≤at_∧∀ j,j<long→px[at_+j]?=px[at_+j - distOf w far]?
def Tk.syms:Tk→List (Nat × Nat)
 | .lit p => [(0,pG p),(1,pR p),(2,pB p),(3,pA p)]
 | .hit _ k => [(0,280+k)]
 | .cp _ far long => [(0,256+symN long),(4,symN far)]
def Tk.bits (c:Nat→Nat→Bits):Tk→Bits
 | .lit p => c 0 (pG p)++(c 1 (pR p)++(c 2 (pB p)++c 3 (pA p)))
 | .hit _ k => c 0 (280+k)
 | .cp _ far long => c 0 (256+symN long)++(bitsN (moreN long) (extraN long)++(c 4 (symN far)++bitsN (moreN far) (extraN far)))
def TksOk (w cc:Nat) (grp:Nat→Nat) (px:List Nat):Nat→List (Tk × Nat)→Prop
 | at_,[] => at_=px.length
 | at_,t :: ts => at_<px.length∧t.2=grp at_∧t.1.Ok w cc px at_∧TksOk w cc grp px (at_+t.1.len) ts
theorem Tk.Ok.pos {w cc at_:Nat} {px:List Nat} {t:Tk} (h:t.Ok w cc px at_):1≤t.len∧at_+t.len≤px.length:=by
 cases t with
 | lit p => have:=(List.getElem?_eq_some_iff.1 h).1;simp only [Tk.len];omega
 | hit p k => have:=(List.getElem?_eq_some_iff.1 h.1).1;simp only [Tk.len];omega
 | cp p far long => obtain ⟨_,h1,_,h2,_⟩:=h;simp only [Tk.len];omega
theorem TksOk.count {w cc:Nat} {grp:Nat→Nat} {px:List Nat}:∀ {ts:List (Tk × Nat)} {at_:Nat},TksOk w cc grp px at_ ts→at_+ts.length≤px.length
 | [],at_,h => by simp only [TksOk] at h;simp;omega
 | t :: ts,at_,h => by
  have h1:=h.2.2.1.pos
  have h2:=TksOk.count h.2.2.2
  rw [List.length_cons]
  omega
theorem copyPx_take {px:List Nat} {d:Nat} (hd:1≤d):∀ (n at_:Nat),d≤at_→at_+n≤px.length→(∀ j,j<n→px[at_+j]?=px[at_+j - d]?)→copyPx d n (px.take at_)=px.take (at_+n)
 | 0,at_,h1,h2,h => rfl
 | n+1,at_,h1,h2,h => by
  have hl:(px.take at_).length=at_:=by rw [List.length_take];omega
  have h0:=h 0 (by omega)
  rw [Nat.add_zero] at h0
  have hlt:at_<px.length:=by omega
  have e:(px.take at_).getD ((px.take at_).length - d) 0=px[at_]:=by
   rw [hl,List.getD_eq_getElem?_getD,List.getElem?_take,if_pos (by omega),← h0,List.getElem?_eq_getElem hlt]
   rfl
  rw [copyPx,e,← List.take_succ_eq_append_getElem hlt,copyPx_take hd n (at_+1) (by omega) (by omega) (fun j hj => by
   have:=h (j+1) (by omega)
   rw [show at_+(j+1)=at_+1+j by omega] at this
   exact this),show at_+1+n=at_+(n+1) by omega]
theorem take_snoc {px:List Nat} {at_ p:Nat} (h:px[at_]?=some p):px.take at_++[p]=px.take (at_+1):=by
 obtain ⟨h1,h2⟩:=List.getElem?_eq_some_iff.1 h
 rw [List.take_succ_eq_append_getElem h1,h2]
theorem token_reads {w n cc at_:Nat} {px:List Nat} {g:Nat→T} {c:Nat→Nat→Bits} {t:Tk} (h:t.Ok w cc px at_) (hn:px.length=n) (h32:∀ p ∈ px,p<2 ^ 32) (hc:∀ q ∈ t.syms,Rds (g q.1).walk (c q.1 q.2) q.2) :
  Rds (token w n cc g (px.take at_)) (t.bits c) (px.take (at_+t.len)):=by
 unfold token
 cases t with
 | lit p =>
  have hp:=h32 p (List.mem_of_getElem? h)
  simp only [Tk.syms,List.mem_cons,List.not_mem_nil,or_false] at hc
  refine (hc _ (.inl O)).pb ?_
  rw [if_pos (show pG p<256 by unfold pG;omega)]
  refine (hc (1,pR p) (by simp)).pb ((hc (2,pB p) (by simp)).pb (Rds.last (hc (3,pA p) (by simp)) (Rds.retE ?_)))
  rw [argb_self hp]
  exact take_snoc h
 | hit p k =>
  obtain ⟨h1,h2,h3,h4⟩:=h
  refine Rds.last (hc _ (List.mem_singleton.2 O)) ?_
  rw [if_neg (by omega),if_neg (by omega),Nat.add_sub_cancel_left,if_neg (by omega),h4]
  exact (Rds.ret _).congr O (take_snoc h1)
 | cp p far long =>
  obtain ⟨h0,h1,h2,h3,h4,h5,h6,h7⟩:=h
  have sl:=sym_spec h1 (by omega)
  have sf:=sym_spec h4 h5
  have hs:=sl.2.1 h2
  simp only [Tk.syms,List.mem_cons,List.not_mem_nil,or_false] at hc
  refine (hc _ (.inl O)).pb ?_
  rw [if_neg (by omega),if_pos (by omega),Nat.add_sub_cancel_left]
  refine sl.2.2.2.2.pb ((hc _ (.inr O)).pb (Rds.last sf.2.2.2.2 ?_))
  have hl:(px.take at_).length=at_:=by rw [List.length_take];omega
  rw [hl,if_neg (by omega)]
  exact (Rds.ret _).congr O (copyPx_take (dist_pos _ _) long at_ h6 h3 h7)
def tksBits (c:Nat→Nat→Nat→Bits) (ts:List (Tk × Nat)):Bits:=ts.flatMap fun t => t.1.bits (c t.2)
theorem pixLoop_reads {w n cc:Nat} {px:List Nat} {grp:Nat→Nat} {G:Nat→Nat→T} {c:Nat→Nat→Nat→Bits} (hn:px.length=n) (h32:∀ p ∈ px,p<2 ^ 32):∀ (ts:List (Tk × Nat)) (k at_:Nat),TksOk w cc grp px at_ ts→n≤at_+k →
  (∀ t ∈ ts,∀ q ∈ t.1.syms,Rds (G t.2 q.1).walk (c t.2 q.1 q.2) q.2)→Rds (pixLoop w n cc (fun a => G (grp a)) k (px.take at_)) (tksBits c ts) px
 | [],k,at_,h,hk,hc => by
  simp only [TksOk] at h
  subst h
  rw [List.take_length]
  cases k with
  | zero => exact Rds.ret _
  | succ k =>
   rw [pixLoop,if_pos (by omega)]
   exact Rds.ret _
 | t :: ts,0,at_,h,hk,hc => by
  have:=h.1
  omega
 | t :: ts,k+1,at_,h,hk,hc => by
  have hp:=h.2.2.1.pos
  have hl:(px.take at_).length=at_:=by rw [List.length_take];have:=h.1;omega
  rw [pixLoop,if_neg (by rw [hl];have:=h.1;omega),hl]
  have ht:=h.2.1
  refine Rds.pb (token_reads h.2.2.1 hn h32 (c:=c t.2) (g:=G (grp at_)) (fun q hq => by rw [← ht];exact hc t (by simp) q hq)) ?_
  exact pixLoop_reads hn h32 ts k (at_+t.1.len) h.2.2.2 (by omega) fun x hx => hc x (List.mem_cons_of_mem _ hx)
theorem symbolOf_any (W:World) (n:Nat) (h1:1≤n) (h2:n≤1048576) :
  Calls Tryd.prog 50 #[.int .i64 (n:Nat)] W fun e w' => e=.returned (.tuple #[.int .i64 (symN n:Nat),.int .i64 (moreN n:Nat),.int .i64 (extraN n:Nat)])∧w'=W:=by
 refine enter (m:=32) Tryd.func50 O Tryd.ntmps50 O (Cy (Lo O (AI O) (Lo O (AI O) (Lo O (AI O) (Lt (Cs (Cy (Lo O (YI O) (Lo O (Y.leq O O) (Lt ?_))))))))))
 by_cases h4:n≤4
 case pos =>
  refine CT O (by omega) (Cy (Lo O (YI O) (Lo O (Y.sub O O (s64 (b:=1) (by omega))) (Lo O (AI O) (Lo O (AI O) (Lo O (AI O) (Lt (Ct (thn_r ?_)))))))))
  have e:symN n=n - 1:=by unfold symN;rw [if_pos h4]
  have em:moreN n=0:=by unfold moreN;rw [if_pos h4]
  have ee:extraN n=0:=by unfold extraN;rw [if_pos h4]
  exact Done.ret3 O O O O (by rw [e,em,ee];exact ⟨rfl,rfl⟩)
 refine CF O (by omega) (Ck (tn (Cy (Lo O (AI O) (Lt (Cb ?_))))))
 refine Cl (fun mm ρ w' => ∃ s,mm=40 - s∧4≤s∧s<40∧lzLo s≤n∧symGo (40 - s) s n=symGo 36 4 n∧w'=W∧ρ 0=.int .i64 (n:Nat)∧ρ 2=.int .i64 (s:Nat)) 36
  ⟨4,rfl,by omega,by omega,by show 5≤n;omega,rfl,rfl,rfl,rfl⟩ ?_
 rintro mm ρ w5 ⟨s,hmm,hs4,hs40,hlo,hgo,rfl,r0,r2⟩
 have hp:2 ^ ((s - 2) / 2)≤2 ^ 18:=Nat.pow_le_pow_right (by omega) (by omega)
 have hq:(2+s % 2) * 2 ^ ((s - 2) / 2)≤3 * 2 ^ 18:=Nat.mul_le_mul (by omega) hp
 have elo:lzLo s=(2+s % 2) * 2 ^ ((s - 2) / 2)+1:=rfl
 have ehi:lzHi s=lzLo s+1 * 2 ^ ((s - 2) / 2):=by unfold lzHi;rw [Nat.one_mul]
 refine Cs (Cb (Cy (Lo O (YI (by assumption)) (Lo O (Y.sub O O (s64 (b:=2) (by omega))) (Lo O (Y.quo O O (by omega) (q64 (b:=2) (by omega))) (Lo O (AI O) (Lt (Cy (Lo O (YI (by assumption)) (Lo O (Y.remr O O (by omega) (rN (b:=2))) (Lo O (Y.add O O (n64 (a:=2) (by omega))) (Lo O (YI O) (Lo O (Y.shl O O (by omega) (l64 (by omega))) (Lo O (Y.add O O (n64 (b:=1) (by omega))) (Lo O (AI O) (Ln ?_))))))))))))))))
 refine tn (Cy (Lo O (YI (by assumption)) (Lo O (YI O) (Lo O (YI O) (Lo O (Y.shl O O (by omega) (l64 (a:=1) (by omega))) (Lo O (Y.add O O (n64 (by omega))) (Lo O (Y.lss O O) (Lt ?_))))))))
 by_cases hlt:n<(2+s % 2) * 2 ^ ((s - 2) / 2)+1+1 * 2 ^ ((s - 2) / 2)
 case pos =>
  have hsy:symN n=s:=by
   unfold symN
   rw [if_neg h4,← hgo,show 40 - s=(39 - s)+1 by omega,symGo,if_pos (by omega)]
  have em:moreN n=n - ((2+s % 2) * 2 ^ ((s - 2) / 2)+1):=by unfold moreN;rw [if_neg h4,hsy,elo]
  have ee:extraN n=(s - 2) / 2:=by unfold extraN;rw [if_neg h4,hsy]
  refine CT O (by omega) (Cy (Lo O (YI (by assumption)) (Lo O (YI (by assumption)) (Lo O (YI O) (Lo O (Y.sub O O (s64 (by omega))) (Lo O (YI O) (Lo O (AI O) (Lo O (AI O) (Lo O (AI O) (Lt (Ct (blk_r (thn_r (thn_r (blk_r ?_)))))))))))))))
  exact Done.ret3 O O O O (by rw [hsy,em,ee];exact ⟨rfl,rfl⟩)
 refine CF O (by omega) (Ck (blk_n (tn ?_)))
 have hs39:s<39:=Nat.lt_of_not_le fun hle => by
  obtain rfl:s=39:=by omega
  simp at hlt
  omega
 refine Cr (Lo O (YI (by assumption)) (Lo O (Y.add O O (n64 (b:=1) (by omega))) (Lo O (AI O) (Lt ?_))))
 refine ⟨40 - (s+1),by omega,s+1,rfl,by omega,by omega,by rw [lzLo_succ s hs4];omega,?_,rfl,r0,rfl⟩
 rw [← hgo,show 40 - s=(40 - (s+1))+1 by omega,symGo,if_neg (by omega)]
theorem Fr.yieldedU {n:Nat} {ρ:Env} {a:Act} (h:Fr n ρ a) (ops:Array Oper) {j dj:Nat} (hj:(ops[j]?).bind (·.dst)=some dj) (hd:Nat.blt dj n=true) (hb:ρ dj=undef):Go.yielded ops a.tmps j=none:=by
 have hd':dj<a.tmps.size:=by rw [h.size];simpa [Nat.blt_eq] using hd
 have hg:=h.get dj
 rw [hb] at hg
 have:a.tmps[dj]?=some undef:=by
  rw [Array.getD_eq_getD_getElem?] at hg
  rw [Array.getElem?_eq_getElem hd'] at hg ⊢
  simpa using hg
 simp [Go.yielded,hj,this,undef]
theorem VL.skipU {P:Program} {n:Nat} {Q:Post} {ρ:Env} {w:World} {l:List Oper} {rest:List Oper} {op:Op} {ty:TypeId} {pos:String} {after:Array Edge} {d:Nat} {j dj:Nat} {b':Bool}
  (hj:(l[j]?).bind (·.dst)=some dj) (hdj:Nat.blt dj n=true) (hb:ρ dj=undef)
  (hd:Nat.blt d n=true) (h:VL P n l.toArray Q rest (upd ρ d undef) w) :
  VL P n l.toArray Q (⟨some d,op,ty,pos,after,some (j,b')⟩ :: rest) ρ w:=fun a ha => by
 unfold wpList
 rw [if_neg (by simp [Region.wanted,ha.yieldedU l.toArray (j:=j) (by simpa using hj) hdj hb])]
 exact h _ (ha.put hd _)
def rowB (u:Nat→Bool) (n:Nat):List Value:=(List.range n).map fun s => .bool (u s)
theorem rowB_get {u:Nat→Bool} {n s:Nat} (h:s<n):(rowB u n)[s]?=some (.bool (u s)):=by simp [rowB,h]
theorem rowB_set {u v:Nat→Bool} {n x:Nat} (h:∀ s,s<n→v s=(decide (s=x) || u s)):(rowB u n).set x (.bool true)=rowB v n:=by
 apply List.ext_getElem
 ·simp [rowB]
 ·intro j h1 h2
  have hj:j<n:=by simpa [rowB] using h2
  simp only [rowB,List.getElem_set,List.getElem_map,List.getElem_range,h j hj]
  by_cases e:x=j
  ·subst e;simp
  ·rw [if_neg e];simp [show ¬ j=x from fun h => e h.symm]
theorem rowB_false (n:Nat):List.replicate n (.bool false)=rowB (fun _ => false) n:=by
 apply List.ext_getElem
 ·simp [rowB]
 ·intro j h1 h2;simp [rowB]
theorem nums_row {w:World} {b:Nat} {ls:List Nat} {k:IntKind} {t:TypeId} (h:Blk w b (nums k ls) t):Row w k b 0 ls:=fun j hj => by
 rw [Nat.zero_add]
 refine h.cellv ?_
 rw [nums_get hj]
 simp [hj]
theorem St.callee {w0 w w':World} {S T:List Nat} {used used' rest:List Res} (h:St w0 S (used++rest) w) (h':St w T used' w') (hT:∀ b ∈ T,∃ r ∈ used,b ∈ r.foot):St w0 S (used'++rest) w':=by
 have hap:=List.pairwise_append.1 h.apart
 have hTS:∀ b ∈ T,b ∈ S∨w0.heap.size≤b:=fun b hb => by
  obtain ⟨r,hr,hbr⟩:=hT b hb
  exact h.own r (List.mem_append_left _ hr) b hbr
 have hTr:∀ s ∈ rest,∀ b ∈ s.foot,b ∉ T:=fun s hs b hb hbT => by
  obtain ⟨r,hr,hbr⟩:=hT b hbT
  exact hap.2.2 r hr s hs b hbr hb
 have hin:∀ s ∈ rest,∀ b ∈ s.foot,b<w.heap.size:=fun s hs => (h.loc s (List.mem_append_right _ hs)).2 w (h.has s (List.mem_append_right _ hs))
 refine ⟨h.frm.then h'.frm hTS,fun r hr => ?_,fun r hr => ?_,fun r hr b hb => ?_,?_⟩
 ·rcases List.mem_append.1 hr with hr | hr
  ·exact h'.has r hr
  ·exact (h.loc r (List.mem_append_right _ hr)).1 w w' (fun b hb => h'.frm.block b (hin r hr b hb) (hTr r hr b hb)) (h.has r (List.mem_append_right _ hr))
 ·rcases List.mem_append.1 hr with hr | hr
  ·exact h'.loc r hr
  ·exact h.loc r (List.mem_append_right _ hr)
 ·rcases List.mem_append.1 hr with hr | hr
  ·rcases h'.own r hr b hb with hb | hb
   ·exact hTS b hb
   ·exact .inr (Nat.le_trans h.frm.size hb)
  ·exact h.own r (List.mem_append_right _ hr) b hb
 ·refine List.pairwise_append.2 ⟨h'.apart,hap.2.1,fun r hr s hs b hb hbs => ?_⟩
  rcases h'.own r hr b hb with h1 | h1
  ·exact hTr s hs b hbs h1
  ·have:=hin s hs b hbs
   omega
theorem St.part {w0 w:World} {S:List Nat} {used rest:List Res} (h:St w0 S (used++rest) w) (T:List Nat) (hT:∀ r ∈ used,∀ b ∈ r.foot,b ∈ T):St w T used w :=
 ⟨Frm.refl T w,fun r hr => h.has r (List.mem_append_left _ hr),fun r hr => h.loc r (List.mem_append_left _ hr),fun r hr b hb => .inl (hT r hr b hb),(List.pairwise_append.1 h.apart).1⟩
theorem St.above {w0 w:World} {S:List Nat} {l:List Res} {B:Nat} (h:St w0 S l w) (hS:∀ b ∈ S,B≠b) (h0:B<w0.heap.size):∀ r ∈ l,∀ b ∈ r.foot,B≠b:=fun r hr b hb => by
 rcases h.own r hr b hb with h1 | h1
 ·exact hS b h1
 ·omega
theorem St.inB {w0 w:World} {S:List Nat} {l:List Res} (h:St w0 S l w) {i:Nat} {b:Nat} {cs:List Value} {t:TypeId} (hi:l[i]?=some (blkR b cs t)):b<w.heap.size:=(h.blk hi).lt
section
variable {w0 w:World} {S:List Nat} {l:List Res} {cb B k:Nat} {v:Value}
variable {nn:Nat} {ops:Array Oper} {lo:List Oper} {Q:Post} {rest:List Oper} {ρ:Env} {ty:TypeId} {pos:String} {after:Array Edge} {x y z:Operand} {d:Nat} {ts:Array TypeId} {j dj:Nat} {b:Bool}
theorem VL.code (H:St w0 S l w) (i:Nat) {wb c:Nat} {a:Option Addr} {X:Bits} (hi:l[i]?=some (wrR wb a c X)) (n long:Nat) (hm:long≤62) (hn:n<2 ^ 62) (hX:X.length+62≤1099511627776) (hd:Nat.blt d nn=true) (hx:ev ρ x=.pointer (some ⟨wb,0,none⟩)) (hy:ev ρ y=.int .i64 (n:Nat)) (hz:ev ρ z=.int .i64 (long:Nat))
  (h:∀ w' a' c',St w0 S (l.set i (wrR wb a' c' (X++bitsM n long))) w'→VL Tryd.prog nn ops Q rest (upd ρ d (.tuple #[])) w') :
  VL Tryd.prog nn ops Q (⟨some d,.call ⟨.value (.func 49),#[x,y,z],ts⟩,ty,pos,after,none⟩ :: rest) ρ w :=
 VL.call hd ent_49 (code_any w wb a c X n long (H.get hi) hm hn hX) (by simp [hx,hy,hz]) fun e w' ⟨a',c',he,hP,hfa,hf⟩ => ⟨_,he,h _ a' c' (H.wr i hi hP hfa hf)⟩
theorem VL.lengthsOf (H:St w0 S l w) (i:Nat) (hi:l[i]?=some (blkR cb (chL v k) 53)) (hw:WayAt B v w) (hB:B≠cb) (hk:k≤4611686018427387000) {ub uo uc n most:Nat} {u:Nat→Bool} (hu:∀ j,j<n→w.cell? ⟨ub,uo+j,none⟩=some (.bool (u j))) (hub:ub≠cb) (hn:n≤4096) (hm:most=15∨(most=7∧n≤19))
  (hd:Nat.blt d nn=true) (hx:ev ρ x=.slice (some ⟨ub,uo,none⟩) n uc) (hy:ev ρ y=.pointer (some ⟨cb,0,none⟩)) (hz:ev ρ z=.int .i64 (most:Nat))
  (h:∀ w' ls g k',LenOk u n most ls→k≤k'→k'≤k+5→w.heap.size≤g→St w0 S (blkR g (nums .i64 ls) 3 :: l.set i (blkR cb (chL v k') 53)) w'→VL Tryd.prog nn ops Q rest (upd ρ d (.slice (some ⟨g,0,none⟩) n n)) w') :
  VL Tryd.prog nn ops Q (⟨some d,.call ⟨.value (.func 62),#[x,y,z],ts⟩,ty,pos,after,none⟩ :: rest) ρ w :=
 VL.call hd ent_62 (lengthsOf_any w ub uo uc n u hu cb B k v most (H.blk hi) hw hB hk hn hm hub) (by simp [hx,hy,hz]) fun e w' ⟨ls,g,k',hL,he,hg,hbg,hbc,hk1,hk2,hf⟩ =>
  ⟨_,he,h _ ls g k' hL hk1 hk2 hg (H.grow (r':=blkR cb (chL v k') 53) hi hf hbc ⟨blkR_local _ _ _,blkR_in _ _ _⟩ rfl hbg hg)⟩
theorem St.growR {w':World} (h:St w0 S l w) {i:Nat} {r r' q:Res} (hi:l[i]?=some r) (hf:Frm r.foot w w') (hr:r'.pred w') (hl:r'.Local∧r'.In) (hfoot:r'.foot=r.foot) (hq:q.pred w') (hql:q.Local∧q.In) (hnew:∀ b ∈ q.foot,w.heap.size≤b):St w0 S (q :: l.set i r') w':=by
 have h2:=h.turn hi hf hr hl (fun b hb => .inl (hfoot ▸ hb))
 refine h2.cons hq hql (fun x hx => .inr (Nat.le_trans h.frm.size (hnew x hx))) (fun s hs x hx hx2 => ?_)
 have hx3:=hnew x hx
 have hir:r ∈ l:=List.mem_of_getElem? hi
 rcases List.mem_or_eq_of_mem_set hs with hs | rfl
 ·have:=(h.loc s hs).2 w (h.has s hs) x hx2
  omega
 ·rw [hfoot] at hx2
  have:=(h.loc r hir).2 w (h.has r hir) x hx2
  omega
theorem VL.runs (H:St w0 S l w) (i:Nat) (hi:l[i]?=some (blkR cb (chL v k) 53)) (hw:WayAt B v w) (hB:B≠cb) (hk:k≤4611686018427300000) {rb ro rc:Nat} {ls:List Nat} (hr:Row w .i64 rb ro ls) (hrb:rb≠cb) (h15:∀ x ∈ ls,x≤15) (hn:ls.length≤4096)
  (hd:Nat.blt d nn=true) (hx:ev ρ x=.slice (some ⟨rb,ro,none⟩) ls.length rc) (hy:ev ρ y=.pointer (some ⟨cb,0,none⟩))
  (h:∀ w' rs a cap k',RunsTo ls ls.length (runPrev 8 rs) rs→k≤k'→k'≤k+3 * ls.length→St w0 S (vecR a cap 162 3 rs.length (runCells rs) :: l.set i (blkR cb (chL v k') 53)) w'→VL Tryd.prog nn ops Q rest (upd ρ d (.slice a rs.length cap)) w') :
  VL Tryd.prog nn ops Q (⟨some d,.call ⟨.value (.func 72),#[x,y],ts⟩,ty,pos,after,none⟩ :: rest) ρ w :=
 VL.call hd ent_72 (runs_any w rb ro rc ls hr h15 hn cb B k v (H.blk hi) hw hB hk hrb) (by simp [hx,hy]) fun e w' ⟨rs,a,cap,k',he,hV,hfa,hR,hbc,hk1,hk2,hf⟩ =>
  ⟨_,he,h _ rs a cap k' hR hk1 hk2 (H.growR (r':=blkR cb (chL v k') 53) hi hf hbc ⟨blkR_local _ _ _,blkR_in _ _ _⟩ rfl hV (vecR_local _ _ _ _ _ _) hfa)⟩
theorem VL.scodes (H:St w0 S l w) {rb ro rc:Nat} {ls:List Nat} (hr:Row w .i64 rb ro ls) (h15:∀ x ∈ ls,x≤15) (hn:ls.length≤65536)
  (hd:Nat.blt d nn=true) (hx:ev ρ x=.slice (some ⟨rb,ro,none⟩) ls.length rc)
  (h:∀ w' g,w.heap.size≤g→St w0 S (blkR g (rowK .i64 (fun s => if ls.getD s 0=0 then 0 else scode ls s) ls.length) 3 :: l) w'→VL Tryd.prog nn ops Q rest (upd ρ d (.slice (some ⟨g,0,none⟩) ls.length ls.length)) w') :
  VL Tryd.prog nn ops Q (⟨some d,.call ⟨.value (.func 63),#[x],ts⟩,ty,pos,after,none⟩ :: rest) ρ w :=
 VL.call hd ent_63 (scodes_any w rb ro rc ls hr h15 hn) (by simp [hx]) fun e w' ⟨g,hg,he,hbg,hf⟩ =>
  ⟨_,he,h _ g hg (H.add hf hbg ⟨blkR_local _ _ _,blkR_in _ _ _⟩ (by simpa [blkR] using hg))⟩
end
theorem order_any (W:World):Calls Tryd.prog 73 #[] W fun e w' => ∃ g,W.heap.size≤g∧e=.returned (.slice (some ⟨g,0,none⟩) 19 19)∧Blk w' g (nums .i64 tab_codeLengthCodeOrder) 3∧Frm [] W w':=by
 have H:St W [] [] W:=St.nil W []
 refine enter (m:=2) Tryd.func73 O Tryd.ntmps73 O (Cy (Lo O (Y.asg O) (Lt (Cy (VL.bslice H mk_23 (nums .i64 tab_codeLengthCodeOrder) O O (by decide) (by decide) (by kernel_rfl) ?_)))))
 intro w b1 hn1 hb1 H
 refine Lo O (AS O) (Lt (Ct ?_))
 exact Done.ret1 O O ⟨b1,hn1,rfl,H.blk (i:=0) rfl,H.frm⟩
section
variable {w0 w:World} {S:List Nat} {l:List Res}
variable {nn:Nat} {ops:Array Oper} {lo:List Oper} {Q:Post} {rest:List Oper} {ρ:Env} {ty:TypeId} {pos:String} {after:Array Edge} {d:Nat} {ts:Array TypeId} {j dj:Nat} {b:Bool}
theorem VL.order (H:St w0 S l w) (hd:Nat.blt d nn=true) (h:∀ w' g,w.heap.size≤g→St w0 S (blkR g (nums .i64 tab_codeLengthCodeOrder) 3 :: l) w'→VL Tryd.prog nn ops Q rest (upd ρ d (.slice (some ⟨g,0,none⟩) 19 19)) w') :
  VL Tryd.prog nn ops Q (⟨some d,.call ⟨.value (.func 73),#[],ts⟩,ty,pos,after,none⟩ :: rest) ρ w :=
 VL.call hd ent_73 (order_any w) rfl fun e w' ⟨g,hg,he,hbg,hf⟩ => ⟨_,he,h _ g hg (H.add hf hbg ⟨blkR_local _ _ _,blkR_in _ _ _⟩ (by simpa [blkR] using hg))⟩
theorem VL.orderG (H:St w0 S l w) (hj:(lo[j]?).bind (·.dst)=some dj) (hdj:Nat.blt dj nn=true) (hb:ρ dj=.bool b) (hd:Nat.blt d nn=true) (h:∀ w' g,w.heap.size≤g→St w0 S (blkR g (nums .i64 tab_codeLengthCodeOrder) 3 :: l) w'→VL Tryd.prog nn lo.toArray Q rest (upd ρ d (.slice (some ⟨g,0,none⟩) 19 19)) w') :
  VL Tryd.prog nn lo.toArray Q (⟨some d,.call ⟨.value (.func 73),#[],ts⟩,ty,pos,after,some (j,b)⟩ :: rest) ρ w :=
 VL.callG hj hdj hb hd ent_73 (order_any w) rfl fun e w' ⟨g,hg,he,hbg,hf⟩ => ⟨_,he,h _ g hg (H.add hf hbg ⟨blkR_local _ _ _,blkR_in _ _ _⟩ (by simpa [blkR] using hg))⟩
theorem order_get {i:Nat} (h:i<19):(nums .i64 tab_codeLengthCodeOrder)[i]?=some (.int .i64 (ord i:Nat)):=by
 rw [nums_get (by exact h),ord_eq]
end
end Go.Proofs.YtinkhckpckfajaaDoor
set_option maxHeartbeats 2000000
namespace Go.Proofs.YtinkhckpckfajaaDoor
open Go
theorem Y.bld2 {P:Program} {ρ:Env} {d:Option Tmp} {ty t:TypeId} {pos:String} {after:Array Edge} {g:Option (Nat × Bool)} {w:World} {m n:Int} (F:∀ m n:Int,P.built t [(0,.int .i64 m),(1,.int .i64 n)]=some #[.int .i64 m,.int .i64 n]) :
  Yld P (ev ρ) ⟨d,.build t #[(0,.const (.int .i64 m)),(1,.const (.int .i64 n))],ty,pos,after,g⟩ w (.agg #[.int .i64 m,.int .i64 n]) w:=Y.bld [.int .i64 m,.int .i64 n] rfl (F m n)
theorem pairF (m n:Int):Tryd.prog.built 176 [(0,.int .i64 m),(1,.int .i64 n)]=some #[.int .i64 m,.int .i64 n]:=by kernel_rfl
def nearX (i:Nat):Int:=8 - ((tab_distanceMapTable.getD i 0 % 16:Nat):Int)
def nearY (i:Nat):Int:=((tab_distanceMapTable.getD i 0 / 16:Nat):Int)
def nearCells:List Value:=(List.range 120).flatMap fun i => [.int .i64 (nearX i),.int .i64 (nearY i)]
theorem near_any (W:World):Calls Tryd.prog 81 #[] W fun e w' => ∃ g,W.heap.size≤g∧e=.returned (.slice (some ⟨g,0,none⟩) 120 120)∧Blk w' g nearCells 176∧Frm [] W w':=by
 have H:St W [] [] W:=St.nil W []
 refine enter (m:=122) Tryd.func81 O Tryd.ntmps81 O (Cy (Lo O (Y.asg O) (Lt (Cy ?_))))
 iterate 120 refine Lo rfl (Y.bld2 pairF) ?_
 refine VL.bslice H mk_174 nearCells O O (by decide) (by decide) (by kernel_rfl) ?_
 intro w g hg hg0 H
 refine Lo O (AS O) (Lt (Ct ?_))
 exact Done.ret1 O O ⟨g,hg,rfl,H.blk (i:=0) rfl,H.frm⟩
theorem near_len2:∀ n:Nat,((List.range n).flatMap fun i => [Value.int .i64 (nearX i),Value.int .i64 (nearY i)]).length=2 * n
 | 0 => rfl
 | n+1 => by rw [List.range_succ,List.flatMap_append,List.length_append,near_len2 n];rfl
theorem near_get2:∀ n i:Nat,i<n→((List.range n).flatMap fun i => [Value.int .i64 (nearX i),Value.int .i64 (nearY i)])[2 * i]?=some (.int .i64 (nearX i))∧((List.range n).flatMap fun i => [Value.int .i64 (nearX i),Value.int .i64 (nearY i)])[2 * i+1]?=some (.int .i64 (nearY i))
 | 0,i,h => by omega
 | n+1,i,h => by
  rw [List.range_succ,List.flatMap_append]
  by_cases hi:i<n
  ·rw [List.getElem?_append_left (by rw [near_len2];omega),List.getElem?_append_left (by rw [near_len2];omega)]
   exact near_get2 n i hi
  ·obtain rfl:i=n:=by omega
   rw [List.getElem?_append_right (by rw [near_len2];omega),List.getElem?_append_right (by rw [near_len2];omega),near_len2,Nat.sub_self,show 2 * i+1 - 2 * i=1 by omega]
   exact ⟨rfl,rfl⟩
theorem near_get {i:Nat} (h:i<120):nearCells[2 * i]?=some (.int .i64 (nearX i))∧nearCells[2 * i+1]?=some (.int .i64 (nearY i)):=near_get2 120 i h
theorem sdist_any (W:World) (n wide:Nat) (h1:1≤n) (h2:n≤1048576) (hw:wide≤1000000) :
  Calls Tryd.prog 71 #[.int .i64 (n:Nat),.int .i64 (wide:Nat)] W fun e w' => e=.returned (.int .i64 (distOf wide n:Nat))∧Frm [] W w':=by
 have H:St W [] [] W:=St.nil W []
 refine enter (m:=31) Tryd.func71 O Tryd.ntmps71 O (Cy (Lo O (AI O) (Lt (Cy (VL.call O ent_81 (near_any W) O ?_)))))
 rintro e w ⟨g,hg,he,hb,hf⟩
 replace H:St W [] [blkR g nearCells 176] w:=H.add hf hb ⟨blkR_local _ _ _,blkR_in _ _ _⟩ (by simpa [blkR] using hg)
 refine ⟨_,he,?_⟩
 refine Lo O (AS O) (Lt (Cs (Cy (Lo O (YI O) (Lo O (YS O) (Lo O (Y.len sl_174 O) (Lo O (Y.gtr O O) (Lt ?_))))))))
 by_cases h120:n > 120
 case pos =>
  have e:distOf wide n=n - 120:=by unfold distOf;rw [if_pos (by omega)]
  refine CT O (by omega) (Cy (Lo O (YI O) (Lo O (YS O) (Lo O (Y.len sl_174 O) (Lo O (Y.sub (r:=((n - 120:Nat):Int)) O O (by rw [w64 (by omega)];omega)) (Lo O (AI O) (Lt (Ct (thn_r ?_)))))))))
  exact Done.ret1 O O ⟨by rw [e];rfl,H.frm⟩
 obtain ⟨c,hc⟩:∃ c,c=dcode (n - 1):=⟨_,rfl⟩
 have hcx:nearX (n - 1)=8 - ((c % 16:Nat):Int):=by unfold nearX;rw [← dcode_eq,← hc]
 have hcy:nearY (n - 1)=((c / 16:Nat):Int):=by unfold nearY;rw [← dcode_eq,← hc]
 have hle:=dcode_le (n - 1) (by omega)
 rw [← hc] at hle
 obtain ⟨n1,n2⟩:=near_get (show n - 1<120 by omega)
 rw [hcx] at n1
 rw [hcy] at n2
 have hcw:c / 16 * wide≤7 * 1000000:=Nat.mul_le_mul hle.1 hw
 have e:distOf wide n=if c / 16 * wide+8<c % 16+1 then 1 else c / 16 * wide+8 - c % 16:=by unfold distOf;rw [if_neg (by omega),← hc]
 refine CF O (by omega) (Ck (tn (Cs (Cd mixedP (by kernel_rfl) ?_))))
 intro w hsame
 replace H:=H.same hsame
 refine So O (YS O) (So O (YI O) (So O (Y.sub (r:=((n - 1:Nat):Int)) O O (by rw [w64 (by omega)];omega)) (So O (Y.ixS (n - 1) sl_174 O O O (by omega)) (So O (Y.ixA1 0 ar_176 O O O (by omega)) (So O (Y.ld ld_3 O (H.cell 0 O (show nearCells[0+(n - 1) * 2+0]?=_ by rw [show 0+(n - 1) * 2+0=2 * (n - 1) by omega];exact n1))) (So O (YS O) (So O (YI O) (So O (Y.sub (r:=((n - 1:Nat):Int)) O O (by rw [w64 (by omega)];omega)) (So O (Y.ixS (n - 1) sl_174 O O O (by omega)) (So O (Y.ixA1 1 ar_176 O O O (by omega)) (So O (Y.ld ld_3 O (H.cell 0 O (show nearCells[0+(n - 1) * 2+1]?=_ by rw [show 0+(n - 1) * 2+1=2 * (n - 1)+1 by omega];exact n2))) (So O (YI O) (So O (Y.mul O O (m64 (by omega))) (So O (Y.add O O (w64 (by omega))) (So O (Y.max (r:=((distOf wide n:Nat):Int)) O O (by rw [e];split <;> split <;> omega)) (So O (AI O) (Sn (tn (Ct ?_)))))))))))))))))))
 exact Done.ret1 O O ⟨rfl,H.frm⟩
theorem place_any (W:World) (p bits:Nat) (hp:p<2 ^ 32) (h1:1≤bits) (hb:bits≤11) :
  Calls Tryd.prog 61 #[.int .u32 (p:Nat),.int .i64 (bits:Nat)] W fun e w' => e=.returned (.int .i64 (hashOf bits p:Nat))∧w'=W:=by
 have hh:hashOf bits p<2 ^ bits:=hashOf_lt h1 hb
 have h11:2 ^ bits≤2 ^ 11:=Nat.pow_le_pow_right (by omega) hb
 refine enter (m:=11) Tryd.func61 O Tryd.ntmps61 O (Cy (Lo O (AI O) (Lt (Cy (Lo O (YI O) (Lo O (Y.mul (r:=((p * 506832829 % 4294967296:Nat):Int)) O O (by rw [wu32m];omega)) (Lo O (YI O) (Lo O (Y.sub (r:=((32 - bits:Nat):Int)) O O (by rw [w64 (by omega)];omega)) (Lo O (Y.shr (r:=((hashOf bits p:Nat):Int)) O O (by omega) (shrK (k:=.u32) (by show _≤(32:Nat);omega))) (Lo O (Y.cv int_36_3 O (w64 (by omega))) (Lo O (AI O) (Lt (Ct ?_)))))))))))))
 exact Done.ret1 O O ⟨rfl,rfl⟩
theorem written_any (W:World) (far wide:Nat) (hf1:1≤far) (hf2:far≤1000000) (hw2:wide≤1000000) (cb B k:Nat) (v:Value) (hb:Blk W cb (chL v k) 53) (hw:WayAt B v W) (hB:B≠cb) (hk:k≤4611686018427300000) :
  Calls Tryd.prog 60 #[.int .i64 (far:Nat),.int .i64 (wide:Nat),.pointer (some ⟨cb,0,none⟩)] W fun e w' => ∃ c k',e=.returned (.int .i64 (c:Nat))∧1≤c∧c≤1048576∧distOf wide c=far∧Blk w' cb (chL v k') 53∧k≤k'∧k'≤k+2∧Frm [cb] W w':=by
 have H:=St.ofBlk hb
 have hcbB:∀ x ∈ [cb],B≠x:=by simpa using hB
 have hfar:distOf wide (far+120)=far:=by unfold distOf;rw [if_pos (by omega)];omega
 refine enter (m:=33) Tryd.func60 O Tryd.ntmps60 O (Cy (Lo O (AI O) (Lt (Cs (Cy (Lo O (YP O) (VL.next H 0 O hw hcbB hB 3 (by omega) (by omega) (by omega) O O O ?_)))))))
 intro w r hr H
 simp only [List.set] at H
 refine Lo O (Y.gtr O O) (Lt ?_)
 refine VC.join (fun ρ w' => ∃ k',k≤k'∧k'≤k+2∧ρ 0=.int .i64 (far:Nat)∧St W [cb] [blkR cb (chL v k') 53] w') ?_ ?_
 case refine_1 =>
  by_cases hr0:(r:Int) > 0
  case neg =>
   refine CF O hr0 (Ck (tn ?_))
   exact ⟨k+1,by omega,by omega,rfl,H⟩
  refine CT O hr0 (Cy (Lo O (YP O) (VL.next H 0 O hw hcbB hB 120 (by omega) (by omega) (by omega) O O O ?_)))
  intro w from_ hfrom H
  simp only [List.set] at H
  refine Lo O (AI O) (Lt (Cy (Lo O (YI O) (Lt (Cb ?_)))))
  refine Cl (fun mm ρ w' => ∃ i,mm=120 - i∧i≤120∧ρ 0=.int .i64 (far:Nat)∧ρ 1=.int .i64 (wide:Nat)∧ρ 7=.int .i64 (from_:Nat)∧ρ 15=.int .i64 (i:Nat)∧St W [cb] [blkR cb (chL v (k+1+1)) 53] w') 120
   ⟨0,rfl,by omega,rfl,rfl,rfl,rfl,H⟩ ?_
  clear H
  rintro mm ρ w5 ⟨i,hmm,hi,r0,r1,r7,r15,H⟩
  refine Cy (Lo O (Y.lss r15 O) (Lt ?_))
  by_cases hlt:i<120
  case neg =>
   refine Cs (CF O (by omega) (Cx (thn_x (thn_x (blk_x (tn ?_))))))
   exact ⟨k+1+1,by omega,by omega,r0,H⟩
  obtain ⟨c,hc⟩:∃ c,c=(from_+i) % 120:=⟨_,rfl⟩
  have hdb:=distOf_le (w:=wide) (c:=c+1) hw2 (by omega)
  refine Cs (CT O (by omega) (Ck (tn (Cs (Cb (Cy (Lo O (YI r15) (Lo O (AI O) (Lt (Cy (Lo O (YI r7) (Lo O (YI O) (Lo O (Y.add O O (n64 (by omega))) (Lo O (Y.remr (r:=((c:Nat):Int)) O O (by omega) (by rw [hc];rfl)) (Lo O (AI O) (Ln ?_))))))))))))))))
  refine tn (Cy (Lo O (YI O) (Lo O (Y.add O O (n64 (b:=1) (by omega))) (Lo O (YI r1) (VL.call O ent_71 (sdist_any _ (c+1) wide (by omega) (by omega) hw2) O ?_)))))
  rintro e w ⟨he,hf⟩
  replace H:=H.quiet hf
  refine ⟨_,he,?_⟩
  refine Lo O (YI r0) (Lo O (Y.eql O O) (Lt ?_))
  by_cases hd:distOf wide (c+1)=far
  case pos =>
   refine CT O (by omega) (Cy (Lo O (YI O) (Lo O (Y.add O O (n64 (b:=1) (by omega))) (Lo O (AI O) (Lt (Ct (blk_r (thn_r (thn_r (blk_r (thn_r ?_)))))))))))
   exact Done.ret1 O O ⟨c+1,k+1+1,rfl,by omega,by omega,hd,H.blk (i:=0) rfl,by omega,by omega,H.frm⟩
  refine CF O (by omega) (Ck (blk_n (tn (Cr (Lo O (Y.add r15 O (n64 (b:=1) (by omega))) (Lo O (YI O) (Lt ?_)))))))
  exact ⟨120 - (i+1),by omega,i+1,rfl,by omega,r0,r1,r7,rfl,H⟩
 case refine_2 =>
 clear H
 rintro ρ w5 ⟨k',hk1,hk2,r0,H⟩
 refine Cy (Lo O (YI r0) (Lo O (Y.add O O (n64 (b:=120) (by omega))) (Lo O (AI O) (Lt (Ct ?_)))))
 exact Done.ret1 O O ⟨far+120,k',rfl,by omega,by omega,hfar,H.blk (i:=0) rfl,hk1,hk2,H.frm⟩
end Go.Proofs.YtinkhckpckfajaaDoor
set_option maxHeartbeats 1000000
namespace Go.Proofs.YtinkhckpckfajaaDoor
open Go
def lessPx (p q:Nat):Nat:=argb ((pA p+256 - pA q) % 256) ((pR p+256 - pR q) % 256) ((pG p+256 - pG q) % 256) ((pB p+256 - pB q) % 256)
theorem lessPx_parts (p q:Nat):pA (lessPx p q)=(pA p+256 - pA q) % 256∧pR (lessPx p q)=(pR p+256 - pR q) % 256∧pG (lessPx p q)=(pG p+256 - pG q) % 256∧pB (lessPx p q)=(pB p+256 - pB q) % 256∧lessPx p q<2 ^ 32 :=
 argb_parts (Nat.mod_lt _ (by omega)) (Nat.mod_lt _ (by omega)) (Nat.mod_lt _ (by omega)) (Nat.mod_lt _ (by omega))
theorem add_less {p q:Nat} (hp:p<2 ^ 32):addPx (lessPx p q) q=p:=by
 obtain ⟨h1,h2,h3,h4,_⟩:=lessPx_parts p q
 obtain ⟨a1,a2,a3,a4⟩:=parts_lt p
 obtain ⟨b1,b2,b3,b4⟩:=parts_lt q
 unfold addPx
 rw [h1,h2,h3,h4,show ((pA p+256 - pA q) % 256+pA q) % 256=pA p by omega,show ((pR p+256 - pR q) % 256+pR q) % 256=pR p by omega,show ((pG p+256 - pG q) % 256+pG q) % 256=pG p by omega,show ((pB p+256 - pB q) % 256+pB q) % 256=pB p by omega,argb_self hp]
def ungreen (p:Nat):Nat:=argb (pA p) ((pR p+256 - pG p) % 256) (pG p) ((pB p+256 - pG p) % 256)
theorem ungreen_parts (p:Nat):pA (ungreen p)=pA p∧pR (ungreen p)=(pR p+256 - pG p) % 256∧pG (ungreen p)=pG p∧pB (ungreen p)=(pB p+256 - pG p) % 256∧ungreen p<2 ^ 32 :=
 argb_parts (parts_lt p).1 (Nat.mod_lt _ (by omega)) (parts_lt p).2.2.1 (Nat.mod_lt _ (by omega))
theorem green_un {p:Nat} (hp:p<2 ^ 32):greenPx (ungreen p)=p:=by
 obtain ⟨h1,h2,h3,h4,_⟩:=ungreen_parts p
 obtain ⟨a1,a2,a3,a4⟩:=parts_lt p
 unfold greenPx
 rw [h1,h2,h3,h4,show ((pR p+256 - pG p) % 256+pG p) % 256=pR p by omega,show ((pB p+256 - pG p) % 256+pG p) % 256=pB p by omega,argb_self hp]
def uncross (m p:Nat):Nat:=argb (pA p) ((pR p+256 - deltaB (pB m) (pG p)) % 256) (pG p) ((pB p+512 - deltaB (pG m) (pG p) - deltaB (pR m) (pR p)) % 256)
theorem uncross_parts (m p:Nat):pA (uncross m p)=pA p∧pR (uncross m p)=(pR p+256 - deltaB (pB m) (pG p)) % 256∧pG (uncross m p)=pG p∧pB (uncross m p)=(pB p+512 - deltaB (pG m) (pG p) - deltaB (pR m) (pR p)) % 256∧uncross m p<2 ^ 32 :=
 argb_parts (parts_lt p).1 (Nat.mod_lt _ (by omega)) (parts_lt p).2.2.1 (Nat.mod_lt _ (by omega))
theorem cross_un {m p:Nat} (hp:p<2 ^ 32):crossPx m (uncross m p)=p:=by
 obtain ⟨h1,h2,h3,h4,_⟩:=uncross_parts m p
 obtain ⟨a1,a2,a3,a4⟩:=parts_lt p
 have d1:=deltaB_lt (pB m) (pG p)
 have d2:=deltaB_lt (pG m) (pG p)
 have d3:=deltaB_lt (pR m) (pR p)
 have e:((pR p+256 - deltaB (pB m) (pG p)) % 256+deltaB (pB m) (pG p)) % 256=pR p:=by omega
 unfold crossPx
 rw [h1,h2,h3,h4,e,show ((pB p+512 - deltaB (pG m) (pG p) - deltaB (pR m) (pR p)) % 256+deltaB (pG m) (pG p)+deltaB (pR m) (pR p)) % 256=pB p by omega,argb_self hp]
theorem scan_fwd (f:List Nat→Nat→Nat) (g:Nat→Nat) (px:List Nat) (h:∀ i,i<px.length→f (px.take i) (g i)=px.getD i 0):scan f [] ((List.range px.length).map g)=px:=by
 have key:∀ k,k≤px.length→scan f [] ((List.range k).map g)=px.take k:=by
  intro k
  induction k with
  | zero => intro _;rfl
  | succ k ih =>
   intro hk
   have e:px.getD k 0=px[k]:=by simp [show k<px.length by omega]
   rw [List.range_succ,List.map_append,scan_append,ih (by omega),List.map_singleton,scan,h k (by omega),e,scan,← List.take_succ_eq_append_getElem (show k<px.length by omega)]
 rw [key _ (Nat.le_refl _),List.take_length]
def packN (e:Nat) (f:Nat→Nat):Nat→Nat
 | 0 => 0
 | n+1 => packN e f n+f n * 2 ^ (e * n)
theorem packN_lt {e:Nat} {f:Nat→Nat}:∀ n,(∀ k,k<n→f k<2 ^ e)→packN e f n<2 ^ (e * n)
 | 0,h => by simp [packN]
 | n+1,h => by
  have h1:=packN_lt n fun k hk => h k (by omega)
  have h2:=h n (by omega)
  have h3:(f n+1) * 2 ^ (e * n)≤2 ^ e * 2 ^ (e * n):=Nat.mul_le_mul_right _ h2
  rw [packN,Nat.mul_succ,Nat.pow_add,Nat.mul_comm (2 ^ (e * n))]
  rw [Nat.add_mul,Nat.one_mul] at h3
  omega
theorem packN_get {e:Nat} {f:Nat→Nat}:∀ n,(∀ k,k<n→f k<2 ^ e)→∀ k,k<n→packN e f n / 2 ^ (e * k) % 2 ^ e=f k
 | 0,h,k,hk => by omega
 | n+1,h,k,hk => by
  have hl:=packN_lt n fun k hk => h k (by omega)
  have ih:=packN_get n fun k hk => h k (by omega)
  rw [packN]
  by_cases hkn:k=n
  ·subst hkn
   rw [Nat.add_mul_div_right _ _ (Nat.two_pow_pos _),Nat.div_eq_of_lt hl,Nat.zero_add,Nat.mod_eq_of_lt (h k (by omega))]
  ·have hk':k<n:=by omega
   have e1:e * n=e * k+(e+e * (n - k - 1)):=by
    obtain ⟨m,rfl⟩:∃ m,n=k+1+m:=⟨n - k - 1,by omega⟩
    rw [show k+1+m - k - 1=m by omega]
    simp only [Nat.mul_add,Nat.mul_one,Nat.add_assoc]
   rw [e1,Nat.pow_add,Nat.pow_add,show f n * (2 ^ (e * k) * (2 ^ e * 2 ^ (e * (n - k - 1))))=(2 ^ e * (f n * 2 ^ (e * (n - k - 1)))) * 2 ^ (e * k) by
    simp only [Nat.mul_comm,Nat.mul_left_comm,Nat.mul_assoc],Nat.add_mul_div_right _ _ (Nat.two_pow_pos _),Nat.add_mul_mod_self_left]
   exact ih k hk'
def idxIn (T:List Nat) (c:Nat):Nat:=T.idxOf c
theorem idxIn_lt {T:List Nat} {c:Nat} (h:c ∈ T):idxIn T c<T.length:=List.idxOf_lt_length_iff.2 h
theorem idxIn_get {T:List Nat} {c:Nat} (h:c ∈ T):T.getD (idxIn T c) 0=c:=by
 rw [List.getD_eq_getElem?_getD,List.getElem?_eq_getElem (idxIn_lt h)]
 simp [idxIn]
def packF (w b:Nat) (T px:List Nat) (j k:Nat):Nat:=if j % tilesN w b * 2 ^ b+k<w then idxIn T (px.getD (j / tilesN w b * w+j % tilesN w b * 2 ^ b+k) 0) else 0
def packPx (w b:Nat) (T px:List Nat) (j:Nat):Nat:=argb 255 0 (packN (8 / 2 ^ b) (packF w b T px j) (2 ^ b)) 0
theorem each_bits {b:Nat} (h:b≤3):8 / 2 ^ b * 2 ^ b=8:=by
 have:b=0∨b=1∨b=2∨b=3:=by omega
 rcases this with rfl | rfl | rfl | rfl <;> rfl
theorem shorter_room {n:Nat} (h:n≤256):n≤2 ^ (8 / 2 ^ shorterN n):=by
 unfold shorterN
 split
 ·simp;omega
 ·split
  ·simp;omega
  ·split
   ·simp;omega
   ·simp;omega
theorem packF_lt {w b h:Nat} {T px:List Nat} (hT:T.length≤256) (hb:b=shorterN T.length) (hl:px.length=w * h) (hm:∀ p ∈ px,p ∈ T) {j:Nat} (hj:j<h * tilesN w b) (k:Nat):packF w b T px j k<2 ^ (8 / 2 ^ b):=by
 have hr:=shorter_room hT
 rw [← hb] at hr
 unfold packF
 split
 ·rename_i hlt
  have ht:0<tilesN w b:=by
   rcases Nat.eq_zero_or_pos (tilesN w b) with h0 | h0
   ·rw [h0] at hj;omega
   ·exact h0
  have hy:j / tilesN w b<h:=Nat.div_lt_of_lt_mul (by rw [Nat.mul_comm];exact hj)
  have hin:j / tilesN w b * w+j % tilesN w b * 2 ^ b+k<px.length:=by
   have:=Nat.mul_le_mul_right w (show j / tilesN w b+1≤h from hy)
   rw [Nat.add_mul,Nat.one_mul] at this
   rw [hl,Nat.mul_comm w h]
   omega
  have hmem:px.getD (j / tilesN w b * w+j % tilesN w b * 2 ^ b+k) 0 ∈ T:=by
   rw [List.getD_eq_getElem?_getD,List.getElem?_eq_getElem hin]
   exact hm _ (List.getElem_mem hin)
  exact Nat.lt_of_lt_of_le (idxIn_lt hmem) hr
 ·exact Nat.two_pow_pos _
theorem packPx_g {w b h:Nat} {T px:List Nat} (hT:T.length≤256) (hb:b=shorterN T.length) (hl:px.length=w * h) (hm:∀ p ∈ px,p ∈ T) {j:Nat} (hj:j<h * tilesN w b) :
  packN (8 / 2 ^ b) (packF w b T px j) (2 ^ b)<256∧pG (packPx w b T px j)=packN (8 / 2 ^ b) (packF w b T px j) (2 ^ b)∧packPx w b T px j<2 ^ 32:=by
 have h8:=each_bits (b:=b) (by rw [hb];exact shorterN_le _)
 have hlt:=packN_lt (2 ^ b) fun k _ => packF_lt hT hb hl hm hj k
 rw [h8] at hlt
 have:=argb_parts (a:=255) (r:=0) (g:=packN (8 / 2 ^ b) (packF w b T px j) (2 ^ b)) (b:=0) (by omega) (by omega) hlt (by omega)
 exact ⟨hlt,this.2.2.1,this.2.2.2.2⟩
theorem index_un {w h b:Nat} {T px:List Nat} (hw:1≤w) (hT:T.length≤256) (hb:b=shorterN T.length) (hl:px.length=w * h) (hm:∀ p ∈ px,p ∈ T):indexOut w h b T ((List.range (h * tilesN w b)).map (packPx w b T px))=px:=by
 unfold indexOut
 apply List.ext_getElem
 ·simp [hl]
 ·intro i h1 h2
  have hi:i<w * h:=by simpa using h1
  rw [List.getElem_map,List.getElem_range]
  have hx:i % w<w:=Nat.mod_lt _ hw
  have hy:i / w<h:=Nat.div_lt_of_lt_mul hi
  have ht:=tile_lt (b:=b) hx
  have hj:i / w * tilesN w b+i % w / 2 ^ b<h * tilesN w b:=by
   have:=Nat.mul_le_mul_right (tilesN w b) (show i / w+1≤h from hy)
   rw [Nat.add_mul,Nat.one_mul] at this
   generalize i % w / 2 ^ b=q at ht ⊢
   omega
  have e1:(i / w * tilesN w b+i % w / 2 ^ b) / tilesN w b=i / w:=by
   rw [Nat.mul_comm,Nat.mul_add_div (Nat.lt_of_le_of_lt (Nat.zero_le _) ht),Nat.div_eq_of_lt ht,Nat.add_zero]
  have e2:(i / w * tilesN w b+i % w / 2 ^ b) % tilesN w b=i % w / 2 ^ b:=by
   rw [Nat.mul_comm,Nat.mul_add_mod,Nat.mod_eq_of_lt ht]
  unfold idxPx
  rw [List.getD_eq_getElem?_getD,List.getD_eq_getElem?_getD (l:=List.map _ _),List.getElem?_map,List.getElem?_range hj,Option.map_some,Option.getD_some,(packPx_g hT hb hl hm hj).2.1,
   packN_get (2 ^ b) (fun k _ => packF_lt hT hb hl hm hj k) (i % w % 2 ^ b) (Nat.mod_lt _ (Nat.two_pow_pos _))]
  unfold packF
  have e3:i % w / 2 ^ b * 2 ^ b+i % w % 2 ^ b=i % w:=by rw [Nat.mul_comm];exact Nat.div_add_mod _ _
  have e4:i / w * w+i % w=i:=by rw [Nat.mul_comm];exact Nat.div_add_mod _ _
  rw [e1,e2,e3,if_pos hx,Nat.add_assoc,e3,e4,← List.getD_eq_getElem?_getD]
  have eg:px.getD i 0=px[i]:=by simp [h2]
  rw [eg]
  exact idxIn_get (hm _ (List.getElem_mem h2))
def fwd1 (ht:Nat) (t:Tr) (px:List Nat):List Nat :=
 if t.kind=0 then (List.range px.length).map fun i => lessPx (px.getD i 0) (predPx t.wd t.bits t.px (px.take i))
 else if t.kind=1 then (List.range px.length).map fun i => uncross (t.px.getD (blkAt t.wd t.bits i) 0) (px.getD i 0)
 else if t.kind=2 then (List.range px.length).map fun i => ungreen (px.getD i 0)
 else (List.range (ht * tilesN t.wd t.bits)).map (packPx t.wd t.bits t.px px)
def Palette (t:Tr) (px:List Nat):Prop:=t.px.length≤256∧t.bits=shorterN t.px.length∧∀ p ∈ px,p ∈ t.px
theorem fwd1_ok {ht:Nat} {t:Tr} {px:List Nat} (hk:t.kind≤3) (hw:1≤t.wd) (h3:t.kind=3→Palette t px) (hl:px.length=t.wd * ht) (h32:∀ p ∈ px,p<2 ^ 32) :
  undo1 ht t (fwd1 ht t px)=px∧(fwd1 ht t px).length=newW t * ht∧∀ p ∈ fwd1 ht t px,p<2 ^ 32:=by
 have hg:∀ i,i<px.length→px.getD i 0<2 ^ 32:=fun i hi => by
  have e:px.getD i 0=px[i]:=by simp [hi]
  rw [e]
  exact h32 _ (List.getElem_mem hi)
 have htl:∀ i,i<px.length→(px.take i).length=i:=fun i hi => by rw [List.length_take];omega
 unfold undo1 fwd1 newW
 have hcases:t.kind=0∨t.kind=1∨t.kind=2∨t.kind=3:=by omega
 rcases hcases with h | h | h | h
 ·rw [h,if_pos rfl,if_pos rfl,if_neg (by decide)]
  refine ⟨scan_fwd _ _ px fun i hi => ?_,by simp [hl],fun p hp => ?_⟩
  ·unfold predF
   exact add_less (hg i hi)
  ·obtain ⟨i,_,rfl⟩:=List.mem_map.1 hp
   exact (lessPx_parts _ _).2.2.2.2
 ·rw [h,if_neg (by decide),if_pos rfl,if_neg (by decide),if_pos rfl,if_neg (by decide)]
  refine ⟨scan_fwd _ _ px fun i hi => ?_,by simp [hl],fun p hp => ?_⟩
  ·unfold crossF
   rw [htl i hi]
   exact cross_un (hg i hi)
  ·obtain ⟨i,_,rfl⟩:=List.mem_map.1 hp
   exact (uncross_parts _ _).2.2.2.2
 ·rw [h,if_neg (by decide),if_neg (by decide),if_pos rfl,if_neg (by decide),if_neg (by decide),if_pos rfl,if_neg (by decide)]
  refine ⟨scan_fwd _ _ px fun i hi => green_un (hg i hi),by simp [hl],fun p hp => ?_⟩
  obtain ⟨i,_,rfl⟩:=List.mem_map.1 hp
  exact (ungreen_parts _).2.2.2.2
 ·obtain ⟨p1,p2,p3⟩:=h3 h
  rw [h,if_neg (by decide),if_neg (by decide),if_neg (by decide),if_neg (by decide),if_neg (by decide),if_neg (by decide),if_pos rfl]
  refine ⟨index_un hw p1 p2 hl p3,by simp [Nat.mul_comm],fun p hp => ?_⟩
  obtain ⟨j,hj,rfl⟩:=List.mem_map.1 hp
  exact (packPx_g p1 p2 hl p3 (List.mem_range.1 hj)).2.2
def diffs (T:List Nat):List Nat:=(List.range T.length).map fun i => if i=0 then T.getD 0 0 else lessPx (T.getD i 0) (T.getD (i - 1) 0)
theorem sums_diffs {T:List Nat} (h32:∀ p ∈ T,p<2 ^ 32):sums (diffs T)=T:=by
 refine scan_fwd _ _ T fun i hi => ?_
 have hl:(T.take i).length=i:=by rw [List.length_take];omega
 rw [hl]
 by_cases h0:i=0
 ·subst h0;rw [if_pos rfl,if_pos rfl]
 ·rw [if_neg h0,if_neg h0]
  have e:(T.take i).getD (i - 1) 0=T.getD (i - 1) 0:=by
   rw [List.getD_eq_getElem?_getD,List.getElem?_take,if_pos (by omega),← List.getD_eq_getElem?_getD]
  rw [e]
  refine add_less ?_
  have eg:T.getD i 0=T[i]:=by simp [hi]
  rw [eg]
  exact h32 _ (List.getElem_mem hi)
def trBits (t:Tr) (X:Bits):Bits:=if t.kind≤1 then bitsN t.kind 2++(bitsN (t.bits - 2) 3++X) else if t.kind=2 then bitsN 2 2 else bitsN 3 2++(bitsN (t.px.length - 1) 8++X)
theorem decTr_reads {w h:Nat} {t:Tr} {X:Bits} (hk:t.kind≤3) (hw:t.wd=w) (h01:t.kind≤1→2≤t.bits∧t.bits≤9∧Rds (decSub (tilesN w t.bits) (tilesN h t.bits)) X t.px)
  (h2:t.kind=2→t.bits=0∧t.px=[]) (h3:t.kind=3→1≤t.px.length∧t.px.length≤256∧t.bits=shorterN t.px.length∧Rds (decSub t.px.length 1) X (diffs t.px)∧∀ p ∈ t.px,p<2 ^ 32) :
  Rds (decTr w h) (trBits t X) (t,newW t):=by
 obtain ⟨kind,wd,bits,px⟩:=t
 simp only at hk hw h01 h2 h3
 subst hw
 unfold trBits decTr newW
 simp only
 by_cases h1:kind≤1
 ·obtain ⟨b1,b2,b3⟩:=h01 h1
  rw [if_pos h1]
  refine (rds_bits (show kind<2 ^ 2 by omega)).pb ?_
  rw [if_pos h1,if_neg (show ¬ kind=3 by omega)]
  refine (rds_bits (show bits - 2<2 ^ 3 by omega)).pb ?_
  rw [show bits - 2+2=bits by omega]
  exact Rds.last b3 (Rds.retE O)
 ·rw [if_neg h1]
  by_cases hk2:kind=2
  ·subst hk2
   obtain ⟨rfl,rfl⟩:=h2 rfl
   rw [if_pos rfl]
   exact Rds.last (rds_bits (n:=2) (k:=2) (by decide)) (by rw [if_neg (by decide),if_pos rfl,if_neg (by decide)];exact Rds.ret _)
  ·obtain rfl:kind=3:=by omega
   obtain ⟨b1,b2,b3,b4,b5⟩:=h3 rfl
   rw [if_neg (by decide)]
   refine (rds_bits (n:=3) (k:=2) (by decide)).pb ?_
   rw [if_neg (by decide),if_neg (by decide),if_pos rfl]
   refine (rds_bits (show px.length - 1<2 ^ 8 by omega)).pb ?_
   rw [show px.length - 1+1=px.length by omega]
   refine Rds.last b4 (Rds.retE ?_)
   rw [sums_diffs b5,b3]
end Go.Proofs.YtinkhckpckfajaaDoor
