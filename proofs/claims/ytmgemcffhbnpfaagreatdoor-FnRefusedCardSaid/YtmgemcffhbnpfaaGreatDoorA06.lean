/-
  A picture is written and read: part 6 of 13 (Decode, Small, Impl, Plain, Is, Picture, Pack, Writer, Code, Choice, SCodes, Kraft, Len, LenP, Ops4).
-/
import Derived.Test.YtmgemcffhbnpfaaGreatDoorA05
import Derived.Laws.BytesArg
import Derived.Laws.Strings
import Derived.Laws.Small
set_option linter.unusedVariables false
set_option linter.unusedSimpArgs false
set_option maxRecDepth 100000
set_option maxHeartbeats 4000000
namespace Go.Proofs.YtmgemcffhbnpfaaGreatDoor
open Go
def l_ (ht:Nat) (t:Tr) (px:List Nat):List Nat :=
 if t.kind=0 then i4 (pz t.wd t.bits t.px) [] px else if t.kind=1 then i4 (kz t.wd t.bits t.px) [] px else if t.kind=2 then i4 iO [] px else jf t.wd ht t.bits t.px px
def ge (ht:Nat) (l:List Tr) (px:List Nat):List Nat:=l.foldr (l_ ht) px
def i0 (t:Tr):Nat:=if t.kind=3 then aq t.wd t.bits else t.wd
def jJ:Nat→List Tr→Nat→Prop
 | w,[],w' => w=w'
 | w,t :: l,w' => t.wd=w∧jJ (i0 t) l w'
theorem jJ.snoc:∀ {w:Nat} {l:List Tr} {w':Nat} {t:Tr},jJ w l w'→t.wd=w'→jJ w (l++[t]) (i0 t)
 | w,[],w',t,h,ht => ⟨ht.trans h.symm,rfl⟩
 | w,a :: l,w',t,h,ht => ⟨h.1,h.2.snoc ht⟩
theorem I7 {w h:Nat} {R R':aM} {t:Tr} {nw:Nat} (hd:rU w h R=some ((t,nw),R')):t.wd=w∧nw=i0 t:=by
 obtain ⟨k,R1,_,hd⟩:=d9 hd
 split at hd
 ·obtain ⟨b,R2,_,hd⟩:=d9 hd
  obtain ⟨px,R3,_,hd⟩:=d9 hd
  have e:=(iY hd).1
  simp only [Prod.mk.injEq] at e
  obtain ⟨rfl,rfl⟩:=e
  exact ⟨O,by unfold i0;rw [if_neg (by show k≠3;omega)]⟩
 ·split at hd
  ·have e:=(iY hd).1
   simp only [Prod.mk.injEq] at e
   obtain ⟨rfl,rfl⟩:=e
   exact ⟨O,by unfold i0;rw [if_neg (by show 2≠3;omega)]⟩
  ·obtain ⟨b,R2,_,hd⟩:=d9 hd
   obtain ⟨px,R3,_,hd⟩:=d9 hd
   have e:=(iY hd).1
   simp only [Prod.mk.injEq] at e
   obtain ⟨rfl,rfl⟩:=e
   exact ⟨O,by unfold i0;rw [if_pos rfl]⟩
def z4:List Value:=[.int .u32 0,.int .i32 0,.int .u32 0,.slice none 0 0]
def t4 (q:Tr × Value):List Value:=[.int .u32 (q.1.kind:Nat),.int .i32 (q.1.wd:Nat),.int .u32 (q.1.bits:Nat),q.2]
def gD:Nat→List (Tr × Value)→List Value
 | 0,_ => []
 | n+1,[] => z4++gD n []
 | n+1,q :: l => t4 q++gD n l
theorem nt:∀ (n:Nat) (l:List (Tr × Value)),(gD n l).length=4 * n
 | 0,_ => rfl
 | n+1,[] => by rw [gD,List.length_append,nt n,show z4.length=4 from rfl];omega
 | n+1,q :: l => by rw [gD,List.length_append,nt n,show (t4 q).length=4 from rfl];omega
theorem vB:∀ (n:Nat) (l:List (Tr × Value)) (j k:Nat) (q:Tr × Value),l[j]?=some q→j<n→k<4→(gD n l)[4 * j+k]?=(t4 q)[k]?
 | n,[],j,k,q,h,_,_ => by simp at h
 | 0,_,j,k,q,h,hj,_ => ω
 | n+1,p :: l,0,k,q,h,hj,hk => by
  simp only [List.getElem?_cons_zero,Option.some.injEq] at h
  subst h
  rw [gD,Nat.mul_zero,Nat.zero_add,List.getElem?_append_left (by show k<4;omega)]
 | n+1,p :: l,j+1,k,q,h,hj,hk => by
  have:=vB n l j k q (by simpa using h) ω hk
  rw [gD,List.getElem?_append_right (by show 4≤_;omega),show (t4 p).length=4 from rfl,show 4 * (j+1)+k - 4=4 * j+k by omega,this]
theorem CN (l:List (Tr × Value)) (q:Tr × Value) (h:l.length≤3):wr (gD 4 l) (0+l.length * 4) (t4 q)=gD 4 (l++[q]):=by
 match l,h with
 | [],_ => rfl
 | [a],_ => rfl
 | [a,b],_ => rfl
 | [a,b,c],_ => rfl
 | a :: b :: c :: d :: r,h => simp at h
def pS (f:Nat→Bool):List Value:=[.bool (f 0),.bool (f 1),.bool (f 2),.bool (f 3)]
theorem Fk (f:Nat→Bool) (k:Nat) (h:k<4):(pS f)[0+k]?=some (.bool (f k)):=by
 have:k=0∨k=1∨k=2∨k=3:=ω
 rcases this with rfl | rfl | rfl | rfl <;> rfl
def cM (l:List Tr) (k:Nat):Bool:=l.any (·.kind=k)
theorem ET (l:List Tr) (t:Tr) (h:t.kind<4):(pS (cM l)).set (0+t.kind) (.bool true)=pS (cM (l++[t])):=by
 have e:∀ j,cM (l++[t]) j=(cM l j || decide (t.kind=j)):=fun j => by simp [cM]
 unfold pS
 rw [e,e,e,e]
 have:t.kind=0∨t.kind=1∨t.kind=2∨t.kind=3:=ω
 rcases this with h | h | h | h <;> rw [h] <;> simp [List.set]
def yI (l:List Tr):Nat:=(cM l 0).toNat+(cM l 1).toNat+(cM l 2).toNat+(cM l 3).toNat
theorem FI (l:List Tr):yI l≤4:=by
 unfold yI
 have:=Bool.toNat_le (cM l 0)
 have:=Bool.toNat_le (cM l 1)
 have:=Bool.toNat_le (cM l 2)
 have:=Bool.toNat_le (cM l 3)
 omega
theorem Dc (l:List Tr) (t:Tr) (h:t.kind<4) (hn:cM l t.kind=false):yI (l++[t])=yI l+1:=by
 have e:∀ j,cM (l++[t]) j=(cM l j || decide (t.kind=j)):=fun j => by simp [cM]
 unfold yI
 rw [e,e,e,e]
 have:t.kind=0∨t.kind=1∨t.kind=2∨t.kind=3:=ω
 rcases this with h | h | h | h <;> rw [h] at hn ⊢ <;> simp [hn] <;> omega
theorem G9 (W:World) (wd ht:Nat) :
  Calls Tryz.prog 53 #[.int .i64 0,.int .i64 0,iT wd,iT ht] W fun e w' => e=.returned (.agg #[.int .i64 0,.int .i64 0,iT wd,iT ht])∧cf [] W w':=by
 have H:St W [] [] W:=St.nil W []
 refine enter (m:=26) Tryz.func53 O Tryz.ntmps53 O (Cy (cE H Db O ?_))
 intro w b8 hn8 hb8 H
 refine Lt (Cs (Cy (ai O (ai O (Lp (e9 O O) (Lt (CF O ω (Ck (tn (Cs (Cy (ai O (ai O (Lp (e9 O O) (Lt (CF O ω ?_))))))))))))))))
 refine Ck (tn (Cy (ai O (ai O (Lp (iF [.int .i64 0,.int .i64 0] O κ) (ai O (ai O (Lp (iF [iT wd,iT ht] O κ) (Lp (iF [.int .i64 0,.int .i64 0,iT wd,iT ht] O κ) (dG H 0 CR O O O O O (by simp [Value.oneCell']) ?_))))))))))
 intro w H
 try simp only [List.set,List.eraseIdx] at H
 refine Lt (Ct ?_)
 exact lB (cs:=[.int .i64 0,.int .i64 0,iT wd,iT ht]) O uj O O (fun j hj => by rw [Nat.zero_add];exact (H.blk (i:=0) O).cell j) ⟨O,H.frm⟩
theorem zP {w0 w1 w:World} {S T:List Nat} {l:List e_} (hF:cf S w0 w1) (H:St w1 T l w) (hT:∀ x ∈ T,x ∈ S∨w0.heap.size≤x):St w0 S l w :=
 ⟨hF.then H.frm hT,H.has,H.loc,fun r hr b hb => by
  rcases H.own r hr b hb with h | h
  ·exact hT b h
  ·exact .inr (Nat.le_trans hF.size h),H.apart⟩
theorem St.swap {w0 w w':World} {S:List Nat} {l:List e_} {b b':Nat} {cs cs':List Value} {t t':TypeId} (h:St w0 S (aa b cs t :: l) w) (hf:cf [b] w w') (hb:ff w' b' cs' t') (hor:b'=b∨w.heap.size≤b'):St w0 S (aa b' cs' t' :: l) w':=by
 rcases hor with rfl | hn
 ·exact h.turnB 0 O hf hb
 ·have h2:St w0 S l w':=h.lost (i:=0) rfl hf
  refine h2.cons hb ⟨cw _ _ _,dW _ _ _⟩ (fun x hx => ?_) (fun s hs x hx hx2 => ?_)
  ·simp only [aa,List.mem_singleton] at hx
   subst hx
   exact .inr (Nat.le_trans h.frm.size hn)
  ·simp only [aa,List.mem_singleton] at hx
   subst hx
   have:=(h.loc s (List.mem_cons_of_mem _ hs)).2 w (h.has s (List.mem_cons_of_mem _ hs)) x hx2
   omega
theorem jJ.unsnoc:∀ {w:Nat} {l:List Tr} {w':Nat} {t:Tr},jJ w (l++[t]) w'→jJ w l t.wd∧w'=i0 t
 | w,[],w',t,h => ⟨h.1.symm,h.2.symm⟩
 | w,a :: l,w',t,h => ⟨⟨h.1,(jJ.unsnoc h.2).1⟩,(jJ.unsnoc h.2).2⟩
theorem FW (W:World) (btr off:Nat) (t:Tr) (pv:Value) (bp cap ht B:Nat) (inp:List Nat) (hT:GY W btr off t pv) (hO:B4 ht t) (hV:Hz B W t pv) (hn1:btr≠bp) (hn2:∀ b l c,pv=.slice (aT b) l c→b≠bp) (hh:1≤ht) (hh2:ht≤16384)
  (hb:ff W bp (bM .u8 (ap inp) cap) 5) (hil:inp.length=i0 t * ht) (hcap:4 * inp.length≤cap) (hc2:cap≤1073742848) :
  ∃ f,[(124:Nat),125,126,127][t.kind]?=some f∧fZ Tryz.prog f ∧
   Calls Tryz.prog f #[.pointer (some ⟨btr,off,none⟩),.slice (aT bp) (4 * inp.length) cap,.int .i32 (ht:Nat)] W (tR bp (l_ ht t inp) W):=by
 have hk:=hO.kind
 have hcase:t.kind=0∨t.kind=1∨t.kind=2∨t.kind=3:=ω
 have hm1:btr ∉ [bp]:=by simpa using hn1
 unfold i0 at hil
 unfold l_
 rcases hcase with h | h | h | h
 ·rcases hV with ⟨h2,_⟩ | ⟨_,b,len,cp,rfl,h3,_,h5,h6,_⟩
  ·omega
  have hm2:b ∉ [bp]:=by simpa using hn2 b _ _ rfl
  rw [if_neg ω] at hil
  rw [h,if_pos rfl]
  exact ⟨_,O,IN,FT W btr off t b len cp bp cap ht inp hT hO ω h5 h6 h3 hm1 hm2 hh hh2 hb hil hcap hc2⟩
 ·rcases hV with ⟨h2,_⟩ | ⟨_,b,len,cp,rfl,h3,_,h5,h6,_⟩
  ·omega
  have hm2:b ∉ [bp]:=by simpa using hn2 b _ _ rfl
  rw [if_neg ω] at hil
  rw [h,if_neg ω,if_pos rfl]
  exact ⟨_,O,Iu,EN W btr off t b len cp bp cap ht inp hT hO ω h5 h6 h3 hm1 hm2 hh hh2 hb hil hcap hc2⟩
 ·rw [h,if_neg ω,if_neg ω,if_pos rfl]
  exact ⟨_,O,IX,EG W _ bp cap ht inp hb hcap hc2⟩
 ·rcases hV with ⟨h2,_⟩ | ⟨_,b,len,cp,rfl,h3,_,h5,h6,h7⟩
  ·omega
  have hm2:b ∉ [bp]:=by simpa using hn2 b _ _ rfl
  have h8:=h7 h
  subst h8
  rw [if_pos h] at hil
  rw [h,if_neg ω,if_neg ω,if_neg ω]
  exact ⟨_,O,Ih,ED W btr off t b cp bp cap ht inp hT hO h h5 h3 hm1 hm2 hh hh2 hb hil hcap hc2⟩
theorem Ab {ht:Nat} {t:Tr} {inp:List Nat} (h:inp.length=i0 t * ht) (hk:t.kind≤3):(l_ ht t inp).length=t.wd * ht:=by
 unfold i0 at h
 unfold l_
 by_cases h0:t.kind=0
 ·rw [if_pos h0,fY,h,if_neg ω];simp
 ·rw [if_neg h0]
  by_cases h1:t.kind=1
  ·rw [if_pos h1,fY,h,if_neg ω];simp
  ·rw [if_neg h1]
   by_cases h2:t.kind=2
   ·rw [if_pos h2,fY,h,if_neg ω];simp
   ·rw [if_neg h2,pu]
def iS:jh (Nat × Nat × List Nat):=pb l5 fun q => pb (kQ q.2 5 q.1 []) fun t => pb (gT true t.2 q.2) fun px => ret (q.1,q.2,ge q.2 t.1 px)
def Ji (rd sb so cap:Nat) (s:List Nat) (r:Option ((Nat × Nat × List Nat) × aM)) (w:World) (e:Ending) (w':World):Prop :=
 (∃ wd ht out R' bi bx cp d,r=some ((wd,ht,out),R')∧e=.returned (.tuple #[.iface 69 (pT bi),.nilIface]) ∧
  ff w' bi [.slice (aT bx) (4 * out.length) cp,iT (4 * wd),.int .i64 0,.int .i64 0,iT wd,iT ht] 77∧4 * out.length≤cp∧cp≤1073742848∧ff w' bx (bM .u8 (ap out) cp) 5 ∧
  out.length=wd * ht∧1≤wd∧wd≤16384∧1≤ht∧ht≤16384∧w.heap.size≤bi∧w.heap.size≤bx∧w.heap.size≤d∧(cD ⟨d,rd,sb,so,cap,s⟩ R').pred w'∧cf [rd] w w') ∨
 (r=none∧(∃ a,e=.returned (.tuple #[.nilIface,.iface 149 (.pointer (some a))]))∧cf [rd] w w')
theorem Mf {w:World} {b:Nat} {q:List (Tr × Value)} {tt:TypeId} (hb:ff w b (gD 4 q) tt) {j:Nat} {p:Tr × Value} (hj:q[j]?=some p) (hj4:j<4):GY w b (0+j * 4) p.1 p.2:=by
 have key:∀ k v,k<4→(t4 p)[k]?=some v→w.cell? ⟨b,0+j * 4+k,none⟩=some v:=fun k v hk hv => by
  rw [show 0+j * 4+k=4 * j+k by omega]
  exact hb.cellv (by rw [vB 4 q j k p hj hj4 hk,hv])
 exact ⟨key 0 _ ω rfl,key 1 _ ω rfl,key 2 _ ω rfl,key 3 _ ω rfl⟩
theorem xc (rd sb so cap:Nat) (s:List Nat) (W:World) (I:LD rd sb so cap s W) :
  Calls Tryz.prog 25 #[.iface 67 (pT rd)] W (Ji rd sb so cap s (iS (fi s)) W):=by
 have OKF:yE false:=Er false (fun h => nomatch h)
 have OKT:yE true:=Er true (fun _ => OKF)
 have hdec:iS (fi s)=pb l5 (fun q => pb (kQ q.2 5 q.1 []) fun t => pb (gT true t.2 q.2) fun px => ret (q.1,q.2,ge q.2 t.1 px)) (fi s):=rfl
 have hH:=CG rd sb so cap s W I
 have hrdW:=I.blk.lt
 refine enter (m:=103) Tryz.func25 O Tryz.ntmps25 O (Cy (bI O (bI O (Lt ?_))))
 cases hhd:l5 (fi s)
 case none =>
  rw [dN hhd] at hdec
  refine Cy (db O (aS O Gu hH O ?_))
  intro e w2 hP
  rcases hP with ⟨d,wd,ht,R',hr,_⟩ | ⟨_,⟨a,rfl⟩,hf⟩
  ·rw [hhd] at hr;cases hr
  refine ⟨_,O,?_⟩
  refine gr O (av O O (av O O (av O O (av O O (Lp (nd O) (az O (az O (bI O (Lt (Cs (Cy (db O (Lp (bu aX O O) (Lt ?_))))))))))))))
  refine Cp O ?_
  refine Cy (db O (bI O (bI O (Lt (Ct (aE ?_))))))
  exact cr O O O (.inr ⟨hdec,⟨_,O⟩,hf⟩)
 case some q0 =>
 obtain ⟨⟨wd,ht⟩,R1⟩:=q0
 obtain ⟨hw,hw2,hh,hh2⟩:=Bb hhd
 simp only at hw hw2 hh hh2
 rw [dp hhd] at hdec
 simp only at hdec
 refine Cy (db O (aS O Gu hH O ?_))
 intro e w2 hP
 rcases hP with ⟨d,wd',ht',R',hr,rfl,hd1,hd2,hf⟩ | ⟨hr,_⟩
 rotate_left
 ·rw [hhd] at hr;cases hr
 rw [hhd] at hr
 simp only [Option.some.injEq,Prod.mk.injEq] at hr
 obtain ⟨⟨rfl,rfl⟩,rfl⟩:=hr
 refine ⟨_,O,?_⟩
 refine gr O (av O O (av O O (av O O (av O O (Lp (nd O) (az O (az O (bI O (Lt ?_)))))))))
 obtain ⟨σ,hσ⟩:∃ σ:pL,σ=⟨d,rd,sb,so,cap,s⟩:=⟨_,rfl⟩
 have hσd:σ.d=d:=by rw [hσ]
 have hσr:σ.rd=rd:=by rw [hσ]
 have roW:RO σ W:=by rw [hσ];exact I.ro hd1
 rw [← hσ] at hd2
 have H:St W [rd] [cD σ R1] w2:=by
  refine ⟨hf,?_,?_,?_,List.pairwise_singleton _ _⟩
  ·intro r hr;rw [List.mem_singleton] at hr;subst hr;exact hd2
  ·intro r hr;rw [List.mem_singleton] at hr;subst hr;exact cK _ _
  ·intro r hr b hb
   rw [List.mem_singleton] at hr
   subst hr
   simp only [cD,List.mem_cons,List.not_mem_nil,or_false] at hb
   rcases hb with rfl | rfl
   ·right;rw [hσd];exact hd1
   ·left;rw [hσr];simp
 refine Cs (Cy (db O (Lp (bj aX O O) (Lt (Cq O (Ck (tn (Cy (az O (Lt (Cy (cE H I8 O ?_))))))))))))
 intro w b9 hn9 hb9 H
 refine Lt (Cy (cE H IY O ?_))
 intro w b10 hn10 hb10 H
 refine Lt (Cy (ai O (az O (Lt ?_))))
 have hF0:cf [rd] W w:=H.frm
 replace H:=H.base [b10,b9,σ.d,σ.rd] (by
  intro r hr b hb
  simp only [List.mem_cons,List.not_mem_nil,or_false] at hr
  rcases hr with rfl | rfl | rfl
  ·simp only [aa,List.mem_singleton] at hb;subst hb;simp
  ·simp only [aa,List.mem_singleton] at hb;subst hb;simp
  ·simp only [cD,List.mem_cons,List.not_mem_nil,or_false] at hb
   rcases hb with rfl | rfl <;> simp)
 generalize w=W0 at *
 have ro0:RO σ W0:=roW.keep hF0 (by rw [hσ];exact ⟨fun b hb => by simp at hb;subst hb;exact I.ne.1,by simpa using I.ne.2⟩)
 have hb9W:b9<W0.heap.size:=(H.blk (i:=1) rfl).lt
 have hb10W:b10<W0.heap.size:=(H.blk (i:=0) rfl).lt
 have hdW0:σ.d<W0.heap.size∧σ.rd<W0.heap.size:=by
  have:=(cK σ R1).2 W0 (H.get (i:=2) rfl)
  exact ⟨this σ.d (by simp [cD]),this σ.rd (by simp [cD])⟩
 have hlow:∀ x ∈ [b10,b9,σ.d,σ.rd],x<W0.heap.size:=by
  intro x hx
  simp only [List.mem_cons,List.not_mem_nil,or_false] at hx
  rcases hx with rfl | rfl | rfl | rfl
  ·exact hb10W
  ·exact hb9W
  ·exact hdW0.1
  ·exact hdW0.2
 have hS:zG σ [b10,b9,σ.d,σ.rd]:=by
  refine ⟨fun b hb => ?_,?_⟩
  ·simp only [List.mem_cons,List.not_mem_nil,or_false] at hb
   have:=roW.gl.high
   rcases hb with rfl | rfl | rfl | rfl
   ·omega
   ·omega
   ·exact ro0.ne.2.1
   ·exact ro0.ne.2.2.1
  ·simp only [List.mem_cons,List.not_mem_nil,or_false,not_or]
   have:=roW.sbl
   exact ⟨ω,ω,ro0.ne.2.2.2.1,ro0.ne.2.2.2.2⟩
 have hFF:∀ w',cf [b10,b9,σ.d,σ.rd] W0 w'→cf [rd] W w':=fun w' h => hF0.then h (fun x hx => by
  simp only [List.mem_cons,List.not_mem_nil,or_false] at hx
  rcases hx with rfl | rfl | rfl | rfl
  ·exact .inr hb10
  ·exact .inr hb9
  ·right;rw [hσd];exact hd1
  ·left;rw [hσr];simp)
 replace H:St W0 [b10,b9,σ.d,σ.rd] [aa b10 (pS (cM [])) 111,aa b9 (gD 4 []) 110,cD σ R1] W0:=H
 refine Cs ?_
 refine aH (fun ρ w' => ∃ (q:List (Tr × Value)) (wn:Nat) (Ri:aM),iS (fi s)=pb (gT true wn ht) (fun px => ret (wd,ht,ge ht (q.map (·.1)) px)) Ri∧q.length≤4∧jJ wd (q.map (·.1)) wn∧(∀ p ∈ q,B4 ht p.1∧Hz W0.heap.size w' p.1 p.2)∧1≤wn∧wn≤16384 ∧
  ρ 4=pT d∧ρ 5=.int .i32 (wn:Nat)∧ρ 6=.int .i32 (ht:Nat)∧ρ 8=iT q.length∧ρ 9=pT b9∧ρ 11=.int .i32 (wd:Nat) ∧
  St W0 [b10,b9,σ.d,σ.rd] [aa b9 (gD 4 q) 110,cD σ Ri] w') ?_ ?_
 case refine_1 =>
  refine Cb ?_
  refine Cl (fun mm ρ w' => ∃ (q:List (Tr × Value)) (wn:Nat) (Ri:aM),mm=4 - q.length∧iS (fi s)=pb (kQ ht (5 - q.length) wn (q.map (·.1))) (fun t => pb (gT true t.2 ht) fun px => ret (wd,ht,ge ht t.1 px)) Ri∧q.length≤4∧yI (q.map (·.1))=q.length∧jJ wd (q.map (·.1)) wn∧(∀ p ∈ q,B4 ht p.1∧Hz W0.heap.size w' p.1 p.2)∧1≤wn∧wn≤16384 ∧
   ρ 4=pT d∧ρ 5=.int .i32 (wn:Nat)∧ρ 6=.int .i32 (ht:Nat)∧ρ 8=iT q.length∧ρ 9=pT b9∧ρ 10=pT b10∧ρ 11=.int .i32 (wd:Nat) ∧
   St W0 [b10,b9,σ.d,σ.rd] [aa b10 (pS (cM (q.map (·.1)))) 111,aa b9 (gD 4 q) 110,cD σ Ri] w') 4
   ⟨[],wd,R1,rfl,hdec,by simp,rfl,rfl,by simp,hw,hw2,rfl,rfl,rfl,rfl,rfl,rfl,rfl,H⟩ ?_
  clear H hdec
  rintro mm ρ w3 ⟨q,wn,Ri,rfl,hdec,hq4,hsn,hch,hall,hwn,hwn2,h4,h5,h6,h8,h9,h10,h11,H⟩
  rw [← hσd] at h4
  rw [show 5 - q.length=(4 - q.length)+1 by omega,kQ,eR] at hdec
  have hF3:=H.frm
  have ro3:RO σ w3:=ro0.keep hF3 hS
  have hW3:=hF3.size
  replace H:=H.base [b10,b9,σ.d,σ.rd] (by
   intro r hr b hb
   simp only [List.mem_cons,List.not_mem_nil,or_false] at hr
   rcases hr with rfl | rfl | rfl
   ·simp only [aa,List.mem_singleton] at hb;subst hb;simp
   ·simp only [aa,List.mem_singleton] at hb;subst hb;simp
   ·simp only [cD,List.mem_cons,List.not_mem_nil,or_false] at hb
    rcases hb with rfl | rfl <;> simp)
  have hTT:∀ x ∈ [b10,b9,σ.d,σ.rd],x ∈ [b10,b9,σ.d,σ.rd]∨W0.heap.size≤x:=fun x hx => .inl hx
  refine Cb ?_
  by_cases hR_:1≤Ri.length
  case neg =>
   rw [dN (iH ω)] at hdec
   refine Cy (bH η (dJ (k:=1) H 2 O ro3 hS ω ω O O O ?_))
   intro w a H
   refine gr O (av O O (av O O (az O (bI O (Lt (Cs (Cy (db O (Lp (bu aX O O) (Lt ?_))))))))))
   refine Cp O ?_
   refine Cy (db O (bI O (bI O (Lt (Ct (aE (bL (aE (bL (aE ?_))))))))))
   have hF:=H.frm
   exact cr O O O (.inr ⟨hdec,⟨_,O⟩,hFF _ (hF3.trans hF)⟩)
  case pos =>
  rw [dp (ir hR_)] at hdec
  have hu:val (Ri.take (1))<2 ^ (1):=bK Ri (1)
  refine Cy (bH η (dB (k:=1) H 2 O ro3 hS ω hR_ O O O ?_))
  intro w H
  simp only [List.set] at H
  refine gr O (av O O (av O O (az O (bI O (Lt ?_)))))
  generalize val (Ri.take (1))=u at *
  generalize Ri.drop (1)=Rj at *
  clear hR_
  refine Cs (Cy (db O (Lp (bj aX O O) (Lt (Cq O (Ck (tn (Cs (Cy (ai O (bF O O (Lt ?_))))))))))))
  by_cases hu:u=0
  case pos =>
   rw [if_pos hu,dp (show ret (q.map (·.1),wn) Rj=some ((q.map (·.1),wn),Rj) from rfl)] at hdec
   refine CT O ω (Cx (ax (FR O (ax (br (tn ?_))))))
   exact ⟨q,wn,Rj,hdec,hq4,hch,fun p hp => ⟨(hall p hp).1,(hall p hp).2.keep H.frm hlow⟩,hwn,hwn2,by rw [← hσd];exact h4,h5,h6,h8,h9,h11,zP hF3 (H.sub [1,2] O δ) hTT⟩
  case neg =>
  rw [if_neg hu,eR] at hdec
  refine CF O ω (Ck (tn (Cy (cE H Eg O ?_))))
  intro w b14 hn14 hb14 H
  refine Lt ?_
  have hTr:=fun w' (H':St w3 [b10,b9,σ.d,σ.rd] [aa b14 z4 109,aa b10 (pS (cM (q.map (·.1)))) 111,aa b9 (gD 4 q) 110,cD σ Rj] w') => FC OKF σ Rj w' wn ht (H'.get (i:=3) rfl) (ro3.frm H' hS) hwn hwn2 hh hh2
  replace H:St w3 [b10,b9,σ.d,σ.rd] [aa b14 z4 109,aa b10 (pS (cM (q.map (·.1)))) 111,aa b9 (gD 4 q) 110,cD σ Rj] w:=H
  cases htr:rU wn ht Rj
  case none =>
   rw [dN htr] at hdec
   refine Cy (bH η (ai η (ai η (aS O Hu (hTr _ H) O ?_))))
   intro e w2 hP
   rcases hP with ⟨t,nw,R',pv,hr,_⟩ | ⟨_,⟨a,rfl⟩,hf⟩
   ·rw [htr] at hr;cases hr
   replace H:=H.lost (i:=3) rfl hf
   simp only [List.eraseIdx] at H
   refine ⟨_,O,?_⟩
   refine gr O (av O O (av O O (av O O (dG H 0 kE O O O O O δ ?_))))
   intro w H
   try simp only [List.set,List.eraseIdx] at H
   refine az O (bI O (Lt (Cs (Cy (db O (Lp (bu aX O O) (Lt ?_)))))))
   refine Cp O ?_
   refine Cy (db O (bI O (bI O (Lt (Ct (aE (bL (aE (bL (aE ?_))))))))))
   exact cr O O O (.inr ⟨hdec,⟨_,O⟩,hFF _ (hF3.trans H.frm)⟩)
  case some qt =>
  obtain ⟨⟨t,nw⟩,Rk⟩:=qt
  obtain ⟨htw,hnw⟩:=I7 htr
  rw [dp htr] at hdec
  simp only at hdec
  have hb14w:=(H.blk (i:=0) rfl).lt
  refine Cy (bH η (ai η (ai η (aS O Hu (hTr _ H) O ?_))))
  intro e w4 hP
  rcases hP with ⟨t',nw',R',pv,hr,rfl,hV,hOk,hnw1,hnw2,hd4,hf⟩ | ⟨hr,_⟩
  rotate_left
  ·rw [htr] at hr;cases hr
  rw [htr] at hr
  simp only [Option.some.injEq,Prod.mk.injEq] at hr
  obtain ⟨⟨rfl,rfl⟩,rfl⟩:=hr
  have hww:=H.high
  replace H:=H.turn (i:=3) (r':=cD σ Rk) rfl hf hd4 (cK σ Rk) (fun b hb => .inl hb)
  simp only [List.set] at H
  have hF4:=H.frm
  replace H:=H.base [b14,b10,b9,σ.d,σ.rd] (by
   intro r hr b hb
   simp only [List.mem_cons,List.not_mem_nil,or_false] at hr
   rcases hr with rfl | rfl | rfl | rfl
   ·simp only [aa,List.mem_singleton] at hb;subst hb;simp
   ·simp only [aa,List.mem_singleton] at hb;subst hb;simp
   ·simp only [aa,List.mem_singleton] at hb;subst hb;simp
   ·simp only [cD,List.mem_cons,List.not_mem_nil,or_false] at hb
    rcases hb with rfl | rfl <;> simp)
  have hpv:pv.oneCell'=true:=by rcases hV with ⟨_,rfl⟩ | ⟨_,b,l,c,rfl,_⟩ <;> rfl
  refine ⟨_,O,?_⟩
  refine gr O (av O O (av O O (av O O ?_)))
  refine dG (vs:=t4 (t,pv)) H 0 kE O O O O O (by
   intro v hv
   simp only [t4,List.mem_cons,List.not_mem_nil,or_false] at hv
   rcases hv with rfl | rfl | rfl | rfl <;> first | rfl | exact hpv) ?_
  intro w H
  simp only [List.set] at H
  refine az O (bI O (Lt ?_))
  have hT4:∀ x ∈ [b14,b10,b9,σ.d,σ.rd],x ∈ [b10,b9,σ.d,σ.rd]∨w3.heap.size≤x:=fun x hx => by
   simp only [List.mem_cons,List.not_mem_nil,or_false] at hx
   rcases hx with rfl | h
   ·exact .inr hb14
   ·exact .inl (by simpa using h)
  have hk4:t.kind<4:=by have:=hOk.kind;omega
  refine Cs (Cy (db O (Lp (bj aX O O) (Lt (Cq O (Ck (tn ?_)))))))
  replace H:St w4 [b14,b10,b9,σ.d,σ.rd] [aa b14 (t4 (t,pv)) 109,aa b10 (pS (cM (q.map (·.1)))) 111,aa b9 (gD 4 q) 110,cD σ Rk] _:=H
  have hsget:=Fk (cM (q.map (·.1))) t.kind hk4
  cases hkin:cM (q.map (·.1)) t.kind
  case true =>
   rw [hkin] at hsget
   have hany:((q.map (·.1)).any fun x => decide (x.kind=t.kind))=true:=hkin
   rw [if_pos hany,dN (show no Rk=none from rfl)] at hdec
   refine Cs (Cy (aU mW O (aC bD O (H.cell 0 (v:=.int .u32 (t.kind:Nat)) O O) (Lp (fo t.kind Dw h10 O O hk4) (aC jz O (H.cell 1 O hsget) (Lt ?_))))))
   refine Cp O ?_
   refine Cy (mJ H O O ?_)
   intro w a H
   refine bI O (bI O (Lt (Ct (aE (bL (aE (bL (aE ?_))))))))
   exact cr O O O (.inr ⟨hdec,⟨_,O⟩,hFF _ (hF3.trans (hF4.then H.frm hT4))⟩)
  case false =>
  rw [hkin] at hsget
  have hany:((q.map (·.1)).any fun x => decide (x.kind=t.kind))=false:=hkin
  rw [if_neg (by rw [hany];simp)] at hdec
  have hsn2:=Dc (q.map (·.1)) t hk4 hkin
  have hsle:=FI (q.map (·.1)++[t])
  have hq3:q.length≤3:=ω
  refine Cs (Cy (aU mW O (aC bD O (H.cell 0 (v:=.int .u32 (t.kind:Nat)) O O) (Lp (fo t.kind Dw h10 O O hk4) (aC jz O (H.cell 1 O hsget) (Lt (Cq O (Ck (tn (Cy (aU mW O (aC bD O (H.cell 0 (v:=.int .u32 (t.kind:Nat)) O O) (Lp (fo t.kind Dw h10 O O hk4) (ud H 1 lU O O O hsget ?_))))))))))))))
  intro w H
  simp only [List.set] at H
  refine Lt ?_
  rw [show ((pS (cM (q.map (·.1)))).set (0+t.kind) (.bool true))=pS (cM (q.map (·.1)++[t])) from ET _ t hk4] at H
  refine Cy (ai η (Lp (fH (cs:=t4 (t,pv)) jW O O (fun j hj => by rw [Nat.zero_add];exact (H.blk (i:=0) O).cell j)) (Lp (nC q.length G7 h9 O O ω) ?_)))
  refine Eo H 2 kE O O O O (by rw [nt];omega) (by
   intro v hv
   simp only [t4,List.mem_cons,List.not_mem_nil,or_false] at hv
   rcases hv with rfl | rfl | rfl | rfl <;> first | rfl | exact hpv) ?_
  intro w H
  simp only [List.set] at H
  refine Lt ?_
  rw [CN q (t,pv) hq3] at H
  refine Cr (ai η (ao O O (ck (b:=1) ω) (az O (Ln (aF (tn ?_))))))
  have hql:(q++[(t,pv)]).length=q.length+1:=by simp
  have hqm:(q++[(t,pv)]).map (·.1)=q.map (·.1)++[t]:=by simp
  have hVf:Hz W0.heap.size w t pv:=(hV.keep H.frm (fun x hx => by
   simp only [List.mem_cons,List.not_mem_nil,or_false] at hx
   rcases hx with rfl | rfl | rfl | rfl | rfl
   ·exact hb14w
   ·have:=hb10W;omega
   ·have:=hb9W;omega
   ·have:=hdW0.1;omega
   ·have:=hdW0.2;omega)).low ω
  have H5:=zP hF4 H hT4
  have hF5:=H5.frm
  exact ⟨4 - (q++[(t,pv)]).length,ω,q++[(t,pv)],nw,Rk,O,by rw [hdec,hqm,hql,show 5 - (q.length+1)=4 - q.length by omega],ω,by rw [hqm,hql];omega,by rw [hqm,hnw];exact hch.snoc htw,fun p hp => by
   rw [List.mem_append,List.mem_singleton] at hp
   rcases hp with hp | rfl
   ·exact ⟨(hall p hp).1,(hall p hp).2.keep hF5 hlow⟩
   ·exact ⟨hOk,hVf⟩,hnw1,hnw2,by rw [← hσd];exact h4,O,h6,by rw [hql];rfl,h9,h10,h11,by rw [hqm];exact zP hF3 (H5.sub [1,2,3] O δ) hTT⟩
 case refine_2 =>
 clear H hdec
 rintro ρ w3 ⟨q,wn,Ri,hdec,hq4,hch,hall,hwn,hwn2,h4,h5,h6,h8,h9,h11,H⟩
 rw [← hσd] at h4
 have hF3:=H.frm
 have ro3:RO σ w3:=ro0.keep hF3 hS
 have hW3:=hF3.size
 replace H:=H.base [b10,b9,σ.d,σ.rd] (by
  intro r hr b hb
  simp only [List.mem_cons,List.not_mem_nil,or_false] at hr
  rcases hr with rfl | rfl
  ·simp only [aa,List.mem_singleton] at hb;subst hb;simp
  ·simp only [cD,List.mem_cons,List.not_mem_nil,or_false] at hb
   rcases hb with rfl | rfl <;> simp)
 have hPx:=OKT σ Ri w3 wn ht 0 (H.get (i:=1) rfl) ro3 hwn hwn2 hh hh2 ω
 cases hds:gT true wn ht Ri
 case none =>
  rw [dN hds] at hdec
  refine Cy (bH η (ai η (ai η (aS O ss hPx O ?_))))
  intro e w4 hP
  rcases hP with ⟨px',R3',bp,hr,_⟩ | ⟨_,⟨a,rfl⟩,hf⟩
  ·rw [hds] at hr;cases hr
  replace H:=H.lost (i:=1) rfl hf
  refine ⟨_,O,?_⟩
  refine gr O (av O O (av O O (gS O (bI O (Lt (Cs (Cy (db O (Lp (bu aX O O) (Lt ?_))))))))))
  refine Cp O ?_
  refine Cy (db O (bI O (bI O (Lt (Ct (aE ?_))))))
  exact cr O O O (.inr ⟨hdec,⟨_,O⟩,hFF _ (hF3.trans H.frm)⟩)
 case some qp =>
 obtain ⟨px,Rk⟩:=qp
 rw [dp hds] at hdec
 refine Cy (bH η (ai η (ai η (aS O ss hPx O ?_))))
 intro e w4 hP
 rcases hP with ⟨px',R3',bp,hr,rfl,hlen,hp32,hd4,hnew,hbp,hf⟩ | ⟨hr,_⟩
 rotate_left
 ·rw [hds] at hr;cases hr
 rw [hds] at hr
 obtain ⟨rfl,rfl⟩:=Prod.mk.inj (Option.some.inj hr)
 replace H:=H.grow (i:=1) rfl hf hd4 (cK σ Rk) rfl hbp hnew
 simp only [List.set] at H
 rw [Nat.zero_max,← hlen] at H
 rw [Nat.zero_max,← hlen]
 refine ⟨_,O,?_⟩
 refine gr O (av O O (av O O (gS O (bI O (Lt (Cs (Cy (db O (Lp (bj aX O O) (Lt (Cq O (Ck (tn ?_)))))))))))))
 have hpxB:px.length≤268435456:=by rw [hlen];exact Nat.mul_le_mul hwn2 hh2
 obtain ⟨total,htot⟩:∃ total,total=ge ht (q.map (·.1)) px:=⟨_,rfl⟩
 rw [← htot] at hdec
 refine Cs (Cy (ai η (bw O O (fg ω) (az O (Lt ?_)))))
 refine aH (fun ρ w' => ∃ bq cq,ρ 6=.int .i32 (ht:Nat)∧ρ 11=.int .i32 (wd:Nat)∧ρ 15=.slice (aT bq) (4 * total.length) cq∧total.length=wd * ht∧4 * total.length≤cq∧cq≤1073742848∧w3.heap.size≤bq ∧
  St w3 [b10,b9,σ.d,σ.rd] [aa bq (bM .u8 (ap total) cq) 5,aa b9 (gD 4 q) 110,cD σ Rk] w') ?_ ?_
 case refine_1 =>
  refine Cb ?_
  refine Cl (fun mm ρ w' => ∃ k wk bq cq cur,k=mm∧k≤q.length∧jJ wd ((q.take k).map (·.1)) wk∧cur.length=wk * ht∧ge ht ((q.take k).map (·.1)) cur=total∧ρ 6=.int .i32 (ht:Nat)∧ρ 9=pT b9∧ρ 11=.int .i32 (wd:Nat)∧ρ 15=.slice (aT bq) (4 * cur.length) cq∧ρ 16=.int .i64 ((k:Int) - 1) ∧
   4 * cur.length≤cq∧cq≤1073742848∧w3.heap.size≤bq∧St w3 [b10,b9,σ.d,σ.rd] [aa bq (bM .u8 (ap cur) cq) 5,aa b9 (gD 4 q) 110,cD σ Rk] w') q.length
   ⟨q.length,wn,bp,_,px,rfl,ω,by rw [List.take_length];exact hch,hlen,by rw [List.take_length];exact htot.symm,h6,h9,h11,rfl,rfl,Nat.le_refl _,ω,hnew,H⟩ ?_
  clear H h4 h5 h6 h8 h9 h11
  clear ρ
  rintro mm ρ w5 ⟨k,wk,bq,cq,cur,hmm,hk,hck,hcl,hun,h6,h9,h11,h15,h16,hcq,hcq2,hbq,H⟩
  subst hmm
  refine Cs (Cy (ai η (Lp (ou O O) (Lt ?_))))
  by_cases hk0:k=0
  case pos =>
   subst hk0
   have hwk:wd=wk:=hck
   have hcur:cur=total:=hun
   subst hwk hcur
   refine CF O ω (Cx (ax (ax (br (tn ?_)))))
   exact ⟨bq,cq,h6,h11,h15,hcl,hcq,hcq2,hbq,H⟩
  case neg =>
  obtain ⟨k,rfl⟩:∃ k',k=k'+1:=⟨k - 1,ω⟩
  have hkl:k<q.length:=ω
  have hqk:q[k]?=some q[k]:=List.getElem?_eq_getElem hkl
  obtain ⟨p,hp⟩:∃ p,p=q[k]:=⟨_,rfl⟩
  rw [← hp] at hqk
  have hpm:p ∈ q:=by rw [hp];exact List.getElem_mem hkl
  rw [List.take_succ_eq_append_getElem hkl,List.map_append,← hp] at hck hun
  obtain ⟨hck1,hwk⟩:=jJ.unsnoc hck
  rw [show ge ht ((q.take k).map (·.1)++[p].map (·.1)) cur=ge ht ((q.take k).map (·.1)) (l_ ht p.1 cur) from by unfold ge;rw [List.foldr_append];rfl] at hun
  obtain ⟨hOk,hV⟩:=hall p hpm
  have hV3:=hV
  have hVw:=hV.keep H.frm hlow
  have hTA:=Mf (H.blk (i:=1) rfl) hqk ω
  rw [hwk] at hcl
  have hnl:=Ab hcl hOk.kind
  obtain ⟨f,hf1,hf2,hf3⟩:=FW w5 b9 (0+k * 4) p.1 p.2 bq cq ht W0.heap.size cur hTA hOk hVw ω (fun b l c he => by
   rcases hV3 with ⟨_,h⟩ | ⟨_,b2,l2,c2,h,_,_,hb,_⟩
   ·rw [h] at he;cases he
   ·rw [h] at he
    simp only [Value.slice.injEq,Option.some.injEq,Addr.mk.injEq] at he
    have:=hb.lt
    omega) hh hh2 (H.blk (i:=0) rfl) hcl hcq hcq2
  have h35:=H.high
  have hkd:p.1.kind<4:=by have:=hOk.kind;omega
  have hinv:=(ro3.frm H hS).gl.inv p.1.kind f hf1
  have h16':ρ 16=(iT k):=by rw [h16,show ((k+1:Nat):Int) - 1=(k:Int) by omega]
  generalize l_ ht p.1 cur=z5 at *
  refine CT O ω (Ck (tn (Cs (Cb (Cy (ai h16' (Lp (nC k G7 h9 O O ω) (Lp (nd O) (Lt (Cr (bH O (aK O (aU mW O (aC bD O hTA.kind (Lp (jB p.1.kind J0 O O O hkd) (aC J7 O hinv (bH O ?_)))))))))))))))))
  refine bU η (ai η (tK (fs:=[]) (cs:=[]) (vs:=[.pointer (some ⟨b9,0+k * 4,none⟩),.slice (aT bq) (4 * cur.length) cq,.int .i32 (ht:Nat)]) O hf2 O hf3 O ?_))
  intro e w6 hI
  obtain ⟨b',cap',rfl,hc1,hc2',hor,hbk,hfr⟩:=hI
  replace H:=H.swap hfr hbk hor
  refine ⟨_,O,?_⟩
  refine gS O (Ln (aF (tn (Cr (ai h16' (bw O O (fg ω) (az O (Lt ?_))))))))
  exact ⟨k,ω,k,p.1.wd,b',cap',z5,O,ω,hck1,hnl,hun,h6,h9,h11,O,O,hc1,hc2',by
   rcases hor with h | h
   ·rw [h];exact hbq
   ·omega,H⟩
 case refine_2 =>
 clear H h4 h5 h6 h8 h9 h11 ρ
 rintro ρ w5 ⟨bq,cq,h6,h11,h15,htl,hcq,hcq2,hbq,H⟩
 refine Cy (bU η (ai η (cm kJ O (fg ω) (Lp (cX O O (pK (a:=4) ω)) (ai η (cm kJ O (fg ω) (ai η (cm kJ O (fg ω) (aS O JM (G9 _ wd ht) O ?_)))))))))
 rintro e w6 ⟨rfl,hfr⟩
 replace H:=H.quiet hfr
 refine ⟨_,O,?_⟩
 refine Lp (iF [.slice (aT bq) (4 * total.length) cq,iT (4 * wd),.int .i64 0,.int .i64 0,iT wd,iT ht] O κ) (fM H (cs:=[.slice (aT bq) (4 * total.length) cq,iT (4 * wd),.int .i64 0,.int .i64 0,iT wd,iT ht]) O O O ?_)
 intro w bi hbi1 hbi2 H
 refine Lp (Eu J5 O) (bI O (bI O (Lt (Ct ?_))))
 have hWW:W.heap.size≤w3.heap.size:=Nat.le_trans hF0.size hW3
 exact cr O O O (.inl ⟨wd,ht,total,Rk,bi,bq,cq,d,hdec,O,H.blk (i:=0) rfl,hcq,hcq2,H.blk (i:=1) rfl,htl,hw,hw2,hh,hh2,ω,ω,hd1,by rw [← hσ];exact H.get (i:=3) rfl,hFF _ (hF3.trans H.frm)⟩)
structure FE (sb so:Nat) (s:List Nat) (w:World):Prop where
 gl:Gl w
 bytes:∀ j (h:j<s.length),w.cell? ⟨sb,so+j,none⟩=some (.int .u8 (s[j]:Nat))
 small:∀ c ∈ s,c<256
 len:s.length≤4611686018427387904
 sbl:sb<w.heap.size
theorem rP (sb so cap:Nat) (s:List Nat) (W:World) (I:FE sb so s W) :
  Calls Tryz.prog 26 #[.slice (some ⟨sb,so,none⟩) s.length cap] W fun e w' => ∃ rd,e=.returned (pT rd)∧LD rd sb so cap s w'∧W.heap.size≤rd∧cf [] W w':=by
 have H:St W [] [] W:=St.nil W []
 have hh:=I.gl.high
 have hsb:=I.sbl
 refine enter (m:=6) Tryz.func26 O Tryz.ntmps26 O (Cy (bI O (Lt (Cy (bU O (Lp (iF [.slice (some ⟨sb,so,none⟩) s.length cap,.int .i64 0,.int .i64 (-1)] O κ) (fM H (cs:=[.slice (some ⟨sb,so,none⟩) s.length cap,.int .i64 0,.int .i64 (-1)]) O O O ?_)))))))
 intro w b hb1 hb2 H
 refine bI O (Lt (Ct ?_))
 exact ak O O ⟨b,O,⟨I.gl.keep H.frm (by simp [rC]),H.blk (i:=0) rfl,fun j hj => H.frm.cell (I.bytes j hj) (by simp),I.small,I.len,Nat.lt_of_lt_of_le hsb H.high,ω,ω⟩,hb2,H.frm⟩
def Lq (bx len cp wd ht:Nat):List Value:=[.slice (aT bx) len cp,iT (4 * wd),.int .i64 0,.int .i64 0,iT wd,iT ht]
def tJ (wd ht:Nat):List Value:=[.int .i64 0,.int .i64 0,iT wd,iT ht]
theorem Da (W:World) (bi bx len cp wd ht:Nat) (hb:ff W bi (Lq bx len cp wd ht) 77) :
  Calls Tryz.prog 27 #[pT bi] W fun e w' => e=.returned (.agg (tJ wd ht).toArray)∧cf [] W w':=by
 have H:St W [] [] W:=St.nil W []
 refine enter (m:=7) Tryz.func27 O Tryz.ntmps27 O (Cy (cE H Db O ?_))
 intro w b2 hn2 hb2 H
 refine Lt (Cy (bH O (aK O (aU Ap O (Lp (fH (cs:=tJ wd ht) uj O O (fun j hj => by rw [show ∀ q,0+2+q=q+2 by omega] ;exact (H.frm.blk hb (by simp)).cell (j+2))) (dG (vs:=tJ wd ht) H 0 CR O O O O O (by intro v hv;simp [tJ] at hv;rcases hv with rfl | rfl | rfl | rfl <;> rfl) ?_))))))
 intro w H
 simp only [List.set] at H
 refine Lt (Ct ?_)
 exact lB (cs:=tJ wd ht) O uj O O (fun j hj => by rw [Nat.zero_add];exact (H.blk (i:=0) O).cell j) ⟨O,H.frm⟩
theorem Gv (W:World) (wd ht:Nat) (hw:wd≤16384) :
  Calls Tryz.prog 29 #[.agg (tJ wd ht).toArray] W fun e w' => e=.returned (iT wd)∧cf [] W w':=by
 have H:St W [] [] W:=St.nil W []
 refine enter (m:=10) Tryz.func29 O Tryz.ntmps29 O (Cy (fM H (cs:=tJ wd ht) O O O ?_))
 intro w b hb1 hb2 H
 refine az O (Lt (Cy (aU zQ O (aU wh O (aC a_ O (H.cell 0 O O) (aU qT O (aU wh O (aC a_ O (H.cell 0 O O) (bw (r:=((wd:Nat):Int)) O O (by rw [fg ω];omega) (az O (Lt (Ct ?_))))))))))))
 exact ak O O ⟨O,H.frm⟩
theorem Ke (W:World) (wd ht:Nat) (hw:ht≤16384) :
  Calls Tryz.prog 30 #[.agg (tJ wd ht).toArray] W fun e w' => e=.returned (iT ht)∧cf [] W w':=by
 have H:St W [] [] W:=St.nil W []
 refine enter (m:=10) Tryz.func30 O Tryz.ntmps30 O (Cy (fM H (cs:=tJ wd ht) O O O ?_))
 intro w b hb1 hb2 H
 refine az O (Lt (Cy (aU zQ O (aU tD O (aC a_ O (H.cell 0 O O) (aU qT O (aU tD O (aC a_ O (H.cell 0 O O) (bw (r:=((ht:Nat):Int)) O O (by rw [fg ω];omega) (az O (Lt (Ct ?_))))))))))))
 exact ak O O ⟨O,H.frm⟩
theorem yp (W:World) (bi bx len cp wd ht:Nat) (j y:Nat) (hb:ff W bi (Lq bx len cp wd ht) 77) (hy:y≤16384) (hw:wd≤16384) :
  Calls Tryz.prog 28 #[pT bi,.int .i64 0,iT y] W fun e w' => e=.returned (iT (4 * (y * wd)))∧cf [] W w':=by
 have H:St W [] [] W:=St.nil W []
 have hS:bi ∉ ([]:List Nat):=List.not_mem_nil
 have c1:W.cell? ⟨bi,0+1,none⟩=some (iT (4 * wd)):=hb.cellv rfl
 have c2:W.cell? ⟨bi,0+2+0+0,none⟩=some (.int .i64 0):=hb.cellv rfl
 have c3:W.cell? ⟨bi,0+2+0+1,none⟩=some (.int .i64 0):=hb.cellv rfl
 have hm:y * wd≤16384 * 16384:=Nat.mul_le_mul hy hw
 refine enter (m:=30) Tryz.func28 O Tryz.ntmps28 O (Cy (az O (Lt (Cs (Cd aJ κ ?_)))))
 intro w hsame
 replace H:=H.same hsame
 refine bW O (mY O (du O (dD Ap O (dD qT O (dD tD O (aD a_ O (H.old η η) (cx (r:=((y:Nat):Int)) O O (by rw [fg ω];omega) (mY O (du O (dD IG O (aD a_ O (H.old η η) (Sp (cX (r:=((y * (4 * wd):Nat):Int)) O O (pK (by rw [Nat.mul_left_comm];omega))) (bW O (mY O (du O (dD Ap O (dD qT O (dD wh O (aD a_ O (H.old η η) ?_)))))))))))))))))))
 refine cx (r:=((0:Nat):Int)) O O (by rw [fg ω];rfl) (Sp (cX (r:=((0:Nat):Int)) O O (pK (a:=0) (b:=4) ω)) (aG (r:=((4 * (y * wd):Nat):Int)) O O (by rw [ck (by rw [Nat.mul_left_comm];omega),Nat.mul_left_comm];rfl) (oZ O (Sn (tn (Ct ?_))))))
 exact ak O O ⟨O,H.frm⟩
end Go.Proofs.YtmgemcffhbnpfaaGreatDoor
set_option maxHeartbeats 1000000
namespace Go.Proofs.YtmgemcffhbnpfaaGreatDoor
open Go
def Mk (P:Program) (t:TypeId):Prop:=∀ (v:Value) (u:TypeId) (w:World),(Instr.typeAssert (.iface t v) u t true).run P w=.ok (.tuple #[v,.bool true]) w
theorem MC:Mk Tryz.prog 69:=fun _ _ _ => κ
theorem Lm {P:Program} {e:Operand→Value} {d:Option Tmp} {ty:TypeId} {pos:String} {after:Array Edge} {g:Option (Nat × Bool)} {w:World} {x:Operand} {u t:TypeId} {v:Value} (F:Mk P t) (hx:e x=.iface t v):dE P e ⟨d,.typeAssert x u t true,ty,pos,after,g⟩ w (.tuple #[v,.bool true]) w:=by
 unfold dE
 simp only [execOp,hx,Sem.run_bind,F v u w,Result.andThen_ok]
 rfl
theorem pU (k:IntKind) (f:Nat→Nat) (a b:Nat):bM k f a++bM k (fun j => f (a+j)) b=bM k f (a+b):=by
 unfold bM
 rw [List.range_add,List.map_append,List.map_map]
 rfl
theorem FU (k:IntKind) (f:Nat→Nat) (n:Nat):∀ u ∈ bM k f n,u.oneCell'=true:=by
 intro u hu
 obtain ⟨j,_,rfl⟩:=List.mem_map.1 hu
 rfl
def Ld (s:List Nat) (W:World) (e:Ending) (w':World):Prop :=
 cf [] W w'∧((iS (fi s)=none∧e=.returned (.tuple #[.int .i64 0,.int .i64 0,.slice none 0 0,.bool false])) ∨
  ∃ wd ht out R' a c,iS (fi s)=some ((wd,ht,out),R')∧e=.returned (.tuple #[iT wd,iT ht,.slice a (4 * out.length) c,.bool true]) ∧
   bT w' a c 5 1 (4 * out.length) (bM .u8 (ap out) (4 * out.length))∧(∀ x ∈ bQ a,W.heap.size≤x)∧out.length=wd * ht∧1≤wd∧wd≤16384∧1≤ht∧ht≤16384)
theorem BK (sb so cap:Nat) (s:List Nat) (W:World) (I:FE sb so s W) :
  Calls Tryz.prog 12 #[.slice (some ⟨sb,so,none⟩) s.length cap] W (Ld s W):=by
 refine enter (m:=64) Tryz.func12 O Tryz.ntmps12 O (Cy (az O (az O (bI O (cU O (Lt ?_))))))
 cases hdec:iS (fi s)
 case none =>
  refine Cy (bU O (aS O HE (rP sb so cap s W I) O ?_))
  rintro e w1 ⟨rd,rfl,I1,hrd,hf1⟩
  refine ⟨_,O,?_⟩
  refine Lp (Eu GD O) (aS O FZ (xc rd sb so cap s w1 I1) O ?_)
  intro e w2 hP
  rw [hdec] at hP
  rcases hP with ⟨wd,ht,out,R',bi,bx,cp,d,hr,_⟩ | ⟨_,⟨a,rfl⟩,hf⟩
  ·cases hr
  refine ⟨_,O,?_⟩
  refine gr O (av O O (av O O (bI O (bI O (Lt (Cs (Cy (db O (Lp (bu aX O O) (Lt ?_))))))))))
  refine Cp O ?_
  refine Cy (az O (az O (bI O (cU O (Lt (Ct (aE ?_)))))))
  exact fJ O O O O O ⟨hf1.then hf (by simp;exact hrd),.inl ⟨hdec,O⟩⟩
 case some q0 =>
 obtain ⟨⟨wd,ht,out⟩,R1⟩:=q0
 refine Cy (bU O (aS O HE (rP sb so cap s W I) O ?_))
 rintro e w1 ⟨rd,rfl,I1,hrd,hf1⟩
 refine ⟨_,O,?_⟩
 refine Lp (Eu GD O) (aS O FZ (xc rd sb so cap s w1 I1) O ?_)
 intro e w2 hP
 rw [hdec] at hP
 rcases hP with ⟨wd',ht',out',R',bi,bx,cp,d,hr,rfl,hb,hcp,hcp2,hbx,hol,hw,hw2,hh,hh2,h8,h9,h10,hD,hf⟩ | ⟨hr,_⟩
 rotate_left
 ·cases hr
 simp only [Option.some.injEq,Prod.mk.injEq] at hr
 obtain ⟨⟨rfl,rfl,rfl⟩,rfl⟩:=hr
 refine ⟨_,O,?_⟩
 refine gr O (av O O (av O O (bI O (bI O (Lt ?_)))))
 have hF2:cf [] W w2:=hf1.then hf (by simp;exact hrd)
 have H:St w2 [] [] w2:=St.nil w2 []
 refine Cs (Cy (db O (Lp (bj aX O O) (Lt (Cq O (Ck (tn (Cy (db O (Lp (Lm MC O) (gr O (av O O (av O O (Lp (nd O) (cU O (Lt ?_))))))))))))))))
 refine Cs (Cy (dh O (Lp (fT O) (Lt (Cq O (Ck (tn (Cy (bH O (aS O KZ (Da w2 bi bx _ cp wd ht hb) O ?_))))))))))
 rintro e w3 ⟨rfl,hf3⟩
 replace H:=H.quiet hf3
 refine ⟨_,O,?_⟩
 refine cE H Db O ?_
 intro w b9 hn9 hb9 H
 refine dG (vs:=tJ wd ht) H 0 CR O O O O O (by intro v hv;simp [tJ] at hv;rcases hv with rfl | rfl | rfl | rfl <;> rfl) ?_
 intro w H
 simp only [List.set] at H
 refine Lt ?_
 have hb':=H.frm.blk hb (by simp)
 have hbx':=H.frm.blk hbx (by simp)
 have hF:=hF2.trans H.frm
 have hB9:=H.blk (i:=0) rfl
 clear H
 generalize hWW:w=W0 at *
 have cP:W0.cell? ⟨bi,0+0,none⟩=some (.slice (aT bx) (4 * out.length) cp):=hb'.cellv rfl
 have d0:W0.cell? ⟨b9,0+0+0,none⟩=some (.int .i64 0):=hB9.cellv rfl
 have d1:W0.cell? ⟨b9,0+0+1,none⟩=some (.int .i64 0):=hB9.cellv rfl
 have d3:W0.cell? ⟨b9,0+2+1,none⟩=some (iT ht):=hB9.cellv rfl
 have hS:b9 ∉ ([]:List Nat):=List.not_mem_nil
 have H:St W0 [] [aA none 0 5 1 0 []] W0:=St.one (.inl ⟨rfl,rfl,rfl,rfl⟩) (cI _ _ _ _ _ _) (by simp [aA,bQ])
 have hm:wd * ht≤16384 * 16384:=Nat.mul_le_mul hw2 hh2
 refine Cs (Cy (aU qT O (aU tD O (aC a_ O (H.old η η) (az O (Lt ?_))))))
 refine aH (fun ρ w' => ∃ a c,ρ 4=.slice a (4 * (ht * wd)) c∧ρ 9=pT b9∧St W0 [] [aA a c 5 1 (4 * (ht * wd)) (bM .u8 (ap out) (4 * (ht * wd)))] w') ?_ ?_
 case refine_1 =>
  refine Cb ?_
  refine Cl (fun mm ρ w' => ∃ y a c,y≤ht∧mm=ht - y∧ρ 4=.slice a (4 * (y * wd)) c∧ρ 8=pT bi∧ρ 9=pT b9∧ρ 10=iT y∧St W0 [] [aA a c 5 1 (4 * (y * wd)) (bM .u8 (ap out) (4 * (y * wd)))] w') ht
   ⟨0,none,0,ω,rfl,by simp;rfl,rfl,rfl,rfl,by simpa [bM] using H⟩ ?_
  clear H
  rintro mm ρ w5 ⟨y,a,c,hyh,hmm,h4,h8',h9',h10',H⟩
  refine Cs (Cy (ai η (aU zQ η (aU tD O (aC a_ O (H.old η η) (bP O O (Lt ?_)))))))
  by_cases hy:y=ht
  case pos =>
   subst hy
   refine CF O ω (Cx (ax (ax (br (tn ?_)))))
   exact ⟨a,c,h4,h9',H⟩
  have hyw:y * wd+wd≤ht * wd:=by rw [← Nat.succ_mul];exact Nat.mul_le_mul_right _ ω
  rw [Nat.mul_comm wd ht] at hm hol
  refine CT O ω (Ck (tn (Cs (Cb (Cy (bH h8' (aU qT η (aU wh O (aC a_ O (H.old η η) (ai η (aS O J3 (yp w5 bi bx _ cp wd ht 0 y (H.frm.blk hb' (by simp)) ω hw2) O ?_)))))))))))
  rintro e w6 ⟨rfl,hf6⟩
  replace H:=H.quiet hf6
  refine ⟨_,O,?_⟩
  refine az O (Lt ?_)
  refine VC.held ((cf [] W0)) aJ (by with_reducible repeat (first | refine fB ?_ | refine eP.blk ?_ | refine fy ?_ | refine dP ?_ | exact eP.done)) ?_
  intro w hsame
  replace H:=H.same hsame
  refine Ht 0 O κ κ κ O H.frm (fun w hI => YS η) (Ht 1 O κ κ κ O H.frm (fun w hI => YP η) (Ht 2 O κ κ κ O H.frm (fun w hI => iL O) (Ht 3 O κ κ κ O H.frm (fun w hI => iQ IF O) (Ht 4 O κ κ κ O H.frm (fun w hI => ef jg O (hI.cell cP (by simp))) (Ht 5 O κ κ κ O H.frm (fun w hI => YI O) (Ht 6 O κ κ κ O H.frm (fun w hI => YI O) (Ht 7 O κ κ κ O H.frm (fun w hI => fH (cs:=tJ wd ht) uj h9' O (fun j hj => by rw [Nat.zero_add];exact (hI.blk hB9 (by simp)).cell j)) (gA 8 O κ O Hl (Gv _ wd ht hw2) O ?_))))))))
  rintro e w7 ⟨rfl,hf7⟩
  replace H:=H.quiet hf7
  refine ⟨_,O,H.frm,?_⟩
  refine Ht 9 O κ κ κ O H.frm (fun w hI => cX O O (pK (a:=4) ω)) (Ht 10 O κ κ κ O H.frm (fun w hI => oC O O (ck ω)) (Ht 11 O κ κ κ O H.frm (fun w hI => yN (4 * (y * wd)) (4 * (y * wd)+4 * wd) am O O O O O ω ω ω) ?_))
  refine E5 12 O κ H 0 xp δ O O O O (news:=bM .u8 (fun j => ap out (4 * (y * wd)+j)) (4 * wd)) (by rw [ji];show _=_ * 1;omega) ?_ (FU _ _ _) (by simp only [maxLen];omega) ω ?_
  ·intro j u hj
   rcases Nat.lt_or_ge j (4 * wd) with hlt | hge
   ·rw [af hlt] at hj
    cases hj
    rw [Nat.zero_add,Nat.mul_one]
    exact (H.frm.blk hbx' (by simp)).cellv (af ω)
   ·rw [List.getElem?_eq_none (by rw [ji];exact hge)] at hj
    cases hj
  intro a' c' w' hfa H
  have e:4 * (y * wd)+(4 * (y * wd)+4 * wd - 4 * (y * wd))=4 * ((y+1) * wd):=by have:=Nat.add_mul y 1 wd;omega
  have e2:4 * (y * wd)+4 * wd=4 * ((y+1) * wd):=by have:=Nat.add_mul y 1 wd;omega
  simp only [List.set,pU] at H
  rw [e,e2] at H
  rw [e]
  refine Ht 13 O κ κ κ O H.frm (fun w hI => AS O) (g7 κ (aF (tn (Cr (ai h10' (ao O O (ck (b:=1) ω) (az O (Lt ?_))))))))
  exact ⟨ht - (y+1),ω,y+1,a',c',ω,O,O,h8',h9',O,H⟩
 case refine_2 =>
 clear H
 rintro ρ w5 ⟨a,c,h4,h9',H⟩
 have hFa:∀ x ∈ bQ a,W.heap.size≤x:=fun x hx => by
  rcases H.own _ (List.mem_singleton.2 rfl) x hx with h | h
  ·simp at h
  ·exact Nat.le_trans hF.size h
 have e3:ht * wd=out.length:=by rw [hol,Nat.mul_comm]
 rw [e3] at h4 H
 refine Cs ?_
 refine VC.held ((cf [] W0)) aJ (by with_reducible repeat (first | refine fB ?_ | refine eP.blk ?_ | refine fy ?_ | refine dP ?_ | exact eP.done)) ?_
 intro w hsame
 replace H:=H.same hsame
 refine Ht 0 O κ κ κ O H.frm (fun w hI => fH (cs:=tJ wd ht) uj h9' O (fun j hj => by rw [Nat.zero_add];exact (hI.blk hB9 (by simp)).cell j)) (Ht 2 O κ κ κ O H.frm (fun w hI => fH (cs:=tJ wd ht) uj h9' O (fun j hj => by rw [Nat.zero_add];exact (hI.blk hB9 (by simp)).cell j)) (Ht 4 O κ κ κ O H.frm (fun w hI => YS η) (gA 1 O κ O Hl (Gv _ wd ht hw2) O ?_)))
 rintro e w7 ⟨rfl,hf7⟩
 replace H:=H.quiet hf7
 refine ⟨_,O,H.frm,?_⟩
 refine gA 3 O κ O KL (Ke _ wd ht hh2) O ?_
 rintro e w8 ⟨rfl,hf8⟩
 replace H:=H.quiet hf8
 refine ⟨_,O,H.frm,?_⟩
 refine Ht 5 O κ κ κ O H.frm (fun w hI => AI O) (Ht 6 O κ κ κ O H.frm (fun w hI => AI O) (Ht 7 O κ κ κ O H.frm (fun w hI => AS O) (Ht 8 O κ κ κ O H.frm (fun w hI => Ai O) (g7 κ (tn (Ct ?_))))))
 exact fJ O O O O O ⟨hF.trans H.frm,.inr ⟨wd,ht,out,R1,a,c,hdec,O,H.get (i:=0) rfl,hFa,hol,hw,hw2,hh,hh2⟩⟩
structure FG (sb so:Nat) (s:List Nat) (w:World):Prop where
 row:l7 w .u32 sb so s
 small:∀ c ∈ s,c<4294967296
 sbl:sb<w.heap.size
theorem FG.keep {sb so:Nat} {s:List Nat} {w w':World} {S:List Nat} (h:FG sb so s w) (hf:cf S w w') (hS:sb ∉ S):FG sb so s w':=⟨h.row.keep hf hS,h.small,Nat.lt_of_lt_of_le h.sbl hf.size⟩
def AV (p:Nat):List Nat:=[p / 2 ^ 16 % 256,p / 2 ^ 8 % 256,p % 256,p / 2 ^ 24 % 256]
def nums (k:IntKind) (l:List Nat):List Value:=l.map fun v => .int k (v:Nat)
theorem dT (k:IntKind) (l m:List Nat):nums k (l++m)=nums k l++nums k m:=List.map_append
theorem fD (k:IntKind) (l:List Nat):∀ u ∈ nums k l,u.oneCell'=true:=by
 intro u hu
 obtain ⟨j,_,rfl⟩:=List.mem_map.1 hu
 rfl
def ja (px:List Nat):List Nat:=px.flatMap AV
theorem Fi (W:World) (pb po pc:Nat) (px:List Nat) (I:FG pb po px W) (hl:px.length≤1073741824) :
  Calls Tryz.prog 24 #[.slice (some ⟨pb,po,none⟩) px.length pc] W fun e w' => cf [] W w'∧∃ a c,e=.returned (.slice a (4 * px.length) c)∧bT w' a c 5 1 (4 * px.length) (nums .u8 (ja px))∧(∀ x ∈ bQ a,W.heap.size≤x):=by
 have H:St W [] [aA none 0 5 1 0 []] W:=St.one (.inl ⟨rfl,rfl,rfl,rfl⟩) (cI _ _ _ _ _ _) (by simp [aA,bQ])
 refine enter (m:=28) Tryz.func24 O Tryz.ntmps24 O (Cy (bI O (Lt (Cy (bI O (Lt (Cs (Cy (bU O (bG aZ O (ai O (Lt ?_))))))))))))
 refine aH (fun ρ w' => ∃ a c,ρ 3=.slice a (4 * px.length) c∧St W [] [aA a c 5 1 (4 * px.length) (nums .u8 (ja px))] w') ?_ ?_
 case refine_1 =>
  refine Cb ?_
  refine Cl (fun mm ρ w' => ∃ i a c,i≤px.length∧mm=px.length - i∧ρ 3=.slice a (4 * i) c∧ρ 6=.slice (some ⟨pb,po,none⟩) px.length pc∧ρ 7=iT px.length∧ρ 8=iT i∧St W [] [aA a c 5 1 (4 * i) (nums .u8 (ja (px.take i)))] w') px.length
   ⟨0,none,0,ω,rfl,rfl,rfl,rfl,rfl,by simpa [ja,nums] using H⟩ ?_
  clear H
  rintro mm ρ w5 ⟨i,a,c,hi,hmm,h3,h6,h7,h8,H⟩
  refine Cy (bP η η (Lt ?_))
  by_cases hy:i=px.length
  case pos =>
   subst hy
   refine Cs (CF O ω (Cx (ax (ax (br (tn ?_))))))
   rw [List.take_length] at H
   exact ⟨a,c,h3,H⟩
  have hlt:i<px.length:=ω
  obtain ⟨p,hp⟩:∃ p,p=px[i]:=⟨_,rfl⟩
  have hps:p<4294967296:=I.small _ (hp ▸ List.getElem_mem hlt)
  have hrow:W.cell? ⟨pb,po+i,none⟩=some (.int .u32 (p:Nat)):=hp ▸ I.row i hlt
  have hS:pb ∉ ([]:List Nat):=List.not_mem_nil
  refine Cs (CT O ω (Ck (tn (Cs (Cb (Cy (Lp (ci i aZ h6 h8 O hlt) (aC bD O (H.old η η) (az O (Lt (Cr (bU h3 (ai O (Lp (d6 O O ω (jd (k:=.u32) (b:=16) (by show _≤(32:Nat);omega))) (cm gP O Jx (ai O (Lp (d6 O O ω (jd (k:=.u32) (b:=8) (by show _≤(32:Nat);omega))) ?_)))))))))))))))))
  refine cm gP O Jx (ai O (cm gP O Jx (ai O (Lp (d6 O O ω (jd (k:=.u32) (b:=24) (by show _≤(32:Nat);omega))) (cm gP O Jx (cH H xp (nums .u8 (AV p)) O O δ δ κ ?_))))))
  intro w b12 hn12 hb12 H
  refine dH H 1 xp δ O O O O (news:=nums .u8 (AV p)) O (fun j u hj => by rw [Nat.zero_add];exact H.cell 0 O hj) (fD _ _) (by simp only [maxLen];omega) ω ?_
  intro a' c' w hfa H
  have hbt:ja (px.take (i+1))=ja (px.take i)++AV p:=by rw [List.take_succ_eq_append_getElem hlt,← hp];simp [ja]
  replace H:St W [] [aA a' c' 5 1 (4 * (i+1)) (nums .u8 (ja (px.take (i+1))))] w:=by rw [hbt,dT];exact H.sub [1] rfl (by simp)
  refine gS O (Ln (aF (tn (Cr (ao (r:=((i+1:Nat):Int)) h8 O (ck (b:=1) ω) (ai O (Lt ?_)))))))
  exact ⟨px.length - (i+1),ω,i+1,a',c',ω,O,O,h6,h7,O,H⟩
 case refine_2 =>
 clear H
 rintro ρ w5 ⟨a,c,h3,H⟩
 refine Cy (bU η (gS O (Lt (Ct ?_))))
 exact ak O O ⟨H.frm,a,c,O,H.get (i:=0) rfl,fun x hx => by
  rcases H.own _ (List.mem_singleton.2 rfl) x hx with h | h
  ·simp at h
  ·exact h⟩
theorem Iz (k:IntKind) (f g:Nat→Nat) (n:Nat) (h:∀ j,j<n→f j=g j):bM k f n=bM k g n :=
 List.map_congr_left fun j hj => by rw [h j (List.mem_range.1 hj)]
theorem sx:∀ px:List Nat,bM .u8 (ap px) (4 * px.length)=nums .u8 (ja px)
 | [] => rfl
 | p :: l => by
  have e:4 * (p :: l).length=4+4 * l.length:=by rw [List.length_cons];omega
  rw [e,← pU,show ja (p :: l)=AV p++ja l from rfl,dT,← sx l]
  congr 1
  exact Iz _ _ _ _ fun j _ => by
   unfold ap
   rw [show (4+j) / 4=j / 4+1 by omega,show (4+j) % 4=j % 4 by omega]
   rfl
def Mm (P:Program) (src dst:TypeId):Prop:=∃ e,P.underlying src=some (.slice e)∧P.underlying e=some (.int .u8)∧P.underlying dst=some .string
theorem Ms:Mm Tryz.prog 24 9:=⟨5,κ,κ,κ⟩
theorem G8 {P:Program} {e:Operand→Value} {d:Option Tmp} {ty:TypeId} {pos:String} {after:Array Edge} {g:Option (Nat × Bool)} {w:World} {x:Operand} {src dst:TypeId} {b off len cap:Nat} (F:Mm P src dst) (xs:List Nat) (hx:e x=.slice (some ⟨b,off,none⟩) len cap) (hl:xs.length=len)
  (hc:∀ j u,(nums .u8 xs)[j]?=some u→w.cell? ⟨b,off+j,none⟩=some u):dE P e ⟨d,.convert src dst x,ty,pos,after,g⟩ w (.string (strOfNums (xs.map Int.ofNat))) w:=by
 obtain ⟨el,h1,h2,h3⟩:=F
 have:=run_convert_bytes_arg (P:=P) w src el h1 h2 b off len cap (xs.map Int.ofNat) (by simpa using hl) (fun i hi => hc i _ (by subst hl;simp [nums,hi])) dst h3
 unfold dE
 simp only [execOp,hx,Sem.run_bind,this,Result.andThen_ok]
 rfl
theorem Hc {P:Program} {e:Operand→Value} {d:Option Tmp} {ty:TypeId} {pos:String} {after:Array Edge} {g:Option (Nat × Bool)} {w:World} {x y:Operand} {t t':TypeId} {s:ByteArray} (hx:e x=.string s) (hy:e y=.string s):dE P e ⟨d,.binOp .eql t x y t',ty,pos,after,g⟩ w (.bool true) w:=by
 unfold dE
 simp only [execOp,hx,hy,Sem.run_bind,show (eqGuard .eql t x y (.string s) (.string s)).run P w=.ok () w from rfl,Result.andThen_ok,binOp_string_eql,Sem.run_pure,beq_self_eq_true]
theorem kV {P:Program} {n:Nat} {Q:cY} {ρ:dK} {w:World} {l:List Oper} {rest:List Oper} {f:FuncId} {xs:Array Operand} {ts:Array TypeId} {ty:TypeId} {pos:String} {after:Array Edge} {d:Nat} {vs:List Value} {R:Ending→World→Prop} {j dj:Nat} {b:Bool}
  (hj:(l[j]?).bind (·.dst)=some dj) (hdj:Nat.blt dj n=true) (hb:ρ dj=.bool b)
  (hd:Nat.blt d n=true) (he:fZ P f) (hc:Calls P f vs.toArray w R) (hx:xs.toList.map (ev ρ)=vs)
  (h:∀ e w',R e w'→∃ v,e=.returned v∧VL P n l.toArray Q rest (eW ρ d v) w') :
  VL P n l.toArray Q (⟨some d,.call ⟨.value (.func f),xs,ts⟩,ty,pos,after,some (j,b)⟩ :: rest) ρ w:=fun a ha => by
 unfold wpList
 rw [if_pos (by simp [Region.wanted,ha.yielded l.toArray (j:=j) (by simpa using hj) hdj hb])]
 refine .inl ?_
 have hr:(execOp (ev ρ) ⟨some d,.call ⟨.value (.func f),xs,ts⟩,ty,pos,after,some (j,b)⟩).run P w=.ok (.enter f vs.toArray) w:=by
  have hx:xs.map (ev ρ)=vs.toArray:=by apply Array.ext';rw [Array.toList_map,hx]
  have:=he vs.toArray w
  simp only [execOp,resolve,Deferred.ofValue,ev,Sem.run_bind,Sem.run_pure,Result.andThen_ok,hx,Go.invoke,Array.append_empty]
  simpa using this
 unfold Oper.wp
 rw [ha.eval,hr]
 refine hc.mono fun e w' hR => ?_
 obtain ⟨v,rfl,hv⟩:=h e w' hR
 exact hv _ (ha.put hd v)
section
variable {P:Program} {n:Nat} {Q:cY} {I:World→Prop} {fuel:Nat} {listed:Array Bool} {ρ:dK} {w:World} {l:List Oper}
theorem iD (i:Nat) {op:Op} {ty:TypeId} {pos:String} {after:Array Edge} {d:Nat} {v:Value} {j dj:Nat} {b:Bool} (hi:l[i]?=some ⟨some d,op,ty,pos,after,some (j,b)⟩)
  (hj:(l[j]?).bind (·.dst)=some dj) (hdj:Nat.blt dj n=true) (hb:ρ dj=.bool b)
  (hs:Region.noSelect l.toArray=true) (hf:Region.free .any l.toArray listed i=true) (hr:(Region.ready .any l.toArray listed).contains i=true)
  (hd:Nat.blt d n=true) (hI:I w) (hy:∀ w,I w→dE P (ev ρ) ⟨some d,op,ty,pos,after,some (j,b)⟩ w v w)
  (h:VH P n l.toArray Q I fuel (listed.setIfInBounds i true) (eW ρ d v) w):VH P n l.toArray Q I (fuel+1) listed ρ w:=fun hQ a ha =>
 wpAnyH_take (oi:=⟨some d,op,ty,pos,after,some (j,b)⟩) (v:=v) (by simpa using hi) hs hf hr (fun c a w ⟨ρ,_,hq⟩ => absurd hq (hQ c ρ w))
  (.inl ⟨by simp [Region.wanted,ha.yielded l.toArray (j:=j) (by simpa using hj) hdj hb],fun w hw => by rw [ha.eval];exact hy w hw⟩) hI (h hQ _ (ha.put hd v))
theorem Ky (i:Nat) {op:Op} {ty:TypeId} {pos:String} {after:Array Edge} {d:Nat} {v:Value} {w':World} {j dj:Nat} {b:Bool} (hi:l[i]?=some ⟨some d,op,ty,pos,after,some (j,b)⟩)
  (hj:(l[j]?).bind (·.dst)=some dj) (hdj:Nat.blt dj n=true) (hb:ρ dj=.bool b)
  (hr:Region.ready .any l.toArray listed=[i]) (hd:Nat.blt d n=true) (hy:dE P (ev ρ) ⟨some d,op,ty,pos,after,some (j,b)⟩ w v w') (hI:I w')
  (h:VH P n l.toArray Q I fuel (listed.setIfInBounds i true) (eW ρ d v) w'):VH P n l.toArray Q I (fuel+1) listed ρ w:=fun hQ a ha => by
 refine wpAnyH_all hr (by simp) fun j2 hj2 => ?_
 obtain rfl:j2=i:=by simpa using hj2
 unfold wpOp
 simp only [show l.toArray[j2]?=some ⟨some d,op,ty,pos,after,some (j,b)⟩ by simpa using hi]
 rw [if_pos (by simp [Region.wanted,ha.yielded l.toArray (j:=j) (by simpa using hj) hdj hb])]
 refine .inl ?_
 unfold Oper.wp
 rw [ha.eval,hy]
 exact ⟨hI,h hQ _ (ha.put hd v)⟩
theorem HS (i:Nat) {f:FuncId} {xs:Array Operand} {ts:Array TypeId} {ty:TypeId} {pos:String} {after:Array Edge} {d:Nat} {vs:List Value} {R:Ending→World→Prop} {j dj:Nat} {b:Bool}
  (hi:l[i]?=some ⟨some d,.call ⟨.value (.func f),xs,ts⟩,ty,pos,after,some (j,b)⟩)
  (hj:(l[j]?).bind (·.dst)=some dj) (hdj:Nat.blt dj n=true) (hb:ρ dj=.bool b) (hr:Region.ready .any l.toArray listed=[i])
  (hd:Nat.blt d n=true) (he:fZ P f) (hc:Calls P f vs.toArray w R) (hx:xs.toList.map (ev ρ)=vs)
  (h:∀ e w',R e w'→∃ v,e=.returned v∧I w'∧VH P n l.toArray Q I fuel (listed.setIfInBounds i true) (eW ρ d v) w'):VH P n l.toArray Q I (fuel+1) listed ρ w:=fun hQ a ha => by
 refine wpAnyH_all hr (by simp) fun j2 hj2 => ?_
 obtain rfl:j2=i:=by simpa using hj2
 unfold wpOp
 simp only [show l.toArray[j2]?=some ⟨some d,.call ⟨.value (.func f),xs,ts⟩,ty,pos,after,some (j,b)⟩ by simpa using hi]
 rw [if_pos (by simp [Region.wanted,ha.yielded l.toArray (j:=j) (by simpa using hj) hdj hb])]
 refine .inl ?_
 have hr:(execOp (ev ρ) ⟨some d,.call ⟨.value (.func f),xs,ts⟩,ty,pos,after,some (j,b)⟩).run P w=.ok (.enter f vs.toArray) w:=by
  have hx:xs.map (ev ρ)=vs.toArray:=by apply Array.ext';rw [Array.toList_map,hx]
  have:=he vs.toArray w
  simp only [execOp,resolve,Deferred.ofValue,ev,Sem.run_bind,Sem.run_pure,Result.andThen_ok,hx,Go.invoke,Array.append_empty]
  simpa using this
 unfold Oper.wp
 rw [ha.eval,hr]
 refine hc.mono fun e w' hR => ?_
 obtain ⟨v,rfl,hI,hv⟩:=h e w' hR
 exact ⟨hI,hv hQ _ (ha.put hd v)⟩
end
theorem FM (sb so cap:Nat) (s:List Nat) (W:World) (I:FE sb so s W) (pb po pc wd ht:Nat) (px:List Nat) (R':aM) (Ip:FG pb po px W) (hdec:iS (fi s)=some ((wd,ht,px),R')) :
  Calls Tryz.prog 11 #[.slice (some ⟨sb,so,none⟩) s.length cap,iT wd,iT ht,.slice (some ⟨pb,po,none⟩) px.length pc] W fun e w' => e=.returned (.bool true)∧cf [] W w':=by
 refine enter (m:=44) Tryz.func11 O Tryz.ntmps11 O (Cy (cU O (Lt (Cy (bU O (aS O Hy (BK sb so cap s W I) O ?_))))))
 rintro e w1 ⟨hf1,⟨hr,_⟩ | ⟨wd',ht',out,R2,a,c,hr,rfl,hv,hfa,hol,hw,hw2,hh,hh2⟩⟩
 ·rw [hdec] at hr;cases hr
 rw [hdec] at hr
 simp only [Option.some.injEq,Prod.mk.injEq] at hr
 obtain ⟨⟨rfl,rfl,rfl⟩,rfl⟩:=hr
 refine ⟨_,O,?_⟩
 refine gr O (av O O (av O O (av O O (av O O (az O (az O (gS O (cU O (Lt ?_)))))))))
 have hlen:1≤px.length∧px.length≤268435456:=by rw [hol];exact ⟨Nat.mul_pos hw hh,Nat.mul_le_mul hw2 hh2⟩
 have H:St w1 [] [] w1:=St.nil w1 []
 obtain ⟨g,hg,hcell⟩:=hv.cell ω
 subst hg
 rw [sx] at hcell
 have hbl:(ja px).length=4 * px.length:=by
  have:=congrArg List.length (sx px)
  rw [ji] at this
  simpa [nums] using this.symm
 refine Cs ?_
 refine VC.held ((cf [] w1)) aJ (by with_reducible repeat (first | refine fB ?_ | refine eP.blk ?_ | refine fy ?_ | refine dP ?_ | exact eP.done)) ?_
 intro w hsame
 replace H:=H.same hsame
 refine Ht 0 O κ κ κ O H.frm (fun w hI => eA O) (Ht 1 O κ κ κ O H.frm (fun w hI => eA O) (iD 2 O O O O κ κ κ O H.frm (fun w hI => YI O) (iD 3 O O O O κ κ κ O H.frm (fun w hI => YI O) (iD 4 O O O O κ κ κ O H.frm (fun w hI => bR (b:=true) O O (decide_eq_true O)) (Ht 5 O κ κ κ O H.frm (fun w hI => dQ O O) (Ht 6 O κ κ κ O H.frm (fun w hI => eA O) (iD 7 O O O O κ κ κ O H.frm (fun w hI => YI O) (iD 8 O O O O κ κ κ O H.frm (fun w hI => YI O) (iD 9 O O O O κ κ κ O H.frm (fun w hI => bR (b:=true) O O (decide_eq_true O)) (Ht 10 O κ κ κ O H.frm (fun w hI => dQ O O) (Ht 11 O κ κ κ O H.frm (fun w hI => eA O) (iD 12 O O O O κ κ κ O H.frm (fun w hI => YS O) (iD 13 O O O O κ κ κ O H.frm (fun w hI => G8 Ms (ja px) O hbl (fun j u hj => by rw [Nat.zero_add];exact hI.cell (hcell j u hj) (by simp))) (iD 14 O O O O κ κ κ O H.frm (fun w hI => YS O) (HS 15 O O O O κ O J4 (Fi _ pb po pc px (Ip.keep (hf1.trans H.frm) (by simp)) ω) O ?_)))))))))))))))
 rintro e w2 ⟨hf2,a2,c2,rfl,hv2,hfa2⟩
 obtain ⟨g2,hg2,hcell2⟩:=hv2.cell ω
 subst hg2
 replace H:=H.quiet hf2
 refine ⟨_,O,H.frm,?_⟩
 refine Ky 16 O O O O κ O (G8 Ms (ja px) O hbl (fun j u hj => by rw [Nat.zero_add];exact hcell2 j u hj)) H.frm (iD 17 O O O O κ κ κ O H.frm (fun w hI => Hc O O) (Ht 18 O κ κ κ O H.frm (fun w hI => dQ O O) (Ht 19 O κ κ κ O H.frm (fun w hI => eA O) (iD 20 O O O O κ κ κ O H.frm (fun w hI => YS O) (iD 21 O O O O κ κ κ O H.frm (fun w hI => dx am O) (iD 22 O O O O κ κ κ O H.frm (fun w hI => bE (b:=true) O O (decide_eq_true ω)) (Ht 23 O κ κ κ O H.frm (fun w hI => dQ O O) (Ht 24 O κ κ κ O H.frm (fun w hI => Ai O) (g7 κ (tn (Ct ?_)))))))))))
 exact ak O O ⟨O,hf1.trans H.frm⟩
def H_ (v:Value) (n:Nat) (w:World):Prop:=∃ a c,v=.slice a n c∧(n=0∨∃ sb so ls,a=some ⟨sb,so,none⟩∧n=ls.length∧FG sb so ls w)
theorem DY (x:Int):∃ p:Nat,p<4294967296∧IntKind.u32.wrap x=(p:Int):=⟨(x % 4294967296).toNat,ω,by rw [vd];omega⟩
theorem sY (x:Int) (m:Nat) (h0:0<m) (hm:m≤4294967296):∃ k:Nat,k<m∧(x.tmod m+m).tmod m=(k:Int)∧-(m:Int)<x.tmod m∧x.tmod m<m:=by
 have h1:x.tmod m<m:=Int.tmod_lt_of_pos x ω
 have h2:-(m:Int)<x.tmod m:=by
  have:=Int.tmod_lt_of_pos (-x) (b:=(m:Int)) ω
  rw [Int.neg_tmod] at this
  omega
 refine ⟨((x.tmod m+m).tmod m).toNat,?_,?_,h2,h1⟩
 ·have:=Int.tmod_lt_of_pos (x.tmod m+m) (b:=(m:Int)) ω
  omega
 ·have:=Int.tmod_nonneg (a:=x.tmod m+m) (m:Int) ω
  omega
theorem AC (W:World) (x y:Int) (m:Nat) (lv:Value) (ln:Nat) (hm0:0<m) (hm:m≤16384) (L:H_ lv ln W) :
  Calls Tryz.prog 5 #[.int .i64 x,.int .i64 y,iT m,lv] W fun e w' => cf [] W w'∧∃ wd ht px a c,e=.returned (.tuple #[iT wd,iT ht,.slice a (wd * ht) c]) ∧
   1≤wd∧wd≤m∧1≤ht∧ht≤m∧px.length=wd * ht∧(∀ p ∈ px,p<4294967296)∧bT w' a c 36 1 (wd * ht) (nums .u32 px)∧(∀ b ∈ bQ a,W.heap.size≤b):=by
 obtain ⟨la,lc,rfl,hL⟩:=L
 obtain ⟨w0,hw0,ex,hx1,hx2⟩:=sY x m hm0 ω
 obtain ⟨h0,hh0,ey,hy1,hy2⟩:=sY y m hm0 ω
 have H:St W [] [aA none 0 36 1 0 []] W:=St.one (.inl ⟨rfl,rfl,rfl,rfl⟩) (cI _ _ _ _ _ _) (by simp [aA,bQ])
 refine enter (m:=63) Tryz.func5 O Tryz.ntmps5 O (Cy (az O (az O (bI O (Lt (Cs (Cd aJ κ ?_)))))))
 intro w hsame
 replace H:=H.same hsame
 refine bW O (bW O (Sp (gI O O ω O) (bW O (aG O O (fg ω) (bW O (Sp (gI O O ω ex) (aG (r:=((w0+1:Nat):Int)) O O (ck (b:=1) ω) (bW O (bW O (Sp (gI O O ω O) (bW O (aG O O (fg ω) (bW O (Sp (gI O O ω ey) (aG (r:=((h0+1:Nat):Int)) O O (ck (b:=1) ω) (oZ O (oZ O (Sn (tn ?_)))))))))))))))))))
 obtain ⟨wd,hwd⟩:∃ wd,wd=w0+1:=⟨_,rfl⟩
 obtain ⟨ht,hht⟩:∃ ht,ht=h0+1:=⟨_,rfl⟩
 rw [← hwd,← hht]
 have hmul:wd * ht≤16384 * 16384:=Nat.mul_le_mul ω ω
 refine Cy (bI O (Lt (Cs (Cy (ai O (ai O (Lp (cX O O (pK ω)) (ai O (Lt ?_)))))))))
 refine aH (fun ρ w' => ∃ px a c,ρ 0=iT wd∧ρ 1=iT ht∧ρ 11=.slice a (wd * ht) c∧px.length=wd * ht∧(∀ p ∈ px,p<4294967296)∧St W [] [aA a c 36 1 (wd * ht) (nums .u32 px)] w') ?_ ?_
 case refine_1 =>
  refine Cb ?_
  refine Cl (fun mm ρ w' => ∃ i px a c,i≤wd * ht∧mm=wd * ht - i∧ρ 0=iT wd∧ρ 1=iT ht∧ρ 3=.slice la ln lc∧ρ 11=.slice a i c∧ρ 32=iT (wd * ht)∧ρ 33=iT i∧px.length=i∧(∀ p ∈ px,p<4294967296)∧St W [] [aA a c 36 1 i (nums .u32 px)] w') (wd * ht)
   ⟨0,[],none,0,ω,rfl,rfl,rfl,rfl,rfl,rfl,rfl,rfl,by simp,by simpa [nums] using H⟩ ?_
  clear H
  rintro mm ρ w5 ⟨i,px,a,c,hi,hmm,r0,r1,r3,r11,r32,r33,hpl,hps,H⟩
  refine Cy (bP η η (Lt ?_))
  by_cases hy:i=wd * ht
  case pos =>
   refine Cs (CF O ω (Cx (ax (ax (br (tn ?_))))))
   rw [hy] at r11 H hpl
   exact ⟨px,a,c,r0,r1,r11,hpl,hps,H⟩
  have hlt:i<wd * ht:=ω
  refine Cs (CT O ω (Ck (tn (Cs (Cb (Cy (ai η (az O (Lt (Cy (ai O (cm jV O (ew ω) (az O (Lt (Cs (Cs ?_))))))))))))))))
  refine Cr (bU η (bG aZ O (Lp (e9 O O) (Lt ?_))))
  refine aH (fun ρ w' => ∃ p:Nat,p<4294967296∧ρ 0=iT wd∧ρ 1=iT ht∧ρ 3=.slice la ln lc∧ρ 11=.slice a i c∧ρ 32=iT (wd * ht)∧ρ 33=iT i∧ρ 13=.int .u32 (p:Nat)∧St W [] [aA a c 36 1 i (nums .u32 px)] w') ?_ ?_
  case refine_1 =>
   by_cases hl0:ln=0
   case pos =>
    refine CF O ω (Ck (tn ?_))
    exact ⟨i,ω,r0,r1,r3,r11,r32,r33,O,H⟩
   rcases hL with hL | ⟨sb,so,ls,rfl,rfl,hP⟩
   ·omega
   have hk:i % ls.length<ls.length:=Nat.mod_lt _ ω
   have hcell:=hP.row (i % ls.length) hk
   obtain ⟨p1,hp1,e1⟩:=DY (((i / ls.length % 4294967296:Nat):Int) * 16973829)
   obtain ⟨p2,hp2,e2⟩:=DY ((ls[i % ls.length]:Nat)+(p1:Int))
   refine CT O ω (Cd aJ κ ?_)
   intro w hsame
   replace H:=H.same hsame
   refine cF r3 (bW O (cF r3 (Sp (dx aZ O) (Sp (gI O O ω (rN)) (Sp (ci (i % ls.length) aZ O O O hk) (aD bD O (H.old hcell (by simp)) (bW O (cF r3 (Sp (dx aZ O) (Sp (ki O O ω (Dt ω)) (Sp (rp jV O Md) (Sp (cX O O e1) (aG O O e2 (oZ O (Sn (tn ?_))))))))))))))))
   exact ⟨p2,hp2,r0,r1,r3,r11,r32,r33,O,H⟩
  case refine_2 =>
  clear H r0 r1 r3 r11 r32 r33
  rintro ρ w6 ⟨p,hp,r0,r1,r3,r11,r32,r33,r13,H⟩
  refine Cr (bU r11 (ai η (cH H gj (nums .u32 [p]) O O δ δ κ ?_)))
  intro w b12 hn12 hb12 H
  refine dH H 1 gj δ O O O O (news:=nums .u32 [p]) O (fun j u hj => by rw [Nat.zero_add];exact H.cell 0 O hj) (fD _ _) (by simp only [maxLen];omega) ω ?_
  intro a' c' w hfa H
  replace H:St W [] [aA a' c' 36 1 (i+1) (nums .u32 (px++[p]))] w:=by rw [dT];exact H.sub [1] rfl (by simp)
  refine gS O (Ln (aF (tn (Cr (ao (r:=((i+1:Nat):Int)) r33 O (ck (b:=1) ω) (ai O (Lt ?_)))))))
  exact ⟨wd * ht - (i+1),ω,i+1,px++[p],a',c',ω,O,r0,r1,r3,O,r32,O,by simp [hpl],by
   intro q hq
   rw [List.mem_append,List.mem_singleton] at hq
   rcases hq with hq | rfl
   ·exact hps q hq
   ·exact hp,H⟩
 case refine_2 =>
 clear H
 rintro ρ w5 ⟨px,a,c,r0,r1,r11,hpl,hps,H⟩
 refine Cy (ai η (ai η (bU η (az O (az O (gS O (Lt (Ct ?_))))))))
 exact km O O O O ⟨H.frm,wd,ht,px,a,c,O,ω,ω,ω,ω,hpl,hps,H.get (i:=0) rfl,fun x hx => by
  rcases H.own _ (List.mem_singleton.2 rfl) x hx with h | h
  ·simp at h
  ·exact h⟩
def nB (X:aM):Nat:=(X.length+7) / 8
def d8 (X:aM) (j:Nat):Nat:=val ((X.drop (8 * j)).take 8)
theorem y8 (X:aM) (j:Nat):d8 X j<256:=by
 have h:=uO ((X.drop (8 * j)).take 8)
 have h2:((X.drop (8 * j)).take 8).length≤8:=by rw [List.length_take];omega
 have:=Nat.pow_le_pow_right (n:=2) ω h2
 unfold d8
 omega
theorem CC (X:aM) (j:Nat) (h:X.length≤8 * j):d8 X j=0:=by
 unfold d8
 rw [List.drop_eq_nil_of_le h]
 rfl
theorem Be (X:aM):d8 X (X.length / 8)<2 ^ (X.length % 8):=by
 unfold d8
 have h:=uO ((X.drop (8 * (X.length / 8))).take 8)
 rw [List.length_take,List.length_drop,show min 8 (X.length - 8 * (X.length / 8))=X.length % 8 by omega] at h
 exact h
theorem u7 (X:aM) (b:Bool) (j:Nat) (h:j≤X.length / 8):d8 (X++[b]) j=if j=X.length / 8 then d8 X j ||| b.toNat * 2 ^ (X.length % 8) else d8 X j:=by
 split
 next hj =>
  subst hj
  have hl:=Be X
  rw [Nat.or_comm,Nat.mul_comm,← Nat.two_pow_add_eq_or_of_lt hl]
  unfold d8
  rw [List.drop_append_of_le_length ω,List.take_of_length_le (by rw [List.length_append,List.length_drop];simp;omega),pj,List.take_of_length_le (by rw [List.length_drop];omega),List.length_drop,show X.length - 8 * (X.length / 8)=X.length % 8 by omega]
  simp [val]
  omega
 next hj =>
  unfold d8
  rw [List.drop_append_of_le_length ω,List.take_append_of_le_length (by rw [List.length_drop];omega)]
theorem Io (X:aM) (b:Bool):nB (X++[b])=X.length / 8+1:=by unfold nB;rw [List.length_append];simp;omega
def gY (X:aM):List Nat:=(List.range (nB X)).map (d8 X)
theorem iN (X:aM):(gY X).length=nB X:=by simp [gY]
theorem F2 (X:aM):∀ c ∈ gY X,c<256:=by
 intro c hc
 obtain ⟨j,_,rfl⟩:=List.mem_map.1 hc
 exact y8 X j
theorem zk (k:IntKind) (f:Nat→Nat) (n:Nat):bM k f n=nums k ((List.range n).map f):=by simp [bM,nums]
theorem Co (n:Nat):aV 0 n=List.replicate n false:=by
 induction n with
 | zero => rfl
 | succ n ih => simp [aV,ih,List.replicate_succ]
theorem yH:∀ (l:aM) (n:Nat),l.length≤n→aV (val l) n=l++List.replicate (n - l.length) false
 | [],n,_ => by simp [val,Co]
 | b :: r,0,h => by simp at h
 | b :: r,n+1,h => by
  have h2:(b.toNat+2 * val r) / 2=val r:=by have:=Bool.toNat_le b;omega
  have h3:((b.toNat+2 * val r) % 2 == 1)=b:=by cases b <;> simp <;> omega
  simp only [val,aV,h2,h3,List.cons_append,List.length_cons,yH r n (by simpa using h)]
  congr 3
  omega
theorem rT:∀ (n:Nat) (X:aM),nB X=n→fi ((List.range n).map (d8 X))=X++List.replicate (8 * n - X.length) false
 | 0,X,h => by
  have:X=[]:=List.eq_nil_of_length_eq_zero (by unfold nB at h;omega)
  subst this
  rfl
 | n+1,X,h => by
  have hn:nB (X.drop 8)=n:=by unfold nB at h ⊢;rw [List.length_drop];omega
  have ih:=rT n (X.drop 8) hn
  have e:(List.range (n+1)).map (d8 X)=val (X.take 8) :: (List.range n).map (d8 (X.drop 8)):=by
   rw [List.range_succ_eq_map,List.map_cons,List.map_map]
   congr 1
   apply List.map_congr_left
   intro j _
   show d8 X (j+1)=d8 (X.drop 8) j
   unfold d8
   rw [List.drop_drop,show 8 * (j+1)=8+8 * j by omega]
  rw [e,nD,ih]
  unfold kI
  rw [yH _ _ (by rw [List.length_take];omega)]
  by_cases h8:8≤X.length
  ·rw [List.length_take,Nat.min_eq_left h8,Nat.sub_self,List.replicate_zero,List.append_nil,← List.append_assoc,List.take_append_drop,List.length_drop]
   congr 2
   omega
  ·have hn0:n=0:=by rw [← hn];unfold nB;rw [List.length_drop];omega
   subst hn0
   rw [List.take_of_length_le ω,List.drop_eq_nil_of_le ω]
   simp
theorem Fb (X:aM):∃ k,k<8∧fi (gY X)=X++List.replicate k false :=
 ⟨8 * nB X - X.length,by unfold nB;omega,rT _ X rfl⟩
theorem sU {P:Program} {w w0:World} {t e:Nat} {c m g j:Nat} {xs:List Value} {v:Value} {S:List Nat} {l:List e_} {nn:Nat} {ops:Array Oper} {Q:cY} {rest:List Oper} {ρ:dK} {ty:TypeId} {pos:String} {after:Array Edge} {x y:Operand}
  (H:St w0 S l w) (i:Nat) (F:vK P t) (hx:ev ρ x=.pointer (some ⟨g,j,none⟩)) (hi:l[i]?=some (aA (aT g) c e 1 m xs)) (hy:ev ρ y=v) (hv:v.oneCell'=true) (hj:j<m)
  (h:∀ w',St w0 S (l.set i (aA (aT g) c e 1 m (xs.set j v))) w'→VL P nn ops Q rest ρ w'):VL P nn ops Q (⟨none,.store t x y,ty,pos,after,none⟩ :: rest) ρ w:=by
 rcases H.get hi with ⟨h0,_⟩ | ⟨g',cur,h0,h1,h2,h3,h4,h5⟩
 ·cases h0
 ·cases h0
  have hc:w.cell? ⟨g,j,none⟩=some cur[j]:=h1.cellv (List.getElem?_eq_getElem ω)
  refine xZ (td F hx hy hv hc (h1.fz _)) (h _ (H.turn hi (cf.put w _ v (by simp [aA,bQ])) (.inr ⟨g,cur.set j v,O,h1.put j v,h2,h3,by rw [List.length_set];exact h4,by rw [List.take_set,h5]⟩) (cI _ _ _ _ _ _) (fun b hb => .inl hb)))
theorem bT.cellS {w:World} {g c e k n j:Nat} {xs:List Value} {v:Value} (h:bT w (aT g) c e k n xs) (hv:xs[j]?=some v):w.cell? ⟨g,j,none⟩=some v:=by
 rcases h with ⟨h0,_⟩ | ⟨g',cur,h0,h1,h2,h3,h4,rfl⟩
 ·cases h0
 ·cases h0
  refine h1.cellv ?_
  rw [List.getElem?_take] at hv
  split at hv
  ·exact hv
  ·cases hv
theorem ws:∀ (c n:Nat),aV c (n+1)=aV c n++[c / 2 ^ n % 2 == 1]
 | c,0 => by simp [aV]
 | c,n+1 => by
  rw [aV,ws (c / 2) n,Nat.div_div_eq_div_mul,show 2 * 2 ^ n=2 ^ (n+1) by rw [Nat.pow_succ,Nat.mul_comm]]
  rfl
def Ia (wb:Nat) (a:Option Addr) (c:Nat) (X:aM) (w:World):Prop :=
 ff w wb [.slice a (nB X) c,iT X.length] 42∧bT w a c 5 1 (nB X) (bM .u8 (d8 X) (nB X))∧wb ∉ bQ a
theorem FL (W:World) (wb:Nat) (a0:Option Addr) (c0:Nat) (X:aM) (n many:Nat) (hP:Ia wb a0 c0 X W) (hm:many≤62) (hn:n<2 ^ 62) (hX:X.length≤1099511627776) :
  Calls Tryz.prog 13 #[pT wb,iT n,iT many] W fun e w' => ∃ a c,e=.returned (.tuple #[])∧Ia wb a c (X++aV n many) w'∧(∀ x ∈ bQ a,x ∈ bQ a0∨W.heap.size≤x)∧cf (wb :: bQ a0) W w':=by
 obtain ⟨hp1,hp2,hp3⟩:=hP
 have H:St W (wb :: bQ a0) [aa wb [.slice a0 (nB X) c0,iT X.length] 42,aA a0 c0 5 1 (nB X) (bM .u8 (d8 X) (nB X))] W :=
  (St.one hp2 (cI _ _ _ _ _ _) (fun b hb => List.mem_cons_of_mem _ hb)).cons hp1 ⟨cw _ _ _,dW _ _ _⟩ (fun b hb => .inl (by simp [aa] at hb;simp [hb])) (fun s hs b hb hb2 => by
   rw [List.mem_singleton] at hs
   subst hs
   simp only [aa,List.mem_singleton] at hb
   subst hb
   exact hp3 hb2)
 refine enter (m:=58) Tryz.func13 O Tryz.ntmps13 O (Cy (ai O (ai O (Lt (Cb ?_)))))
 refine Cl (fun mm ρ w' => ∃ i a c,i≤many∧mm=many - i∧ρ 0=pT wb∧ρ 1=iT n∧ρ 7=iT many∧ρ 8=iT i ∧
  St W (wb :: bQ a0) [aa wb [.slice a (nB (X++aV n i)) c,iT ((X++aV n i).length)] 42,aA a c 5 1 (nB (X++aV n i)) (bM .u8 (d8 (X++aV n i)) (nB (X++aV n i)))] w') many
  ⟨0,a0,c0,ω,rfl,rfl,rfl,rfl,rfl,by simpa [aV] using H⟩ ?_
 clear H
 rintro mm ρ w5 ⟨i,a,c,hi,hmm,r0,r1,r7,r8,H⟩
 refine Cy (bP η η (Lt ?_))
 by_cases hy:i=many
 case pos =>
  subst hy
  refine Cs (CF O ω (Cx (ax (ax (br ?_)))))
  refine lu O ⟨a,c,O,⟨H.blk (i:=0) rfl,H.get (i:=1) rfl,fun hx => ?_⟩,fun x hx => ?_,H.frm⟩
  ·have:=H.apart
   simp only [yU,List.pairwise_cons] at this
   exact this.1 _ (List.mem_singleton.2 O) wb (by simp [aa]) hx
  ·rcases H.own _ (List.mem_cons_of_mem _ (List.mem_singleton.2 rfl)) x hx with h | h
   ·rcases List.mem_cons.1 h with rfl | h
    ·have:=H.apart
     simp only [yU,List.pairwise_cons] at this
     exact absurd hx (this.1 _ (List.mem_singleton.2 O) x (by simp [aa]))
    ·exact .inl h
   ·exact .inr h
 obtain ⟨Z,hZ⟩:∃ Z,Z=X++aV n i:=⟨_,rfl⟩
 have hZl:Z.length=X.length+i:=by rw [hZ,List.length_append,kZ]
 obtain ⟨q,hq⟩:∃ q,q=Z.length / 8:=⟨_,rfl⟩
 rw [← hZ] at H
 refine Cs (CT O ω (Ck (tn (Cs (Cb (Cy (ai η (az O (Lt (Cs (Cy (bH η (aK O (aU th O (aC a_ O (H.cell 0 O O) (Lp (gI O O ω (rN (b:=8))) (bF O O ?_)))))))))))))))))
 refine Lt ?_
 refine aH (fun ρ w' => ∃ a c,ρ 0=pT wb∧ρ 1=iT n∧ρ 6=iT i∧ρ 7=iT many∧ρ 8=iT i ∧
  St W (wb :: bQ a0) [aa wb [.slice a (q+1) c,iT Z.length] 42,aA a c 5 1 (q+1) (bM .u8 (d8 Z) (q+1))] w') ?_ ?_
 case refine_1 =>
  by_cases h8:Z.length % 8=0
  case neg =>
   have e:nB Z=q+1:=by unfold nB;omega
   rw [e] at H
   refine CF O ω (Ck (tn ?_))
   exact ⟨a,c,r0,r1,O,r7,r8,H⟩
  have e:nB Z=q:=by unfold nB;omega
  rw [e] at H
  refine CT O ω (Cr (bH η (bH η (aK O (aU vV O (aC jg O (H.cell 0 O O) (cH H xp (nums .u8 [0]) O O δ δ κ ?_)))))))
  intro w b22 hn22 hb22 H
  refine dH H 2 xp δ O O O O (news:=nums .u8 [0]) O (fun j u hj => by rw [Nat.zero_add];exact H.cell 0 O hj) (fD _ _) (by simp only [maxLen];omega) ω ?_
  intro a' c' w hfa H
  refine aK O (aU vV O (kB H 1 Eh O O O O ?_))
  intro w H
  simp only [List.set] at H
  refine Lt ?_
  replace H:St W (wb :: bQ a0) [aa wb [.slice a' (q+1) c',iT Z.length] 42,aA a' c' 5 1 (q+1) (bM .u8 (d8 Z) (q+1))] w:=by
   have e2:bM .u8 (d8 Z) (q+1)=bM .u8 (d8 Z) q++nums .u8 [0]:=by
    rw [← pU]
    congr 1
    show [Value.int .u8 ((d8 Z (q+0):Nat):Int)]=[Value.int .u8 ((0:Nat):Int)]
    rw [CC Z (q+0) ω]
   rw [e2]
   exact H.sub [1,2] O (by simp)
  exact ⟨a',c',r0,r1,O,r7,r8,H⟩
 case refine_2 =>
 clear H r0 r1 r7 r8
 rintro ρ w6 ⟨a,c,r0,r1,r6,r7,r8,H⟩
 obtain ⟨g,rfl,_⟩:=(H.get (i:=1) rfl:bT _ _ _ _ _ _ _).cell ω
 have hlt:d8 Z (Z.length / 8)<256:=y8 _ _
 have hdv:n / 2 ^ i≤n:=Nat.div_le_self _ _
 have hsh:n / 2 ^ i % 2 * 2 ^ (Z.length % 8)<256:=by
  have h1:n / 2 ^ i % 2≤1:=ω
  have h2:2 ^ (Z.length % 8)≤2 ^ 7:=Nat.pow_le_pow_right ω ω
  have:=Nat.mul_le_mul h1 h2
  omega
 refine Cs (ar 24 aJ κ ?_)
 intro w hsame
 replace H:=H.same hsame
 refine mY η (du O (dD vV O (aD jg O (H.cell 0 O O) (mY η (du O (dD th O (aD a_ O (H.cell 0 O O) (Sp (ki O O ω (Dt (b:=8) ω)) (Sp (bO (Z.length / 8) am O O O ω) (aD aQ O (bT.cellS (H.get (i:=1) O) (af ω)) (bW η (bW η (Sp (d6 O O ω (jd (k:=.i64) (by show _≤(64:Nat);omega))) (Sp (gZ O O (L8 (b:=1) ⟨ω,ω⟩)) (Sp (rp (r:=((n / 2 ^ i % 2:Nat):Int)) IZ O (by rw [Nat.and_one_is_mod,yl ω])) (mY η (du O (dD th O (aD a_ O (H.cell 0 O O) ?_)))))))))))))))))))
 refine Sp (gI O O ω (rN (b:=8))) (Sp (ed (r:=((n / 2 ^ i % 2 * 2 ^ (Z.length % 8):Nat):Int)) O O ω (I_ (by show _≤(8:Nat);omega) (yl ω))) (Sp (sH O O (MB ⟨ω,ω⟩)) (Sp (bO (Z.length / 8) am O O O ω) (Sn (sU (v:=.int .u8 ((d8 Z (Z.length / 8) ||| n / 2 ^ i % 2 * 2 ^ (Z.length % 8):Nat):Int)) H 1 cZ O O O O ω ?_)))))
 intro w H
 refine Lt (Cr (bH η (aK O (aU th O (aC a_ O (H.cell 0 O O) (ao O O (ck (b:=1) ω) (aK O (aU th O (bC H 0 k_ O O O O ?_)))))))))
 intro w H
 simp only [List.set] at H
 refine Ln (aF (tn (Cr (ao (r:=((i+1:Nat):Int)) r8 O (ck (b:=1) ω) (ai O (Lt ?_))))))
 refine ⟨many - (i+1),ω,i+1,aT g,c,ω,O,r0,r1,r7,O,?_⟩
 have eZ:X++aV n (i+1)=Z++[n / 2 ^ i % 2 == 1]:=by rw [ws,← List.append_assoc,← hZ]
 have eb:(n / 2 ^ i % 2 == 1).toNat=n / 2 ^ i % 2:=by
  rcases Nat.mod_two_eq_zero_or_one (n / 2 ^ i) with h | h <;> simp [h]
 rw [eZ,Io,← hq]
 have es:=jQ (k:=.u8) (f:=d8 Z) (g:=d8 (Z++[n / 2 ^ i % 2 == 1])) (n:=q+1) (x:=Z.length / 8) (v:=d8 Z (Z.length / 8) ||| n / 2 ^ i % 2 * 2 ^ (Z.length % 8))
  (by rw [u7 _ _ _ (Nat.le_refl _),if_pos rfl,eb]) (fun j hj hne => by rw [u7 _ _ _ ω,if_neg hne])
 rw [es] at H
 rw [List.length_append]
 exact H
def eI (wb:Nat) (a:Option Addr) (c:Nat) (X:aM):e_:=⟨wb :: bQ a,Ia wb a c X⟩
theorem qZ (wb:Nat) (a:Option Addr) (c:Nat) (X:aM):(eI wb a c X).Local∧(eI wb a c X).In:=by
 refine ⟨fun w w' h ⟨h1,h2,h3⟩ => ⟨?_,(cI a c 5 1 (nB X) _).1 w w' (fun b hb => h b (List.mem_cons_of_mem _ hb)) h2,h3⟩,fun w ⟨h1,h2,h3⟩ b hb => ?_⟩
 ·exact (h wb (List.mem_cons_self ..)).trans h1
 ·rcases List.mem_cons.1 hb with rfl | hb
  ·exact h1.lt
  ·exact (cI a c 5 1 (nB X) _).2 w h2 b hb
section
variable {w0 w:World} {S:List Nat} {l:List e_} {wb c c':Nat} {a a':Option Addr} {X X':aM}
theorem St.wr (H:St w0 S l w) (i:Nat) {w':World} (hi:l[i]?=some (eI wb a c X)) (hP:Ia wb a' c' X' w') (hfa:∀ x ∈ bQ a',x ∈ bQ a∨w.heap.size≤x) (hf:cf (wb :: bQ a) w w'):St w0 S (l.set i (eI wb a' c' X')) w' :=
 H.turn hi hf hP (qZ _ _ _ _) fun b hb => by
  rcases List.mem_cons.1 hb with rfl | hb
  ·exact .inl (List.mem_cons_self ..)
  ·exact (hfa b hb).imp (List.mem_cons_of_mem _) id
variable {nn:Nat} {ops:Array Oper} {Q:cY} {rest:List Oper} {ρ:dK} {ty:TypeId} {pos:String} {after:Array Edge} {x y z:Operand} {d:Nat} {ts:Array TypeId}
theorem di (H:St w0 S l w) (i:Nat) (hi:l[i]?=some (eI wb a c X)) (n many:Nat) (hm:many≤62) (hn:n<2 ^ 62) (hX:X.length≤1099511627776) (hd:Nat.blt d nn=true) (hx:ev ρ x=pT wb) (hy:ev ρ y=iT n) (hz:ev ρ z=iT many)
  (h:∀ w' a' c',St w0 S (l.set i (eI wb a' c' (X++aV n many))) w'→VL Tryz.prog nn ops Q rest (eW ρ d (.tuple #[])) w') :
  VL Tryz.prog nn ops Q (⟨some d,.call ⟨.value (.func 13),#[x,y,z],ts⟩,ty,pos,after,none⟩ :: rest) ρ w :=
 aS hd KH (FL w wb a c X n many (H.get hi) hm hn hX) (by simp [hx,hy,hz]) fun e w' ⟨a',c',he,hP,hfa,hf⟩ => ⟨_,he,h _ a' c' (H.wr i hi hP hfa hf)⟩
end
theorem St.wrEnd {W w:World} {wb c:Nat} {a0 a:Option Addr} {X:aM} (H:St W (wb :: bQ a0) [eI wb a c X] w):Ia wb a c X w∧(∀ x ∈ bQ a,x ∈ bQ a0∨W.heap.size≤x)∧cf (wb :: bQ a0) W w:=by
 have hP:Ia wb a c X w:=H.get (i:=0) rfl
 refine ⟨hP,fun x hx => ?_,H.frm⟩
 rcases H.own _ (List.mem_singleton.2 rfl) x (List.mem_cons_of_mem _ hx) with h | h
 ·rcases List.mem_cons.1 h with rfl | h
  ·exact absurd hx hP.2.2
  ·exact .inl h
 ·exact .inr h
def lT (c:Nat):Nat→aM
 | 0 => []
 | n+1 => (c / 2 ^ n % 2 == 1) :: lT c n
theorem mz (c:Nat):∀ n,(lT c n).length=n
 | 0 => rfl
 | n+1 => by rw [lT,List.length_cons,mz c n]
theorem Gh (W:World) (wb:Nat) (a0:Option Addr) (c0:Nat) (X:aM) (n long:Nat) (hP:Ia wb a0 c0 X W) (hm:long≤62) (hn:n<2 ^ 62) (hX:X.length+62≤1099511627776) :
  Calls Tryz.prog 38 #[pT wb,iT n,iT long] W fun e w' => ∃ a c,e=.returned (.tuple #[])∧Ia wb a c (X++lT n long) w'∧(∀ x ∈ bQ a,x ∈ bQ a0∨W.heap.size≤x)∧cf (wb :: bQ a0) W w':=by
 have H:St W (wb :: bQ a0) [eI wb a0 c0 X] W:=St.one hP (qZ _ _ _ _) (fun b hb => hb)
 refine enter (m:=18) Tryz.func38 O Tryz.ntmps38 O (Cy (ai O (bw O O (fg ω) (az O (Lt (Cb ?_))))))
 refine Cl (fun mm ρ w' => ∃ i a c Z,i≤long∧mm=i∧ρ 0=pT wb∧ρ 1=iT n∧ρ 6=.int .i64 ((i:Int) - 1)∧Z++lT n i=X++lT n long ∧
  St W (wb :: bQ a0) [eI wb a c Z] w') long
  ⟨long,a0,c0,X,ω,rfl,rfl,rfl,rfl,rfl,H⟩ ?_
 clear H
 rintro mm ρ w5 ⟨i,a,c,Z,hi,hmm,r0,r1,r6,hZ,H⟩
 refine Cs (Cy (ai η (Lp (ou O O) (Lt ?_))))
 by_cases hy:i=0
 case pos =>
  subst hy
  refine CF O ω (Cx (ax (ax (br ?_))))
  rw [lT,List.append_nil] at hZ
  subst hZ
  exact lu O ⟨a,c,O,H.wrEnd⟩
 obtain ⟨k,rfl⟩:∃ k,i=k+1:=⟨i - 1,ω⟩
 have r6':ρ 6=(iT k):=by rw [r6];congr 1;omega
 have hZl:Z.length≤X.length+62:=by
  have:=congrArg List.length hZ
  simp only [List.length_append,mz] at this
  omega
 have hdv:n / 2 ^ k≤n:=Nat.div_le_self _ _
 refine CT O ω (Ck (tn (Cs (Cb (Cr (bH η (ai η (ai r6' (Lp (d6 O O ω (jd (k:=.i64) (by show _≤(64:Nat);omega))) (di H 0 O (n / 2 ^ k) 1 ω ω ω O O O O ?_))))))))))
 intro w a' c' H
 simp only [List.set] at H
 refine Ln (aF (tn (Cr (ai r6' (bw O O (fg ω) (az O (Lt ?_)))))))
 exact ⟨k,ω,k,a',c',_,ω,O,r0,r1,O,by rw [← hZ,List.append_assoc];rfl,H⟩
theorem lq (c:Nat):∀ n,lT c n=aB c n
 | 0 => rfl
 | n+1 => by
  rw [lT,aB,lq c n,Nat.testBit_eq_decide_div_mod_eq]
  congr 1
theorem cJ {n k:Nat} (h:n<2 ^ k):d7 (rd k) (aV n k) n:=fun Y => by
 rw [ir (by rw [List.length_append,kZ];omega),List.take_left' (kZ n k),List.drop_left' (kZ n k),mK,Nat.mod_eq_of_lt h]
def jA (B:Nat) (v:Value) (w:World):Prop:=B<w.heap.size∧∃ a n c,v=.slice a n c∧n≤2147483647∧(n=0∨∃ sb so,∃ zs:List Int,a=some ⟨sb,so,none⟩∧n=zs.length∧sb=B∧∀ j (h:j<zs.length),w.cell? ⟨sb,so+j,none⟩=some (.int .i64 zs[j]))
theorem jA.keep {B:Nat} {v:Value} {w w':World} {S:List Nat} (h:jA B v w) (hf:cf S w w') (hS:∀ b ∈ S,B≠b):jA B v w':=by
 obtain ⟨hB,a,n,c,rfl,hn,h⟩:=h
 refine ⟨Nat.lt_of_lt_of_le hB hf.size,a,n,c,O,hn,h.imp id ?_⟩
 rintro ⟨sb,so,zs,rfl,h1,h2,h3⟩
 exact ⟨sb,so,zs,O,h1,h2,fun j hj => hf.cell (h3 j hj) fun hm => hS _ hm h2.symm⟩
def dt (v:Value) (n:Nat):List Value:=[v,iT n]
theorem oq (W:World) (cb B:Nat) (v:Value) (k m:Nat) (hb:ff W cb (dt v k) 39) (hw:jA B v W) (hB:B≠cb) (hk:k≤4611686018427387904) (hm0:0<m) (hm:m≤4294967296) :
  Calls Tryz.prog 14 #[pT cb,iT m] W fun e w' => (∃ r:Nat,r<m∧e=.returned (iT r))∧ff w' cb (dt v (k+1)) 39∧cf [cb] W w':=by
 obtain ⟨_,a,n,c,rfl,hn,hw⟩:=hw
 unfold dt at hb ⊢
 have H:=gQ hb
 refine enter (m:=57) Tryz.func14 O Tryz.ntmps14 O (Cy (az O (Lt (Cy (bH O (aK O (aU tL O (aC a_ O (H.cell 0 O O) (az O (Lt (Cs (Cy (bH O (aK O (aU v9 O ?_)))))))))))))))
 refine aC zn O (H.cell 0 O O) (bG bh O (Lp (e9 O O) (Lt ?_)))
 refine aH (fun ρ w' => ∃ x:Int,ρ 0=pT cb∧ρ 1=iT m∧ρ 5=.int .i64 x∧St W [cb] [aa cb [.slice a n c,iT k] 39] w') ?_ ?_
 case refine_1 =>
  by_cases hn0:n=0
  case pos =>
   refine CF O ω (Ck (tn ?_))
   exact ⟨k,O,O,O,H⟩
  rcases hw with h | ⟨sb,so,zs,rfl,rfl,hsb,hz⟩
  ·exact absurd h hn0
  have hl:k % zs.length<zs.length:=Nat.mod_lt _ ω
  have hc:=hz _ hl
  have hS:sb ∉ [cb]:=by simp;omega
  refine CT O ω (Cd aJ κ ?_)
  intro w hsame
  replace H:=H.same hsame
  refine mY O (du O (dD v9 O (aD zn O (H.cell 0 O O) (mY O (du O (dD tL O (aD a_ O (H.cell 0 O O) (mY O (du O (dD v9 O (aD zn O (H.cell 0 O O) (Sp (dx bh O) (Sp (gI O O ω (rN)) (Sp (ci (k % zs.length) bh O O O hl) (aD a_ O (H.old hc hS) (mY O (du O (dD tL O (aD a_ O (H.cell 0 O O) ?_)))))))))))))))))))
  refine mY O (du O (dD v9 O (aD zn O (H.cell 0 O O) (Sp (dx bh O) (Sp (ki O O ω (Dt ω)) (Sp (F4 O O) (oZ O (Sn (tn ?_)))))))))
  exact ⟨_,O,O,O,H⟩
 case refine_2 =>
 clear H
 rintro ρ w5 ⟨x,r0,r1,r5,H⟩
 obtain ⟨r,hr,er,hx1,hx2⟩:=sY x m hm0 hm
 refine Cy (bH η (aK O (aU tL O (aC a_ O (H.cell 0 O O) (ao (r:=((k+1:Nat):Int)) O O (ck (b:=1) ω) (aK O (aU tL O (bC H 0 k_ O O O O ?_))))))))
 intro w H
 simp only [List.set] at H
 refine Lt (Cy (ai r5 (ai r1 (Lp (gI O O ω O) (ai r1 (ao O O (fg ω) (ai r1 (Lp (gI O O ω er) (az O (Lt (Ct ?_)))))))))))
 exact ak O O ⟨⟨r,hr,O⟩,H.blk (i:=0) rfl,H.frm⟩
section
variable {w0 w:World} {S:List Nat} {l:List e_} {cb B k:Nat} {v:Value}
variable {nn:Nat} {ops:Array Oper} {Q:cY} {rest:List Oper} {ρ:dK} {ty:TypeId} {pos:String} {after:Array Edge} {x y:Operand} {d:Nat} {ts:Array TypeId}
theorem gh (H:St w0 S l w) (i:Nat) (hi:l[i]?=some (aa cb (dt v k) 39)) (hw:jA B v w0) (hS:∀ b ∈ S,B≠b) (hB:B≠cb) (m:Nat) (hk:k≤4611686018427387904) (hm0:0<m) (hm:m≤4294967296) (hd:Nat.blt d nn=true) (hx:ev ρ x=pT cb) (hy:ev ρ y=iT m)
  (h:∀ w' r,r<m→St w0 S (l.set i (aa cb (dt v (k+1)) 39)) w'→VL Tryz.prog nn ops Q rest (eW ρ d (iT r)) w') :
  VL Tryz.prog nn ops Q (⟨some d,.call ⟨.value (.func 14),#[x,y],ts⟩,ty,pos,after,none⟩ :: rest) ρ w :=
 aS hd wx (oq w cb B v k m (H.blk hi) (hw.keep H.frm hS) hB hk hm0 hm) (by simp [hx,hy]) fun e w' ⟨⟨r,hr,he⟩,hb,hf⟩ => ⟨_,he,h _ r hr (H.turnB i hi hf hb)⟩
end
def us (ls:List Nat):Nat→Nat
 | 0 => 0
 | k+1 => 2 * us ls k+if k=0 then 0 else ls.count k
def dq (ls:List Nat) (s:Nat):Nat:=2 * us ls (ls.getD s 0)+(ls.take s).count (ls.getD s 0)
theorem JD (ls:List Nat):∀ k,us ls k+ls.length≤2 ^ k * ls.length
 | 0 => by simp [us]
 | k+1 => by
  have h:=JD ls k
  have hc:ls.count k≤ls.length:=List.count_le_length
  rw [us,Nat.pow_succ,show 2 ^ k * 2 * ls.length=2 * (2 ^ k * ls.length) by rw [Nat.mul_comm (2 ^ k) 2,Nat.mul_assoc]]
  split <;> omega
theorem xa (ls:List Nat) (hn:ls.length≤65536) {k:Nat} (hk:k≤16):us ls k≤4294967296:=by
 have h:=JD ls k
 have h2:2 ^ k≤2 ^ 16:=Nat.pow_le_pow_right ω hk
 have h3:=Nat.mul_le_mul h2 hn
 omega
theorem Dv (W:World) (b o c:Nat) (ls:List Nat) (hr:l7 W .i64 b o ls) (h15:∀ x ∈ ls,x≤15) (hn:ls.length≤65536) :
  Calls Tryz.prog 57 #[.slice (some ⟨b,o,none⟩) ls.length c] W fun e w' => ∃ g,W.heap.size≤g∧e=.returned (.slice (aT g) ls.length ls.length)∧ff w' g (bM .i64 (fun s => if ls.getD s 0=0 then 0 else dq ls s) ls.length) 3∧cf [] W w':=by
 have H:St W [] [] W:=St.nil W []
 refine enter (m:=35) Tryz.func57 O Tryz.ntmps57 O (Cy (bI O (Lt (Cy (bU O (bG bh O (iJ H mg ls.length ls.length O O O O (Nat.le_refl _) ω ω O ?_)))))))
 intro w g hn13 hg H
 refine gS O (Lt ?_)
 rw [dz,fK] at H
 refine Cy (az O (Lt (Cs (Cy (az O (Lt ?_))))))
 refine aH (fun ρ w' => ρ 3=.slice (aT g) ls.length ls.length∧St W [] [aa g (bM .i64 (fun s => if ls.getD s 0=0 then 0 else dq ls s) ls.length) 3] w') ?_ ?_
 case refine_1 =>
  refine Cb ?_
  refine Cl (fun mm ρ w' => ∃ k,1≤k∧k≤16∧mm=16 - k∧ρ 0=.slice (some ⟨b,o,none⟩) ls.length c∧ρ 3=.slice (aT g) ls.length ls.length∧ρ 4=iT (us ls k)∧ρ 5=iT k ∧
   St W [] [aa g (bM .i64 (fun s => if ls.getD s 0=0∨k≤ls.getD s 0 then 0 else dq ls s) ls.length) 3] w') 15
   ⟨1,ω,ω,rfl,rfl,rfl,rfl,rfl,by
    rw [aW (g:=fun _ => 0)]
    ·exact H
    ·intro j hj
     rw [if_pos ω]⟩ ?_
  clear H
  rintro mm ρ w5 ⟨k,hk1,hk,hmm,r0,r3,r4,r5,H⟩
  have hus:=xa ls hn hk
  refine Cs (Cy (ai η (Lp (sd O O) (Lt ?_))))
  by_cases hk16:k=16
  case pos =>
   subst hk16
   refine CF O ω (Cx (ax (ax (br (tn ?_)))))
   rw [aW (g:=fun s => if ls.getD s 0=0 then 0 else dq ls s)] at H
   ·exact ⟨r3,H⟩
   ·intro j hj
    have:ls.getD j 0≤15:=by rw [show ls.getD j 0=ls[j] by simp [hj]];exact h15 _ (List.getElem_mem hj)
    by_cases h:ls.getD j 0=0
    ·rw [if_pos h,if_pos (.inl h)]
    ·rw [if_neg h,if_neg ω]
  refine CT O ω (Ck (tn (Cs (Cb (Cy (ai η (Lp (cX (r:=((2 * us ls k:Nat):Int)) O O (by rw [fg ω];omega)) (az O (Lt (Cy (bU η (bG bh O (ai O (Lt (Cb ?_)))))))))))))))
  refine Cl (fun mm ρ w' => ∃ i,i≤ls.length∧mm=ls.length - i∧ρ 0=.slice (some ⟨b,o,none⟩) ls.length c∧ρ 3=.slice (aT g) ls.length ls.length∧ρ 4=iT (2 * us ls k+(ls.take i).count k)∧ρ 5=iT k ∧
   ρ 17=.slice (some ⟨b,o,none⟩) ls.length c∧ρ 18=iT ls.length∧ρ 19=iT i ∧
   St W [] [aa g (bM .i64 (fun s => if ls.getD s 0=0∨k+1≤ls.getD s 0∨(ls.getD s 0=k∧i≤s) then 0 else dq ls s) ls.length) 3] w') ls.length
   ⟨0,ω,rfl,r0,r3,by rw [List.take_zero];rfl,r5,rfl,rfl,rfl,by
    rw [aW (g:=fun s => if ls.getD s 0=0∨k≤ls.getD s 0 then 0 else dq ls s)]
    ·exact H
    ·intro j hj
     by_cases h:ls.getD j 0=0∨k≤ls.getD j 0
     ·rw [if_pos h,if_pos ω]
     ·rw [if_neg h,if_neg ω]⟩ ?_
  clear H r0 r3 r4 r5
  rintro mm2 ρ w6 ⟨i,hi,hmm2,r0,r3,r4,r5,r17,r18,r19,H⟩
  have hct:(ls.take i).count k≤ls.length:=Nat.le_trans (im ls i k) List.count_le_length
  refine Cy (bP η η (Lt ?_))
  by_cases hil:i=ls.length
  case pos =>
   subst hil
   refine Cs (CF O ω (Cx (ax (ax (br (aF (tn ?_)))))))
   rw [aW (g:=fun s => if ls.getD s 0=0∨k+1≤ls.getD s 0 then 0 else dq ls s) (fun j hj => by
    by_cases h:ls.getD j 0=0∨k+1≤ls.getD j 0
    ·rw [if_pos h,if_pos ω]
    ·rw [if_neg h,if_neg ω])] at H
   refine Cr (ai r5 (ao O O (ck (b:=1) ω) (az O (Lt ?_))))
   exact ⟨16 - (k+1),ω,k+1,ω,ω,O,r0,r3,by
    rw [List.take_length] at r4
    rw [us,if_neg ω]
    exact r4,O,H⟩
  have hlt:i<ls.length:=ω
  have hcell:=hr i hlt
  have hgd:ls.getD i 0=ls[i]:=by simp [hlt]
  have hcs:=gt ls i hlt k
  obtain ⟨x,hx⟩:∃ x,x=ls[i]:=⟨_,rfl⟩
  rw [← hx] at hcell hgd hcs
  refine Cs (CT O ω (Ck (tn (Cs (Cb (Cy (ai η (Lp (ci i bh r17 r19 O hlt) (aC a_ O (H.old hcell (by simp)) (az O (az O (Lt (Cy (ai O (ai r5 (bF O O ?_))))))))))))))))
  refine Lt ?_
  by_cases hxk:x=k
  case neg =>
   refine CF O ω (Ck (aF (tn (Cr (ao (r:=((i+1:Nat):Int)) r19 O (ck (b:=1) ω) (ai O (Lt ?_)))))))
   refine ⟨ls.length - (i+1),ω,i+1,ω,O,r0,r3,?_,r5,r17,r18,O,?_⟩
   ·rw [hcs,if_neg hxk]
    exact r4
   ·rw [aW (g:=fun s => if ls.getD s 0=0∨k+1≤ls.getD s 0∨(ls.getD s 0=k∧i≤s) then 0 else dq ls s)]
    ·exact H
    ·intro j hj
     by_cases hji:j=i
     ·subst hji
      by_cases h:ls.getD j 0=0∨k+1≤ls.getD j 0
      ·rw [if_pos ω,if_pos ω]
      ·rw [if_neg ω,if_neg ω]
     ·by_cases h:ls.getD j 0=0∨k+1≤ls.getD j 0∨(ls.getD j 0=k∧i≤j)
      ·rw [if_pos h,if_pos ω]
      ·rw [if_neg h,if_neg ω]
  rw [hxk] at hcell hgd hcs
  refine CT O ω (Cy (bU r3 (ai O (ai r4 (dU bh O O O (aP H 0 k_ O O O ω ?_))))))
  intro w H
  try simp only [List.set,List.eraseIdx] at H
  refine Lt (Cr (ai r4 (ao (r:=((2 * us ls k+(ls.take i).count k+1:Nat):Int)) O O (ck (b:=1) ω) (az O (Ln (aF (tn (Cr (ao (r:=((i+1:Nat):Int)) r19 O (ck (b:=1) ω) (ai O (Lt ?_)))))))))))
  refine ⟨ls.length - (i+1),ω,i+1,ω,O,r0,r3,?_,r5,r17,r18,O,?_⟩
  ·rw [hcs,if_pos rfl]
   rfl
  ·rw [aW (g:=fun s => if ls.getD s 0=0∨k+1≤ls.getD s 0∨(ls.getD s 0=k∧i+1≤s) then 0 else dq ls s)] at H
   ·exact H
   ·intro j hj
    by_cases hji:j=i
    ·subst hji
     rw [if_pos rfl,if_neg ω]
     unfold dq
     rw [hgd]
    ·rw [if_neg hji]
     by_cases h:ls.getD j 0=0∨k+1≤ls.getD j 0∨(ls.getD j 0=k∧i≤j)
     ·rw [if_pos h,if_pos ω]
     ·rw [if_neg h,if_neg ω]
 case refine_2 =>
 clear H
 rintro ρ w5 ⟨r3,H⟩
 refine Cy (bU η (gS O (Lt (Ct ?_))))
 exact ak O O ⟨g,hg,O,H.blk (i:=0) rfl,H.frm⟩
theorem uV (ls:List Nat):∀ k,dI ls (k+1)=2 * us ls (k+1)+2 ^ (k+1) * ls.count 0
 | 0 => by
  show (0+ls.count 0) * 2=2 * (2 * 0+0)+2 ^ 1 * ls.count 0
  omega
 | k+1 => by
  have h2:us ls (k+1+1)=2 * us ls (k+1)+ls.count (k+1):=by rw [us,if_neg ω]
  have h3:2 ^ (k+1+1) * ls.count 0=2 * (2 ^ (k+1) * ls.count 0):=by rw [Nat.pow_succ 2 (k+1),Nat.mul_comm (2 ^ (k+1)) 2,Nat.mul_assoc]
  rw [dI,uV ls k,h2,h3]
  omega
theorem tF {a b:Nat}:∀ l,(∀ i,i<l→a.testBit i=b.testBit i)→aB a l=aB b l
 | 0,_ => rfl
 | l+1,h => by rw [aB,aB,h l ω,tF l fun i hi => h i ω]
theorem zz (a m l:Nat):aB (a+2 ^ l * m) l=aB a l :=
 tF l fun i hi => by
  have h1:=Nat.testBit_mod_two_pow (a+2 ^ l * m) l i
  have h2:=Nat.testBit_mod_two_pow a l i
  rw [Nat.add_mul_mod_self_left] at h1
  simp only [hi,decide_true,Bool.true_and] at h1 h2
  rw [← h1,← h2]
theorem mZ (ls:List Nat) (s:Nat) (h:ls.getD s 0≠0):lT (dq ls s) (ls.getD s 0)=aB (cS ls s) (ls.getD s 0):=by
 obtain ⟨k,hk⟩:∃ k,ls.getD s 0=k+1:=⟨ls.getD s 0 - 1,ω⟩
 rw [lq]
 unfold dq cS
 rw [if_neg h,hk,uV,show 2 * us ls (k+1)+2 ^ (k+1) * ls.count 0+(ls.take s).count (k+1)=2 * us ls (k+1)+(ls.take s).count (k+1)+2 ^ (k+1) * ls.count 0 by omega,zz]
end Go.Proofs.YtmgemcffhbnpfaaGreatDoor
namespace Go.Proofs.YtmgemcffhbnpfaaGreatDoor
def room (l:Nat):Nat:=if l=0 then 0 else 2 ^ (15 - l)
def eD (ls:List Nat):Nat:=(ls.map room).sum
def ez (ls:List Nat) (l:Nat):Nat:=(ls.map fun x => if x<l then room x else 0).sum
theorem oW (ls:List Nat) (l:Nat):ez ls l≤eD ls:=by
 induction ls with
 | nil => simp [ez,eD]
 | cons a r ih =>
  simp only [ez,eD,List.map_cons,List.sum_cons] at ih ⊢
  split <;> omega
theorem qe (ls:List Nat) {l m:Nat} (h:l≤m):ez ls l≤ez ls m:=by
 induction ls with
 | nil => simp [ez]
 | cons a r ih =>
  simp only [ez,List.map_cons,List.sum_cons] at ih ⊢
  split <;> split <;> omega
theorem nf (ls:List Nat) (l:Nat):ez ls (l+1)=ez ls l+ls.count l * room l:=by
 induction ls with
 | nil => simp [ez]
 | cons a r ih =>
  simp only [ez,List.map_cons,List.sum_cons,List.count_cons,beq_iff_eq] at ih ⊢
  rw [ih]
  by_cases h:a=l
  ·subst h
   simp only [if_pos (show a<a+1 by omega),if_neg (Nat.lt_irrefl a),if_true,Nat.add_mul,Nat.one_mul]
   omega
  ·simp only [if_neg h,Nat.add_zero]
   by_cases h2:a<l
   ·simp only [if_pos (show a<l+1 by omega),if_pos h2];omega
   ·simp only [if_neg (show ¬ a<l+1 by omega),if_neg h2];omega
def pC (ls:List Nat):Nat→Nat
 | 0 => 0
 | k+1 => (pC ls k+if k=0 then 0 else ls.count k) * 2
theorem oM (ls:List Nat):∀ k,1≤k→dI ls k=pC ls k+ls.count 0 * 2 ^ k
 | 0,h => ω
 | 1,_ => by simp [dI,pC]
 | k+2,_ => by
  have ih:=oM ls (k+1) ω
  have e1:pC ls (k+2)=(pC ls (k+1)+ls.count (k+1)) * 2:=by rw [pC,if_neg ω]
  have e2:dI ls (k+2)=(dI ls (k+1)+ls.count (k+1)) * 2:=rfl
  rw [e1,e2,ih,Nat.pow_succ 2 (k+1),← Nat.mul_assoc]
  omega
theorem xd (ls:List Nat):∀ k,1≤k→k≤15→pC ls k * 2 ^ (15 - k)=ez ls k
 | 0,h,_ => ω
 | 1,_,_ => by
  rw [nf]
  have:ez ls 0=0:=by
   unfold ez
   induction ls with
   | nil => rfl
   | cons a r ih => simpa using ih
  simp [pC,this,room]
 | k+2,_,h => by
  have ih:=xd ls (k+1) ω ω
  rw [nf,← ih,pC,if_neg ω,room,if_neg ω,show 15 - (k+1)=(15 - (k+2))+1 by omega,Nat.pow_succ,← Nat.add_mul,Nat.mul_assoc,Nat.mul_comm 2]
def lh (ls:List Nat) (s:Nat):Nat:=ez ls (ls.getD s 0)+(ls.take s).count (ls.getD s 0) * room (ls.getD s 0)
theorem oj {ls:List Nat} {s:Nat} (hs:s<ls.length):lh ls s+room (ls.getD s 0)≤ez ls (ls.getD s 0+1):=by
 have h1:=gt ls s hs (ls.getD s 0)
 have hg:ls.getD s 0=ls[s]:=by simp [hs]
 rw [if_pos hg.symm] at h1
 have h2:=im ls (s+1) (ls.getD s 0)
 rw [nf,lh]
 have h3:((ls.take s).count (ls.getD s 0)+1) * room (ls.getD s 0)≤ls.count (ls.getD s 0) * room (ls.getD s 0):=Nat.mul_le_mul_right _ ω
 rw [Nat.add_mul,Nat.one_mul] at h3
 omega
theorem AN {ls:List Nat} {s s':Nat} (hs:s<ls.length) (hs':s'<ls.length) (hne:s≠s'):lh ls s+room (ls.getD s 0)≤lh ls s'∨lh ls s'+room (ls.getD s' 0)≤lh ls s:=by
 rcases Nat.lt_trichotomy (ls.getD s 0) (ls.getD s' 0) with h | h | h
 ·left
  have h1:=oj hs
  have h2:=qe ls (show ls.getD s 0+1≤ls.getD s' 0 by omega)
  have h3:ez ls (ls.getD s' 0)≤lh ls s':=by unfold lh;omega
  omega
 ·have key:∀ {a b:Nat},a<b→b<ls.length→ls.getD a 0=ls.getD b 0→lh ls a+room (ls.getD a 0)≤lh ls b:=by
   intro a b hab hb he
   have h1:=gt ls a ω (ls.getD a 0)
   have hg:ls.getD a 0=ls[a]'ω:=by simp [show a<ls.length by omega]
   rw [if_pos hg.symm] at h1
   have h2:(ls.take (a+1)).count (ls.getD a 0)≤(ls.take b).count (ls.getD a 0):=(List.take_sublist_take_left ω).count_le _
   unfold lh
   rw [← he]
   have h3:((ls.take a).count (ls.getD a 0)+1) * room (ls.getD a 0)≤(ls.take b).count (ls.getD a 0) * room (ls.getD a 0):=Nat.mul_le_mul_right _ ω
   rw [Nat.add_mul,Nat.one_mul] at h3
   omega
  rcases Nat.lt_or_gt_of_ne hne with h4 | h4
  ·exact .inl (key h4 hs' h)
  ·exact .inr (key h4 hs h.symm)
 ·right
  have h1:=oj hs'
  have h2:=qe ls (show ls.getD s' 0+1≤ls.getD s 0 by omega)
  have h3:ez ls (ls.getD s 0)≤lh ls s:=by unfold lh;omega
  omega
def B7 (ls:List Nat) (s:Nat):Nat:=pC ls (ls.getD s 0)+(ls.take s).count (ls.getD s 0)
theorem uA {ls:List Nat} {s:Nat} (h0:ls.getD s 0≠0) (h15:ls.getD s 0≤15):B7 ls s * 2 ^ (15 - ls.getD s 0)=lh ls s:=by
 unfold B7 lh
 rw [Nat.add_mul,xd ls _ ω h15,room,if_neg h0]
theorem AA {ls:List Nat} {s:Nat} (h0:ls.getD s 0≠0):aB (cS ls s) (ls.getD s 0)=aB (B7 ls s) (ls.getD s 0):=by
 refine mP ?_
 unfold cS B7
 rw [if_neg h0,oM ls _ ω,show pC ls (ls.getD s 0)+ls.count 0 * 2 ^ ls.getD s 0+(ls.take s).count (ls.getD s 0)=pC ls (ls.getD s 0)+(ls.take s).count (ls.getD s 0)+ls.count 0 * 2 ^ ls.getD s 0 by omega,Nat.add_mul_mod_self_right]
theorem BH {x y l m:Nat} (hl:l≤m) (hx:x<2 ^ l) (hy:y<2 ^ m) (h:aB x l <+: aB y m):x=y / 2 ^ (m - l):=by
 obtain ⟨j,rfl⟩:∃ j,m=l+j:=⟨m - l,ω⟩
 rw [jZ] at h
 have h1:aB x l=aB (y >>> j) l:=by
  have h2:=List.prefix_iff_eq_take.1 h
  rw [bV,List.take_left' (bV _ _)] at h2
  exact h2
 have h3:=j4 l _ _ h1
 rw [Nat.shiftRight_eq_div_pow] at h3
 rw [show l+j - l=j by omega]
 rw [Nat.pow_add] at hy
 have h4:y / 2 ^ j<2 ^ l:=Nat.div_lt_of_lt_mul (by rw [Nat.mul_comm];exact hy)
 rw [Nat.mod_eq_of_lt hx,Nat.mod_eq_of_lt h4] at h3
 exact h3
theorem u6 {ls:List Nat} {s s':Nat} (hs:s<ls.length) (hs':s'<ls.length) (hne:s≠s') (h0:ls.getD s 0≠0) (h0':ls.getD s' 0≠0) (h15:ls.getD s 0≤15) (h15':ls.getD s' 0≤15) (hk:eD ls≤2 ^ 15) :
  pH (aB (cS ls s) (ls.getD s 0)) (aB (cS ls s') (ls.getD s' 0)):=by
 have key:∀ {a b:Nat},a<ls.length→b<ls.length→a≠b→ls.getD a 0≠0→ls.getD b 0≠0→ls.getD a 0≤15→ls.getD b 0≤15→¬ aB (B7 ls a) (ls.getD a 0) <+: aB (B7 ls b) (ls.getD b 0):=by
  intro a b ha hb hab ha0 hb0 ha15 hb15 hp
  have hla:=uA ha0 ha15
  have hlb:=uA hb0 hb15
  have hea:=oj ha
  have heb:=oj hb
  have hka:=oW ls (ls.getD a 0+1)
  have hkb:=oW ls (ls.getD b 0+1)
  have hap:=AN ha hb hab
  have hl:ls.getD a 0≤ls.getD b 0:=by have:=hp.length_le;rwa [bV,bV] at this
  generalize B7 ls a=x at *
  generalize B7 ls b=y at *
  generalize lh ls a=pa at *
  generalize lh ls b=pb at *
  generalize ls.getD a 0=l at *
  generalize ls.getD b 0=m at *
  have hra:room l=2 ^ (15 - l):=if_neg ha0
  have hrb:room m=2 ^ (15 - m):=if_neg hb0
  rw [hra] at hea hap
  rw [hrb] at heb hap
  have hpl:=Nat.two_pow_pos (15 - l)
  have hpm:=Nat.two_pow_pos (15 - m)
  have hx:x<2 ^ l:=by
   have h1:x * 2 ^ (15 - l)<2 ^ 15:=ω
   rw [show 15=l+(15 - l) by omega,show l+(15 - l) - l=15 - l by omega,Nat.pow_add] at h1
   exact Nat.lt_of_mul_lt_mul_right h1
  have hy:y<2 ^ m:=by
   have h1:y * 2 ^ (15 - m)<2 ^ 15:=ω
   rw [show 15=m+(15 - m) by omega,show m+(15 - m) - m=15 - m by omega,Nat.pow_add] at h1
   exact Nat.lt_of_mul_lt_mul_right h1
  have he:=BH hl hx hy hp
  have hpow:2 ^ (15 - l)=2 ^ (m - l) * 2 ^ (15 - m):=by rw [← Nat.pow_add];congr 1;omega
  have hdm:=Nat.div_add_mod y (2 ^ (m - l))
  have hlt:=Nat.mod_lt y (Nat.two_pow_pos (m - l))
  rw [← he] at hdm
  generalize y % 2 ^ (m - l)=r at *
  have h3:y * 2 ^ (15 - m)=x * 2 ^ (15 - l)+r * 2 ^ (15 - m):=by
   rw [hpow,← hdm,Nat.add_mul]
   congr 1
   rw [Nat.mul_comm (2 ^ (m - l)) x,Nat.mul_assoc]
  have h4:(r+1) * 2 ^ (15 - m)≤2 ^ (m - l) * 2 ^ (15 - m):=Nat.mul_le_mul_right _ ω
  rw [← hpow,Nat.add_mul,Nat.one_mul] at h4
  omega
 rw [AA h0,AA h0']
 exact ⟨key hs hs' hne h0 h0' h15 h15',key hs' hs (Ne.symm hne) h0' h0 h15' h15⟩
def PT.room (d:Nat):PT→Nat
 | .e => 0
 | .l _ => 2 ^ d
 | .n a b => match d with
  | 0 => 0
  | d+1 => PT.room d a+PT.room d b
def PT.fits:Nat→PT→Prop
 | _,.e => True
 | _,.l _ => True
 | 0,.n _ _ => False
 | d+1,.n a b => a.fits d∧b.fits d
theorem pe:∀ (d:Nat) (t:PT),t.fits d→t.room d≤2 ^ d
 | d,.e,_ => by simp [PT.room]
 | d,.l _,_ => by simp [PT.room]
 | 0,.n _ _,h => h.elim
 | d+1,.n a b,h => by
  have h1:=pe d a h.1
  have h2:=pe d b h.2
  simp only [PT.room,Nat.pow_succ]
  omega
theorem oO:∀ (d:Nat) (t:PT),t.fits d→t.room d=2 ^ d→t.empties=0
 | d,.e,_,h => by have:=Nat.two_pow_pos d;simp only [PT.room] at h;omega
 | d,.l _,_,_ => rfl
 | 0,.n _ _,h,_ => h.elim
 | d+1,.n a b,h,hr => by
  have h1:=pe d a h.1
  have h2:=pe d b h.2
  simp only [PT.room,Nat.pow_succ] at hr
  have h3:=oO d a h.1 ω
  have h4:=oO d b h.2 ω
  simp [PT.empties,h3,h4]
theorem PT.ins_free:∀ (t:PT) (p:aM) (s d:Nat),t.fits d→p.length≤d→(∀ q,iR t q→pH p q)→t.obs p≠.inner →
  ∃ t',t.ins p s=some t'∧t'.fits d∧t'.room d=t.room d+2 ^ (d - p.length)∧t.inner≤t'.inner
 | .e,[],s,d,hf,hp,ha,ho => ⟨.l s,rfl,by simp [PT.fits],by simp [PT.room],by simp [PT.inner]⟩
 | .l s0,p,s,d,hf,hp,ha,ho => absurd (List.nil_prefix) (ha [] ⟨s0,rfl⟩).2
 | .n a b,[],s,d,hf,hp,ha,ho => absurd rfl ho
 | .e,c :: p,s,0,hf,hp,ha,ho => by simp at hp
 | .e,true :: p,s,d+1,hf,hp,ha,ho => by
  obtain ⟨t',h1,h2,h3,h4⟩:=PT.ins_free .e p s d (by simp [PT.fits]) (by simpa using hp) (fun q ⟨s,hq⟩ => by cases q <;> simp [PT.obs] at hq) (by cases p <;> simp [PT.obs])
  exact ⟨.n .e t',by simp [PT.ins,h1],⟨by simp [PT.fits],h2⟩,by simp [PT.room] at h3 ⊢;omega,by simp [PT.inner]⟩
 | .e,false :: p,s,d+1,hf,hp,ha,ho => by
  obtain ⟨t',h1,h2,h3,h4⟩:=PT.ins_free .e p s d (by simp [PT.fits]) (by simpa using hp) (fun q ⟨s,hq⟩ => by cases q <;> simp [PT.obs] at hq) (by cases p <;> simp [PT.obs])
  exact ⟨.n t' .e,by simp [PT.ins,h1],⟨h2,by simp [PT.fits]⟩,by simp [PT.room] at h3 ⊢;omega,by simp [PT.inner]⟩
 | .n a b,c :: p,s,0,hf,hp,ha,ho => hf.elim
 | .n a b,true :: p,s,d+1,hf,hp,ha,ho => by
  obtain ⟨t',h1,h2,h3,h4⟩:=PT.ins_free b p s d hf.2 (by simpa using hp) (fun q hq => (ha (true :: q) hq).tail) ho
  exact ⟨.n a t',by simp [PT.ins,h1],⟨hf.1,h2⟩,by simp [PT.room] at h3 ⊢;omega,by simp [PT.inner];omega⟩
 | .n a b,false :: p,s,d+1,hf,hp,ha,ho => by
  obtain ⟨t',h1,h2,h3,h4⟩:=PT.ins_free a p s d hf.1 (by simpa using hp) (fun q hq => (ha (false :: q) hq).tail) ho
  exact ⟨.n t' b,by simp [PT.ins,h1],⟨h2,hf.2⟩,by simp [PT.room] at h3 ⊢;omega,by simp [PT.inner];omega⟩
def zU (t:PT):Prop:=∀ p,t.obs p=.inner→∃ q,iR t (p++q)
theorem yf:∀ (t:PT) (p:aM) (s:Nat) (t':PT),t.ins p s=some t'→zU t→zU t'
 | t,p,s,t',h,hc => by
  intro q hq
  by_cases h1:q <+: p
  ·obtain ⟨r,rfl⟩:=h1
   exact ⟨r,zc h⟩
  ·by_cases h2:p <+: q
   ·obtain ⟨r,rfl⟩:=h2
    rw [eQ t p s t' h r] at hq
    cases hq
   ·rw [fL t p q s t' h ⟨h2,h1⟩] at hq
    obtain ⟨r,hr⟩:=hc q hq
    exact ⟨r,mv t _ p s t' h hr⟩
theorem qr {cap:Nat}:∀ (ps:List (aM × Nat)) (t:PT),(ps.map (·.1)).Pairwise pH→(∀ p ∈ ps,p.1.length≤15∧∀ q,iR t q→pH p.1 q)→t.fits 15→zU t →
  (∀ (t':PT),t.inner≤t'.inner→True) →
  ∃ t',(∀ cap,2 * t'.inner+1≤cap→eJ cap t ps=some t')∧t'.fits 15∧t'.room 15=t.room 15+(ps.map fun p => 2 ^ (15 - p.1.length)).sum∧t.inner≤t'.inner ∧
   (∀ p ∈ ps,t'.obs p.1=.leaf p.2 0)∧(∀ q s,t.obs q=.leaf s 0→t'.obs q=.leaf s 0)
 | [],t,hp,ha,hf,hc,_ => ⟨t,fun _ _ => rfl,hf,by simp,Nat.le_refl _,by simp,fun _ _ h => h⟩
 | (p,s) :: r,t,hp,ha,hf,hc,_ => by
  rw [List.map_cons,List.pairwise_cons] at hp
  obtain ⟨hp15,hpa⟩:=ha (p,s) (by simp)
  have hno:t.obs p≠.inner:=fun ho => by
   obtain ⟨q,hq⟩:=hc p ho
   exact (hpa _ hq).1 (List.prefix_append p q)
  obtain ⟨t1,h1,h2,h3,h4⟩:=t.ins_free p s 15 hf hp15 hpa hno
  obtain ⟨t',g1,g2,g3,g4,g5,g6⟩:=qr (cap:=cap) r t1 hp.2 (fun p' hp' => ⟨(ha p' (List.mem_cons_of_mem _ hp')).1,fun q hq => by
   rcases je t p q s t1 h1 hq with rfl | h5
   ·have:=hp.1 p'.1 (List.mem_map_of_mem hp')
    exact ⟨this.2,this.1⟩
   ·exact (ha p' (List.mem_cons_of_mem _ hp')).2 q h5⟩) h2 (yf t p s t1 h1 hc) (fun _ _ => trivial)
  refine ⟨t',fun cap' hcap => ?_,g2,by rw [g3,h3];simp only [List.map_cons,List.sum_cons];omega,ω,fun p' hp' => ?_,fun q s' hq => ?_⟩
  ·simp only [eJ,nY,h1]
   rw [if_pos ω]
   exact g1 cap' hcap
  ·rcases List.mem_cons.1 hp' with rfl | hp'
   ·refine g6 _ _ ?_
    have:=eQ t p s t1 h1 []
    simpa using this
   ·exact g5 p' hp'
  ·refine g6 q s' ?_
   rw [fL t p q s t1 h1 (hpa q ⟨s',hq⟩)]
   exact hq
theorem nX (ls:List Nat):∀ k i,k=ls.length - i→((gK ls i).map fun p => 2 ^ (15 - p.1.length)).sum=eD (ls.drop i)
 | 0,i,h => by rw [List.drop_eq_nil_of_le ω];simp [gK,← h,eD]
 | k+1,i,h => by
  have hi:i<ls.length:=ω
  have ih:=nX ls k (i+1) ω
  rw [nr hi,List.drop_eq_getElem_cons hi]
  have hg:ls.getD i 0=ls[i]:=by simp [hi]
  rw [hg]
  unfold eD at ih ⊢
  rw [List.map_cons,List.sum_cons]
  by_cases h0:ls[i]=0
  ·simp [h0,ih,room]
  ·simp [h0,ih,room,bV]
theorem pV:∀ (t:PT) (u:T) (q:aM) (s k:Nat),t.toT=some u→t.obs q=.leaf s k→∃ r,u.adv q=(.leaf s,r)∧r.length=k
 | .e,u,q,s,k,h,_ => by cases h
 | .l s0,u,q,s,k,h,ho => by
  simp only [PT.toT,Option.some.injEq] at h
  subst h
  simp only [PT.obs,K_.leaf.injEq] at ho
  obtain ⟨rfl,rfl⟩:=ho
  exact ⟨q,O,O⟩
 | .n a b,u,[],s,k,h,ho => by simp [PT.obs] at ho
 | .n a b,u,true :: q,s,k,h,ho => by
  simp only [PT.toT] at h
  split at h
  ·rename_i x y hx hy
   simp only [Option.some.injEq] at h
   subst h
   exact pV b y q s k hy ho
  ·cases h
 | .n a b,u,false :: q,s,k,h,ho => by
  simp only [PT.toT] at h
  split at h
  ·rename_i x y hx hy
   simp only [Option.some.injEq] at h
   subst h
   exact pV a x q s k hx ho
  ·cases h
theorem tT {ls:List Nat} (h2:2≤ls.countP (·≠0)) (h15:∀ x ∈ ls,x≤15) (hk:eD ls=2 ^ 15) :
  ∃ u,dX ls=some u∧∀ s,s<ls.length→ls.getD s 0≠0→∀ Y,u.walk (aB (cS ls s) (ls.getD s 0)++Y)=some (s,Y):=by
 have hget:∀ s,s<ls.length→ls.getD s 0≤15:=fun s hs => by
  have:ls.getD s 0=ls[s]:=by simp [hs]
  rw [this];exact h15 _ (List.getElem_mem hs)
 have hpw:((dw ls).map (·.1)).Pairwise pH:=by
  unfold dw
  rw [List.pairwise_map,List.pairwise_filterMap]
  refine (List.pairwise_lt_range (n:=ls.length)).imp_of_mem ?_
  intro i j hi hj hij x hx y hy
  rw [List.mem_range] at hi hj
  unfold pq at hx hy
  split at hx
  ·cases hx
  ·split at hy
   ·cases hy
   ·rename_i h1 h2
    simp only [Option.some.injEq] at hx hy
    subst hx hy
    exact u6 hi hj ω h1 h2 (hget i hi) (hget j hj) ω
 have hmem:∀ p ∈ dw ls,∃ s,s<ls.length∧ls.getD s 0≠0∧p=(aB (cS ls s) (ls.getD s 0),s):=by
  intro p hp
  unfold dw at hp
  rw [List.mem_filterMap] at hp
  obtain ⟨i,hi,he⟩:=hp
  unfold pq at he
  split at he
  ·cases he
  ·rename_i h0
   simp only [Option.some.injEq] at he
   exact ⟨i,List.mem_range.1 hi,h0,he.symm⟩
 obtain ⟨t,g1,g2,g3,g4,g5,g6⟩:=qr (cap:=0) (dw ls) .e hpw (fun p hp => by
  obtain ⟨s,hs,h0,rfl⟩:=hmem p hp
  refine ⟨by rw [bV];exact hget s hs,fun q ⟨s',hq⟩ => by cases q <;> simp [PT.obs] at hq⟩) trivial (fun p hp => by cases p <;> simp [PT.obs] at hp) (fun _ _ => trivial)
 have hroom:=nX ls _ 0 rfl
 rw [kK,List.drop_zero,hk] at hroom
 rw [hroom] at g3
 have hem:=oO 15 t g2 (by simpa [PT.room] using g3)
 obtain ⟨u,hu⟩:=t.full hem
 have hcap:2 * t.inner+1≤2 * ls.countP (·≠0) - 1:=by
  have hcnt:=t.count
  have hall:=g1 (2 * t.inner+1) (Nat.le_refl _)
  have hnd:((dw ls).map (·.1)).Nodup:=hpw.imp fun {a b} (h:pH a b) => fun (e:a=b) => h.1 (e ▸ List.prefix_rfl)
  have hlv:=n6 (dw ls) .e t hall hnd (fun p _ ⟨s,hs⟩ => by cases p <;> simp [PT.obs] at hs)
  rw [pw] at hlv
  simp only [PT.leaves] at hlv
  omega
 refine ⟨u,?_,fun s hs h0 Y => ?_⟩
 ·unfold dX
  rw [if_neg ω,if_neg ω,if_neg (by
   intro h
   rw [List.any_eq_true] at h
   obtain ⟨x,hx,hx2⟩:=h
   have:=h15 x hx
   simp only [decide_eq_true_eq] at hx2
   omega),g1 _ hcap]
  exact hu
 ·have hm:(aB (cS ls s) (ls.getD s 0),s) ∈ dw ls:=List.mem_filterMap.2 ⟨s,List.mem_range.2 hs,by unfold pq;rw [if_neg h0]⟩
  have ho:=g5 _ hm
  obtain ⟨r,hr1,hr2⟩:=pV t u _ s 0 hu ho
  have hr:r=[]:=List.length_eq_zero_iff.1 hr2
  subst hr
  rw [rK,hr1]
  rfl
theorem sz {ls:List Nat} (h1:ls.countP (·≠0)=1) {s:Nat} (hs:s<ls.length) (h0:ls.getD s 0≠0):dX ls=some (.leaf s):=by
 unfold dX
 rw [if_neg ω,if_pos h1]
 congr 2
 have hone:∀ j,j<ls.length→ls.getD j 0≠0→j=s:=by
  intro j hj hj0
  refine Classical.byContradiction fun hne => ?_
  have hg:∀ i (hi:i<ls.length),ls.getD i 0=ls[i]:=fun i hi => by simp [hi]
  have key:∀ {a b:Nat},a<b→b<ls.length→ls.getD a 0≠0→ls.getD b 0≠0→2≤ls.countP (·≠0):=by
   intro a b hab hb ha0 hb0
   have h3:ls=ls.take b++ls.drop b:=(List.take_append_drop b ls).symm
   rw [h3,List.countP_append]
   have h4:0<(ls.take b).countP (·≠0):=List.countP_pos_iff.2 ⟨ls[a]'ω,by
    rw [List.mem_take_iff_getElem]
    exact ⟨a,ω,O⟩,by rw [← hg a ω];simpa using ha0⟩
   have h5:0<(ls.drop b).countP (·≠0):=List.countP_pos_iff.2 ⟨ls[b],by
    rw [List.drop_eq_getElem_cons hb];exact List.mem_cons_self,by rw [← hg b hb];simpa using hb0⟩
   omega
  rcases Nat.lt_or_gt_of_ne hne with h | h
  ·have:=key h hs hj0 h0;omega
  ·have:=key h hj h0 hj0;omega
 have key:∀ n,n≤ls.length→(List.range n).foldl (fun a i => if ls.getD i 0=0 then a else i) 0=if s<n then s else 0:=by
  intro n
  induction n with
  | zero => intro _;rfl
  | succ n ih =>
   intro hn
   rw [List.range_succ,List.foldl_append,List.foldl_cons,List.foldl_nil,ih ω]
   by_cases hn0:ls.getD n 0=0
   ·rw [if_pos hn0]
    by_cases h:s<n
    ·rw [if_pos h,if_pos ω]
    ·rw [if_neg h,if_neg (by
      intro h2
      have:s=n:=ω
      exact h0 (this ▸ hn0))]
   ·rw [if_neg hn0]
    have:=hone n ω hn0
    subst this
    rw [if_pos ω]
 unfold j7
 rw [key _ (Nat.le_refl _),if_pos hs]
end Go.Proofs.YtmgemcffhbnpfaaGreatDoor
namespace Go.Proofs.YtmgemcffhbnpfaaGreatDoor
open Go
theorem bT.pre {w:World} {g c e n c' m:Nat} {xs:List Value} (h:bT w (aT g) c e 1 n xs) (hm:m≤n) (hmc:m≤c') (hc:c'≤c):bT w (aT g) c' e 1 m (xs.take m):=by
 rcases h with ⟨h0,_⟩ | ⟨g',cur,h0,h1,h2,h3,h4,rfl⟩
 ·cases h0
 ·cases h0
  exact .inr ⟨g,cur,O,h1,hmc,ω,ω,by rw [List.take_take];congr 1;omega⟩
theorem Ho {P:Program} {e:Operand→Value} {d:Option Tmp} {ty:TypeId} {pos:String} {after:Array Edge} {g:Option (Nat × Bool)} {w:World} {t:TypeId} {x hi mx:Operand} {k k':IntKind} {m m':Int} {el size:Nat} {b off l c:Nat} (j:Nat) (F:SL P t el size) (hx:e x=.slice (some ⟨b,off,none⟩) l c) (h1:e hi=.int k m) (h2:e mx=.int k' m') (hp:m=(j:Int)) (hq:m'=(j:Int)) (hj:j≤c) :
  dE P e ⟨d,.slice t x none (some hi) (some mx),ty,pos,after,g⟩ w (.slice (some ⟨b,off,none⟩) j j) w:=by
 subst hp hq
 unfold dE
 simp only [execOp,hx,Option.map_none,Option.map_some,h1,h2,Sem.run_bind,Instr.sliceAt,Instr.slice,run_underlying F.1,Result.andThen_ok,Instr.sliceBounds,Instr.sliceBound,asIntOf,Sem.run_pure,if_pos (show 0≤(j:Int)∧(j:Int)≤(c:Int) by omega),if_pos (show 0≤(j:Int)∧(j:Int)≤(j:Int) by omega),Int.toNat_natCast,FF F.2 w]
 by_cases hc:j=0
 ·subst hc
  simp
 ·rw [if_neg hc]
  simp [Addr.add]
theorem zf {P:Program} {e:Operand→Value} {d:Option Tmp} {ty:TypeId} {pos:String} {after:Array Edge} {g:Option (Nat × Bool)} {w:World} {t:TypeId} {x lo:Operand} {k:IntKind} {m:Int} {el size:Nat} {b off l c:Nat} (p:Nat) (F:SL P t el size) (hx:e x=.slice (some ⟨b,off,none⟩) l c) (h1:e lo=.int k m) (hp:m=(p:Int)) (hpq:p≤l) :
  dE P e ⟨d,.slice t x (some lo) none none,ty,pos,after,g⟩ w (.slice (some ⟨b,if c=p then off else off+p * size,none⟩) (l - p) (c - p)) w:=by
 subst hp
 unfold dE
 simp only [execOp,hx,Option.map_none,Option.map_some,h1,Sem.run_bind,Instr.sliceAt,Instr.slice,run_underlying F.1,Result.andThen_ok,Instr.sliceBounds,Instr.sliceBound,asIntOf,Sem.run_pure,if_pos (show 0≤(p:Int)∧(p:Int)≤(l:Int) by omega),Int.toNat_natCast,FF F.2 w]
 by_cases hc:c=p
 ·rw [if_pos hc,if_pos hc]
 ·rw [if_neg hc,if_neg hc]
  simp [Addr.add]
def Ma (out:List Nat) (l:List (Nat × Nat)):List Nat:=l.foldl (fun o q => o.set q.1 q.2) out
theorem uI:∀ (out:List Nat) (s v:Nat),s<out.length→out.getD s 0=0→eD (out.set s v)=eD out+room v
 | [],s,v,h,_ => by simp at h
 | a :: out,0,v,h,h0 => by
  simp at h0
  subst h0
  simp [eD,room]
  omega
 | a :: out,s+1,v,h,h0 => by
  have:=uI out s v (by simpa using h) (by simpa using h0)
  simp only [eD,List.set_cons_succ,List.map_cons,List.sum_cons] at this ⊢
  omega
def bS (u:Nat→Bool) (i:Nat):List Nat:=(List.range i).filter u
theorem mT (u:Nat→Bool) (i:Nat):bS u (i+1)=if u i then bS u i++[i] else bS u i:=by
 unfold bS
 rw [List.range_succ,List.filter_append]
 split
 next h => simp [h]
 next h => simp [h]
theorem mV (u:Nat→Bool) (i:Nat):(bS u i).length≤i:=by
 have:=List.length_filter_le u (List.range i)
 simpa [bS] using this
structure pt (u:Nat→Bool) (n most:Nat) (ls:List Nat):Prop where
 len:ls.length=n
 used:∀ s,s<n→(ls.getD s 0≠0 ↔ u s=true)
 most:∀ x ∈ ls,x≤most
 full:2≤(bS u n).length→eD ls=2 ^ 15
 one:∀ s,bS u n=[s]→ls.getD s 0=1
structure xE (u:Nat→Bool) (n m0:Nat) (l out:List Nat) (long:Nat):Prop where
 len:out.length=n
 nodup:l.Nodup
 inl:∀ s ∈ l,s<n∧out.getD s 0=0
 used:∀ s,s<n→(u s=true ↔ out.getD s 0≠0∨s ∈ l)
 fits:l≠[]→eD out+2 ^ (15 - long)=2 ^ 15
 le:∀ x ∈ out,x≤long
 sum:long+l.length=m0
theorem lW (l:List Nat) (s x v:Nat) (hs:s<l.length):(l.set s v).getD x 0=if x=s then v else l.getD x 0:=by
 simp only [List.getD_eq_getElem?_getD,List.getElem?_set]
 by_cases h:s=x
 ·subst h;simp [hs]
 ·rw [if_neg h,if_neg (fun e => h e.symm)]
theorem yZ (n s:Nat):(List.replicate n 0).getD s 0=0:=by
 rw [List.getD_eq_getElem?_getD,List.getElem?_replicate]
 split <;> rfl
theorem vF:∀ n,eD (List.replicate n 0)=0
 | 0 => rfl
 | n+1 => by
  have:=vF n
  simp only [eD,List.replicate_succ,List.map_cons,List.sum_cons] at this ⊢
  rw [this]
  rfl
theorem Dh (u:Nat→Bool) (n:Nat):xE u n (bS u n).length (bS u n) (List.replicate n 0) 0:=by
 refine ⟨List.length_replicate,List.nodup_range.filter _,fun s hs => ?_,fun s hs => ?_,fun _ => ?_,fun x hx => ?_,ω⟩
 ·have:=List.mem_filter.1 hs
  exact ⟨List.mem_range.1 this.1,yZ n s⟩
 ·rw [yZ]
  unfold bS
  rw [List.mem_filter,List.mem_range]
  simp [hs]
 ·rw [vF]
 ·rw [List.eq_of_mem_replicate hx]
  exact Nat.le_refl _
theorem xE.pick {u:Nat→Bool} {n m0 long x:Nat} {A B out:List Nat} (h:xE u n m0 (A++x :: B) out long) (hne:A++B≠[]) (hl:long+1≤15):xE u n m0 (A++B) (out.set x (long+1)) (long+1):=by
 have hx:=h.inl x (by simp)
 have hxl:x<out.length:=by rw [h.len];exact hx.1
 have hnd:=h.nodup
 rw [List.nodup_append,List.nodup_cons] at hnd
 obtain ⟨hA,⟨hxB,hB⟩,hAB⟩:=hnd
 have hxA:x ∉ A:=fun hm => hAB x hm x (by simp) rfl
 refine ⟨by rw [List.length_set];exact h.len,?_,fun s hs => ?_,fun s hs => ?_,fun _ => ?_,fun y hy => ?_,?_⟩
 ·rw [List.nodup_append]
  exact ⟨hA,hB,fun a ha b hb => hAB a ha b (List.mem_cons_of_mem _ hb)⟩
 ·have hs':s ∈ A++x :: B:=by
   rcases List.mem_append.1 hs with h | h
   ·exact List.mem_append.2 (.inl h)
   ·exact List.mem_append.2 (.inr (List.mem_cons_of_mem _ h))
  have hne:s≠x:=by
   rintro rfl
   rcases List.mem_append.1 hs with h | h
   ·exact hxA h
   ·exact hxB h
  rw [lW _ _ _ _ hxl,if_neg hne]
  exact h.inl s hs'
 ·rw [lW _ _ _ _ hxl,h.used s hs]
  by_cases e:s=x
  ·subst e;simp
  ·rw [if_neg e]
   simp [e]
 ·rw [uI _ _ _ hxl hx.2]
  have:=h.fits (by simp)
  unfold room
  rw [if_neg ω,Nat.add_assoc,show 2 ^ (15 - (long+1))+2 ^ (15 - (long+1))=2 ^ (15 - long) by
   rw [show 15 - long=(15 - (long+1))+1 by omega,Nat.pow_succ]
   omega]
  exact this
 ·rcases List.mem_or_eq_of_mem_set hy with hy | rfl
  ·have:=h.le y hy;omega
  ·exact Nat.le_refl _
 ·have:=h.sum
  simp only [List.length_append,List.length_cons] at this ⊢
  omega
theorem jR (k:IntKind) (l:List Nat) (x v:Nat):(nums k l).set x (.int k (v:Nat))=nums k (l.set x v):=by simp [nums,List.map_set]
theorem de {k:IntKind} {l:List Nat} {x:Nat} (h:x<l.length):(nums k l)[x]?=some (.int k ((l.getD x 0:Nat):Int)):=by simp [nums,h]
theorem BA (k:IntKind) (l:List Nat):(nums k l).length=l.length:=by simp [nums]
def nl (D short:Nat):Nat→List Nat→List Nat→List Nat
 | _,[],out => out
 | i,s :: l,out => nl D short (i+1) l (out.set s (D - if i<short then 1 else 0))
theorem CM (D short i:Nat) (l out:List Nat) (h:i<l.length):nl D short i (l.drop i) out=nl D short (i+1) (l.drop (i+1)) (out.set l[i] (D - if i<short then 1 else 0)):=by
 rw [List.drop_eq_getElem_cons h,nl]
structure Lj (u:Nat→Bool) (n D short i:Nat) (l out:List Nat):Prop where
 len:out.length=n
 nodup:l.Nodup
 inl:∀ s ∈ l,s<n∧out.getD s 0=0
 used:∀ s,s<n→(u s=true ↔ out.getD s 0≠0∨s ∈ l)
 fits:eD out+2 ^ (15 - D) * (l.length+(short - i))=2 ^ 15
 le:∀ x ∈ out,x≤D
theorem B2 {u:Nat→Bool} {n D short:Nat} (hD:1≤D) (hD15:D≤15) (h2:0<short→2≤D):∀ (l:List Nat) (i:Nat) (out:List Nat),(short≤i+l.length)→Lj u n D short i l out→Lj u n D short (i+l.length) [] (nl D short i l out)
 | [],i,out,hs,h => h
 | s :: l,i,out,hs,h => by
  rw [nl,List.length_cons,show i+(l.length+1)=i+1+l.length by omega]
  have hx:=h.inl s (by simp)
  have hxl:s<out.length:=by rw [h.len];exact hx.1
  have hnd:=List.nodup_cons.1 h.nodup
  have hv:D - (if i<short then 1 else 0)≠0:=by
   split
   ·have:=h2 ω;omega
   ·omega
  refine B2 hD hD15 h2 l (i+1) _ (by simp only [List.length_cons] at hs;omega) ⟨by rw [List.length_set];exact h.len,hnd.2,fun y hy => ?_,fun y hy => ?_,?_,fun y hy => ?_⟩
  ·have hne:y≠s:=by rintro rfl;exact hnd.1 hy
   rw [lW _ _ _ _ hxl,if_neg hne]
   exact h.inl y (List.mem_cons_of_mem _ hy)
  ·rw [lW _ _ _ _ hxl,h.used y hy]
   by_cases e:y=s
   ·subst e;simp [hv]
   ·rw [if_neg e];simp [e]
  ·rw [uI _ _ _ hxl hx.2]
   have:=h.fits
   unfold room
   rw [if_neg hv]
   simp only [List.length_cons] at this
   by_cases hi:i<short
   ·rw [if_pos hi] at hv ⊢
    have e1:2 ^ (15 - (D - 1))=2 * 2 ^ (15 - D):=by rw [show 15 - (D - 1)=(15 - D)+1 by omega,Nat.pow_succ,Nat.mul_comm]
    rw [e1]
    have e2:l.length+1+(short - i)=(l.length+(short - (i+1)))+2:=ω
    rw [e2,Nat.mul_add] at this
    omega
   ·rw [if_neg hi,Nat.sub_zero]
    have e2:l.length+1+(short - i)=(l.length+(short - (i+1)))+1:=ω
    rw [e2,Nat.mul_add] at this
    omega
  ·rcases List.mem_or_eq_of_mem_set hy with hy | rfl
   ·exact h.le y hy
   ·omega
theorem fu (u:Nat→Bool) (n s:Nat):s ∈ bS u n ↔ s<n∧u s=true:=by
 unfold bS;rw [List.mem_filter,List.mem_range]
theorem xE.done {u:Nat→Bool} {n most long deep:Nat} {l out:List Nat} (h:xE u n (bS u n).length l out long) (hl:long=0∨long+12≤most) (hm:most=15∨(most=7∧n≤19)) (hn:n≤4096)
  (h1:l.length≤2 ^ deep) (h2:deep=0∨2 ^ (deep - 1)<l.length) (hlong:l=[]→long=0) :
  pt u n most (if long=0∧l.length=1 then (nl (long+deep) (2 ^ deep - l.length) 0 l out).set (l.getD 0 0) 1 else nl (long+deep) (2 ^ deep - l.length) 0 l out):=by
 have hul:=mV u n
 have hsum:=h.sum
 by_cases hz:l=[]
 ·subst hz
  have hlg:=hlong rfl
  subst hlg
  simp only [List.length_nil,Nat.add_zero] at hsum
  rw [if_neg (by simp),nl]
  refine ⟨h.len,fun s hs => ?_,fun x hx => ?_,fun h2 => ω,fun s hs => by rw [hs] at hsum;simp at hsum⟩
  ·rw [h.used s hs];simp
  ·have:=h.le x hx;omega
 by_cases hone:long=0∧l.length=1
 ·rw [if_pos hone]
  obtain ⟨rfl,hl1⟩:=hone
  obtain ⟨x,rfl⟩:=List.length_eq_one_iff.1 hl1
  have hd:deep=0:=by
   rcases h2 with h2 | h2
   ·exact h2
   ·simp at h2
  subst hd
  have hx:=h.inl x (by simp)
  have hxl:x<out.length:=by rw [h.len];exact hx.1
  simp only [nl,List.length_singleton,List.getD_cons_zero]
  rw [List.set_set]
  refine ⟨by rw [List.length_set];exact h.len,fun s hs => ?_,fun y hy => ?_,fun h2 => by simp at hsum;omega,fun s hs => ?_⟩
  ·rw [lW _ _ _ _ hxl,h.used s hs]
   by_cases e:s=x
   ·subst e;simp
   ·rw [if_neg e];simp [e]
  ·rcases List.mem_or_eq_of_mem_set hy with hy | rfl
   ·have:=h.le y hy;omega
   ·omega
  ·have hus:u s=true:=by
    have:s ∈ bS u n:=by rw [hs];simp
    exact ((fu u n s).1 this).2
   have hsn:s<n:=by
    have:s ∈ bS u n:=by rw [hs];simp
    exact ((fu u n s).1 this).1
   rw [h.used s hsn] at hus
   have h0:out.getD s 0=0:=by
    rw [List.getD_eq_getElem?_getD]
    cases e:out[s]? with
    | none => rfl
    | some y => have:=h.le y (List.mem_of_getElem? e);simp;omega
   rcases hus with hus | hus
   ·exact absurd h0 hus
   ·simp only [List.mem_singleton] at hus
    subst hus
    rw [lW _ _ _ _ hxl,if_pos rfl]
 rw [if_neg hone]
 have hlp:0<l.length:=List.length_pos_iff.2 hz
 have hll:l.length≤n:=ω
 have hdeep:deep≤12∧(n≤19→deep≤5):=by
  rcases h2 with h2 | h2
  ·omega
  ·constructor
   ·refine Nat.le_of_not_lt fun hlt => ?_
    have:=Nat.pow_le_pow_right (n:=2) ω (show 12≤deep - 1 by omega)
    omega
   ·intro h19
    refine Nat.le_of_not_lt fun hlt => ?_
    have:=Nat.pow_le_pow_right (n:=2) ω (show 5≤deep - 1 by omega)
    omega
 have hD1:1≤long+deep:=by
  rcases Nat.eq_zero_or_pos deep with hd | hd
  ·subst hd
   simp at h1
   omega
  ·omega
 have hDm:long+deep≤most:=ω
 have hD15:long+deep≤15:=ω
 have hshort:2 ^ deep - l.length≤l.length:=by
  rcases h2 with h2 | h2
  ·subst h2;simp;omega
  ·have:2 ^ deep=2 * 2 ^ (deep - 1)∨deep=0:=by
    rcases Nat.eq_zero_or_pos deep with hd | hd
    ·exact .inr hd
    ·left;rw [show deep=(deep - 1)+1 by omega,Nat.pow_succ];simp;omega
   rcases this with h | h
   ·omega
   ·subst h;simp;omega
 have hs2:0<2 ^ deep - l.length→2≤long+deep:=fun hp => by
  rcases Nat.lt_or_ge deep 2 with hd | hd
  ·have:deep=0∨deep=1:=ω
   rcases this with rfl | rfl
   ·simp at hp;omega
   ·rcases h2 with h2 | h2
    ·omega
    ·simp at h2 hp;omega
  ·omega
 have key:=B2 hD1 hD15 hs2 l 0 out ω ⟨h.len,h.nodup,h.inl,h.used,by
  rw [Nat.sub_zero,show l.length+(2 ^ deep - l.length)=2 ^ deep by omega,← Nat.pow_add,show 15 - (long+deep)+deep=15 - long by omega]
  exact h.fits hz,fun x hx => by have:=h.le x hx;omega⟩
 refine ⟨key.len,fun s hs => ?_,fun x hx => Nat.le_trans (key.le x hx) hDm,fun _ => ?_,fun s hs => ?_⟩
 ·rw [key.used s hs];simp
 ·have:=key.fits
  rw [List.length_nil,Nat.zero_add,show 2 ^ deep - l.length - (0+l.length)=0 by omega,Nat.mul_zero,Nat.add_zero] at this
  exact this
 ·rw [hs] at hsum
  simp at hsum
  omega
section
variable {P:Program} {e:Operand→Value} {d:Option Tmp} {ty:TypeId} {pos:String} {after:Array Edge} {g:Option (Nat × Bool)} {w:World} {x y:Operand} {k k':IntKind} {m n r:Int} {ts:Array TypeId}
theorem A1 (hx:e x=.int k m) (hy:e y=.int k' n) (hr:(if n<m then n else m)=r):dE P e ⟨d,.call ⟨.builtin .min,#[x,y],ts⟩,ty,pos,after,g⟩ w (.int k r) w:=by
 subst hr
 unfold dE
 simp only [execOp,resolve,Sem.run_bind,Sem.run_pure,Result.andThen_ok,Go.invoke,builtin,List.map_toArray,List.map_cons,List.map_nil,hx,hy,run_min_int2]
theorem xY (hx:e x=.int k m) (hy:e y=.int k' n) (hr:(if m<n then n else m)=r):dE P e ⟨d,.call ⟨.builtin .max,#[x,y],ts⟩,ty,pos,after,g⟩ w (.int k r) w:=by
 subst hr
 unfold dE
 simp only [execOp,resolve,Sem.run_bind,Sem.run_pure,Result.andThen_ok,Go.invoke,builtin,List.map_toArray,List.map_cons,List.map_nil,hx,hy,run_max_int2]
theorem I3 {a b:Nat}:(if (b:Int)<(a:Int) then (b:Int) else (a:Int))=((Min.min a b:Nat):Int):=by split <;> omega
theorem LW {a b:Nat}:(if (a:Int)<(b:Int) then (b:Int) else (a:Int))=((Max.max a b:Nat):Int):=by split <;> omega
end
section
variable {w0 w:World} {S:List Nat} {l:List e_} {cb B k:Nat} {v:Value}
variable {nn:Nat} {lo:List Oper} {Q:cY} {rest:List Oper} {ρ:dK} {ty:TypeId} {pos:String} {after:Array Edge} {x y:Operand} {d:Nat} {ts:Array TypeId} {j dj:Nat} {b:Bool}
theorem kP (H:St w0 S l w) (i:Nat) (hi:l[i]?=some (aa cb (dt v k) 39)) (hw:jA B v w0) (hS:∀ b ∈ S,B≠b) (hB:B≠cb) (m:Nat) (hk:k≤4611686018427387904) (hm0:0<m) (hm:m≤4294967296)
  (hj:(lo[j]?).bind (·.dst)=some dj) (hdj:Nat.blt dj nn=true) (hb:ρ dj=.bool b) (hd:Nat.blt d nn=true) (hx:ev ρ x=pT cb) (hy:ev ρ y=iT m)
  (h:∀ w' r,r<m→St w0 S (l.set i (aa cb (dt v (k+1)) 39)) w'→VL Tryz.prog nn lo.toArray Q rest (eW ρ d (iT r)) w') :
  VL Tryz.prog nn lo.toArray Q (⟨some d,.call ⟨.value (.func 14),#[x,y],ts⟩,ty,pos,after,some (j,b)⟩ :: rest) ρ w :=
 kV hj hdj hb hd wx (oq w cb B v k m (H.blk hi) (hw.keep H.frm hS) hB hk hm0 hm) (by simp [hx,hy]) fun e w' ⟨⟨r,hr,he⟩,hb,hf⟩ => ⟨_,he,h _ r hr (H.turnB i hi hf hb)⟩
end
theorem iC {P:Program} {n:Nat} {Q:cY} {ρ:dK} {w:World} {c:Code} {id:Nat} {K:dK→World→Prop} (J:dK→World→Prop) (h:VC P n c (blk id (Ey J Q)) ρ w) (k:∀ ρ' w',J ρ' w'→K ρ' w'):VC P n c (blk id (Ey K Q)) ρ w :=
 h.mono fun e ρ w hQ => by
  cases e with
  | normal => exact k _ _ hQ
  | exit id' =>
   simp only [blk] at hQ ⊢
   by_cases hid:id'=id
   ·rw [if_pos hid] at hQ ⊢;exact k _ _ hQ
   ·rw [if_neg hid] at hQ ⊢;exact hQ
  | _ => exact hQ
theorem St.vec0 {w0 w:World} {S:List Nat} {l:List e_} (H:St w0 S l w) (e:TypeId) (k:Nat):St w0 S (aA none 0 e k 0 [] :: l) w :=
 H.cons (.inl ⟨rfl,rfl,rfl,rfl⟩) (cI _ _ _ _ _ _) (by simp [aA,bQ]) (by simp [aA,bQ])
theorem xf {ls:List Nat} {i m x:Nat} (hm:i+m≤ls.length) (h:∀ j,j<m→ls.getD (i+j) 0=x):ls.take (i+m)=ls.take i++List.replicate m x:=by
 induction m with
 | zero => simp
 | succ m ih =>
  have hx:=h m ω
  have hlt:i+m<ls.length:=ω
  have e:ls.getD (i+m) 0=ls[i+m]:=by simp [hlt]
  rw [List.replicate_succ',← List.append_assoc,← ih ω fun j hj => h j ω,show i+(m+1)=i+m+1 by omega,← hx,e,← List.take_succ_eq_append_getElem hlt]
end Go.Proofs.YtmgemcffhbnpfaaGreatDoor
