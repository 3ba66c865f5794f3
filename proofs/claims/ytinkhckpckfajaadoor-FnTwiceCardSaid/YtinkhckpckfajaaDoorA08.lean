/-
  A picture is written and read: part 8 of 13 (Decode, Small, Impl, Plain, Is, Picture, Pack, Writer, Code, Choice, SCodes, Kraft).
-/
import Derived.Test.YtinkhckpckfajaaDoorA07
import Derived.Laws.BytesArg
import Derived.Laws.Strings
set_option linter.unusedVariables false
set_option linter.unusedSimpArgs false
set_option maxRecDepth 100000
set_option maxHeartbeats 4000000
namespace Go.Proofs.YtinkhckpckfajaaDoor
open Go
def undo1 (ht:Nat) (t:Tr) (px:List Nat):List Nat :=
 if t.kind=0 then scan (predF t.wd t.bits t.px) [] px else if t.kind=1 then scan (crossF t.wd t.bits t.px) [] px else if t.kind=2 then scan greenF [] px else indexOut t.wd ht t.bits t.px px
def undoAll (ht:Nat) (l:List Tr) (px:List Nat):List Nat:=l.foldr (undo1 ht) px
def newW (t:Tr):Nat:=if t.kind=3 then tilesN t.wd t.bits else t.wd
def Chain:Nat→List Tr→Nat→Prop
 | w,[],w' => w=w'
 | w,t :: l,w' => t.wd=w∧Chain (newW t) l w'
theorem Chain.snoc:∀ {w:Nat} {l:List Tr} {w':Nat} {t:Tr},Chain w l w'→t.wd=w'→Chain w (l++[t]) (newW t)
 | w,[],w',t,h,ht => ⟨ht.trans h.symm,rfl⟩
 | w,a :: l,w',t,h,ht => ⟨h.1,h.2.snoc ht⟩
theorem decTr_w {w h:Nat} {R R':Bits} {t:Tr} {nw:Nat} (hd:decTr w h R=some ((t,nw),R')):t.wd=w∧nw=newW t:=by
 obtain ⟨k,R1,_,hd⟩:=pb_some hd
 split at hd
 ·obtain ⟨b,R2,_,hd⟩:=pb_some hd
  obtain ⟨px,R3,_,hd⟩:=pb_some hd
  have e:=(ret_some hd).1
  simp only [Prod.mk.injEq] at e
  obtain ⟨rfl,rfl⟩:=e
  exact ⟨rfl,by unfold newW;rw [if_neg (by show k≠3;omega)]⟩
 ·split at hd
  ·have e:=(ret_some hd).1
   simp only [Prod.mk.injEq] at e
   obtain ⟨rfl,rfl⟩:=e
   exact ⟨rfl,by unfold newW;rw [if_neg (by show 2≠3;omega)]⟩
  ·obtain ⟨b,R2,_,hd⟩:=pb_some hd
   obtain ⟨px,R3,_,hd⟩:=pb_some hd
   have e:=(ret_some hd).1
   simp only [Prod.mk.injEq] at e
   obtain ⟨rfl,rfl⟩:=e
   exact ⟨rfl,by unfold newW;rw [if_pos rfl]⟩
def z4:List Value:=[.int .u32 0,.int .i32 0,.int .u32 0,.slice none 0 0]
def t4 (q:Tr × Value):List Value:=[.int .u32 (q.1.kind:Nat),.int .i32 (q.1.wd:Nat),.int .u32 (q.1.bits:Nat),q.2]
def trCells:Nat→List (Tr × Value)→List Value
 | 0,_ => []
 | n+1,[] => z4++trCells n []
 | n+1,q :: l => t4 q++trCells n l
theorem trCells_length:∀ (n:Nat) (l:List (Tr × Value)),(trCells n l).length=4 * n
 | 0,_ => rfl
 | n+1,[] => by rw [trCells,List.length_append,trCells_length n,show z4.length=4 from rfl];omega
 | n+1,q :: l => by rw [trCells,List.length_append,trCells_length n,show (t4 q).length=4 from rfl];omega
theorem trCells_get:∀ (n:Nat) (l:List (Tr × Value)) (j k:Nat) (q:Tr × Value),l[j]?=some q→j<n→k<4→(trCells n l)[4 * j+k]?=(t4 q)[k]?
 | n,[],j,k,q,h,_,_ => by simp at h
 | 0,_,j,k,q,h,hj,_ => by omega
 | n+1,p :: l,0,k,q,h,hj,hk => by
  simp only [List.getElem?_cons_zero,Option.some.injEq] at h
  subst h
  rw [trCells,Nat.mul_zero,Nat.zero_add,List.getElem?_append_left (by show k<4;omega)]
 | n+1,p :: l,j+1,k,q,h,hj,hk => by
  have:=trCells_get n l j k q (by simpa using h) (by omega) hk
  rw [trCells,List.getElem?_append_right (by show 4≤_;omega),show (t4 p).length=4 from rfl,show 4 * (j+1)+k - 4=4 * j+k by omega,this]
theorem trCells_wr (l:List (Tr × Value)) (q:Tr × Value) (h:l.length≤3):wr (trCells 4 l) (0+l.length * 4) (t4 q)=trCells 4 (l++[q]):=by
 match l,h with
 | [],_ => rfl
 | [a],_ => rfl
 | [a,b],_ => rfl
 | [a,b,c],_ => rfl
 | a :: b :: c :: d :: r,h => simp at h
def seenC (f:Nat→Bool):List Value:=[.bool (f 0),.bool (f 1),.bool (f 2),.bool (f 3)]
theorem seenC_get (f:Nat→Bool) (k:Nat) (h:k<4):(seenC f)[0+k]?=some (.bool (f k)):=by
 have:k=0∨k=1∨k=2∨k=3:=by omega
 rcases this with rfl | rfl | rfl | rfl <;> rfl
def kindIn (l:List Tr) (k:Nat):Bool:=l.any (·.kind=k)
theorem seenC_set (l:List Tr) (t:Tr) (h:t.kind<4):(seenC (kindIn l)).set (0+t.kind) (.bool true)=seenC (kindIn (l++[t])):=by
 have e:∀ j,kindIn (l++[t]) j=(kindIn l j || decide (t.kind=j)):=fun j => by simp [kindIn]
 unfold seenC
 rw [e,e,e,e]
 have:t.kind=0∨t.kind=1∨t.kind=2∨t.kind=3:=by omega
 rcases this with h | h | h | h <;> rw [h] <;> simp [List.set]
def seenN (l:List Tr):Nat:=(kindIn l 0).toNat+(kindIn l 1).toNat+(kindIn l 2).toNat+(kindIn l 3).toNat
theorem seenN_le (l:List Tr):seenN l≤4:=by
 unfold seenN
 have:=Bool.toNat_le (kindIn l 0)
 have:=Bool.toNat_le (kindIn l 1)
 have:=Bool.toNat_le (kindIn l 2)
 have:=Bool.toNat_le (kindIn l 3)
 omega
theorem seenN_snoc (l:List Tr) (t:Tr) (h:t.kind<4) (hn:kindIn l t.kind=false):seenN (l++[t])=seenN l+1:=by
 have e:∀ j,kindIn (l++[t]) j=(kindIn l j || decide (t.kind=j)):=fun j => by simp [kindIn]
 unfold seenN
 rw [e,e,e,e]
 have:t.kind=0∨t.kind=1∨t.kind=2∨t.kind=3:=by omega
 rcases this with h | h | h | h <;> rw [h] at hn ⊢ <;> simp [hn] <;> omega
theorem rect_any (W:World) (wd ht:Nat) :
  Calls Tryd.prog 41 #[.int .i64 0,.int .i64 0,.int .i64 (wd:Nat),.int .i64 (ht:Nat)] W fun e w' => e=.returned (.agg #[.int .i64 0,.int .i64 0,.int .i64 (wd:Nat),.int .i64 (ht:Nat)])∧Frm [] W w':=by
 have H:St W [] [] W:=St.nil W []
 refine enter (m:=26) Tryd.func41 O Tryd.ntmps41 O (Cy (VL.alloc H zer_74 O ?_))
 intro w b8 hn8 hb8 H
 refine Lt (Cs (Cy (Lo O (YI O) (Lo O (YI O) (Lo O (Y.gtr O O) (Lt (CF O (by omega) (Ck (tn (Cs (Cy (Lo O (YI O) (Lo O (YI O) (Lo O (Y.gtr O O) (Lt (CF O (by omega) ?_))))))))))))))))
 refine Ck (tn (Cy (Lo O (YI O) (Lo O (YI O) (Lo O (Y.bld [.int .i64 0,.int .i64 0] O (by kernel_rfl)) (Lo O (YI O) (Lo O (YI O) (Lo O (Y.bld [.int .i64 (wd:Nat),.int .i64 (ht:Nat)] O (by kernel_rfl)) (Lo O (Y.bld [.int .i64 0,.int .i64 0,.int .i64 (wd:Nat),.int .i64 (ht:Nat)] O (by kernel_rfl)) (VL.putW H 0 stn_74 O O O O O (by simp [Value.oneCell']) ?_))))))))))
 intro w H
 try simp only [List.set,List.eraseIdx] at H
 refine Lt (Ct ?_)
 exact Done.retC1 (cs:=[.int .i64 0,.int .i64 0,.int .i64 (wd:Nat),.int .i64 (ht:Nat)]) O ldn_74 O O (fun j hj => by rw [Nat.zero_add];exact (H.blk (i:=0) O).cell j) ⟨rfl,H.frm⟩
theorem St.back {w0 w1 w:World} {S T:List Nat} {l:List Res} (hF:Frm S w0 w1) (H:St w1 T l w) (hT:∀ x ∈ T,x ∈ S∨w0.heap.size≤x):St w0 S l w :=
 ⟨hF.then H.frm hT,H.has,H.loc,fun r hr b hb => by
  rcases H.own r hr b hb with h | h
  ·exact hT b h
  ·exact .inr (Nat.le_trans hF.size h),H.apart⟩
theorem St.swap {w0 w w':World} {S:List Nat} {l:List Res} {b b':Nat} {cs cs':List Value} {t t':TypeId} (h:St w0 S (blkR b cs t :: l) w) (hf:Frm [b] w w') (hb:Blk w' b' cs' t') (hor:b'=b∨w.heap.size≤b'):St w0 S (blkR b' cs' t' :: l) w':=by
 rcases hor with rfl | hn
 ·exact h.turnB 0 O hf hb
 ·have h2:St w0 S l w':=h.lost (i:=0) rfl hf
  refine h2.cons hb ⟨blkR_local _ _ _,blkR_in _ _ _⟩ (fun x hx => ?_) (fun s hs x hx hx2 => ?_)
  ·simp only [blkR,List.mem_singleton] at hx
   subst hx
   exact .inr (Nat.le_trans h.frm.size hn)
  ·simp only [blkR,List.mem_singleton] at hx
   subst hx
   have:=(h.loc s (List.mem_cons_of_mem _ hs)).2 w (h.has s (List.mem_cons_of_mem _ hs)) x hx2
   omega
theorem Chain.unsnoc:∀ {w:Nat} {l:List Tr} {w':Nat} {t:Tr},Chain w (l++[t]) w'→Chain w l t.wd∧w'=newW t
 | w,[],w',t,h => ⟨h.1.symm,h.2.symm⟩
 | w,a :: l,w',t,h => ⟨⟨h.1,(Chain.unsnoc h.2).1⟩,(Chain.unsnoc h.2).2⟩
theorem undo_any (W:World) (btr off:Nat) (t:Tr) (pv:Value) (bp cap ht B:Nat) (inp:List Nat) (hT:TrAt W btr off t pv) (hO:TrOk ht t) (hV:TrV B W t pv) (hn1:btr≠bp) (hn2:∀ b l c,pv=.slice (some ⟨b,0,none⟩) l c→b≠bp) (hh:1≤ht) (hh2:ht≤16384)
  (hb:Blk W bp (rowK .u8 (byteAt inp) cap) 5) (hil:inp.length=newW t * ht) (hcap:4 * inp.length≤cap) (hc2:cap≤1073742848) :
  ∃ f,[(116:Nat),117,118,119][t.kind]?=some f∧Ent Tryd.prog f ∧
   Calls Tryd.prog f #[.pointer (some ⟨btr,off,none⟩),.slice (some ⟨bp,0,none⟩) (4 * inp.length) cap,.int .i32 (ht:Nat)] W (InvPost bp (undo1 ht t inp) W):=by
 have hk:=hO.kind
 have hcase:t.kind=0∨t.kind=1∨t.kind=2∨t.kind=3:=by omega
 have hm1:btr ∉ [bp]:=by simpa using hn1
 unfold newW at hil
 unfold undo1
 rcases hcase with h | h | h | h
 ·rcases hV with ⟨h2,_⟩ | ⟨_,b,len,cp,rfl,h3,_,h5,h6,_⟩
  ·omega
  have hm2:b ∉ [bp]:=by simpa using hn2 b _ _ rfl
  rw [if_neg (by omega)] at hil
  rw [h,if_pos rfl]
  exact ⟨_,rfl,ent_116,pred_any W btr off t b len cp bp cap ht inp hT hO (by omega) h5 h6 h3 hm1 hm2 hh hh2 hb hil hcap hc2⟩
 ·rcases hV with ⟨h2,_⟩ | ⟨_,b,len,cp,rfl,h3,_,h5,h6,_⟩
  ·omega
  have hm2:b ∉ [bp]:=by simpa using hn2 b _ _ rfl
  rw [if_neg (by omega)] at hil
  rw [h,if_neg (by omega),if_pos rfl]
  exact ⟨_,rfl,ent_117,cross_any W btr off t b len cp bp cap ht inp hT hO (by omega) h5 h6 h3 hm1 hm2 hh hh2 hb hil hcap hc2⟩
 ·rw [h,if_neg (by omega),if_neg (by omega),if_pos rfl]
  exact ⟨_,rfl,ent_118,green_any W _ bp cap ht inp hb hcap hc2⟩
 ·rcases hV with ⟨h2,_⟩ | ⟨_,b,len,cp,rfl,h3,_,h5,h6,h7⟩
  ·omega
  have hm2:b ∉ [bp]:=by simpa using hn2 b _ _ rfl
  have h8:=h7 h
  subst h8
  rw [if_pos h] at hil
  rw [h,if_neg (by omega),if_neg (by omega),if_neg (by omega)]
  exact ⟨_,rfl,ent_119,index_any W btr off t b cp bp cap ht inp hT hO h h5 h3 hm1 hm2 hh hh2 hb hil hcap hc2⟩
theorem undo1_length {ht:Nat} {t:Tr} {inp:List Nat} (h:inp.length=newW t * ht) (hk:t.kind≤3):(undo1 ht t inp).length=t.wd * ht:=by
 unfold newW at h
 unfold undo1
 by_cases h0:t.kind=0
 ·rw [if_pos h0,scan_length,h,if_neg (by omega)];simp
 ·rw [if_neg h0]
  by_cases h1:t.kind=1
  ·rw [if_pos h1,scan_length,h,if_neg (by omega)];simp
  ·rw [if_neg h1]
   by_cases h2:t.kind=2
   ·rw [if_pos h2,scan_length,h,if_neg (by omega)];simp
   ·rw [if_neg h2,indexOut_length]
def decAll:Par (Nat × Nat × List Nat):=pb header fun q => pb (decTrs q.2 5 q.1 []) fun t => pb (decPix true t.2 q.2) fun px => ret (q.1,q.2,undoAll q.2 t.1 px)
theorem decAll_mono:Mono decAll:=header_mono.pb fun q => (decTrs_mono _ _ _ _).pb fun t => (decPix_mono _ _ _).pb fun px => Mono.ret _
def DecPost (rd sb so cap:Nat) (s:List Nat) (r:Option ((Nat × Nat × List Nat) × Bits)) (w:World) (e:Ending) (w':World):Prop :=
 (∃ wd ht out R' bi bx cp d,r=some ((wd,ht,out),R')∧e=.returned (.tuple #[.iface 69 (.pointer (some ⟨bi,0,none⟩)),.nilIface]) ∧
  Blk w' bi [.slice (some ⟨bx,0,none⟩) (4 * out.length) cp,.int .i64 ((4 * wd:Nat):Int),.int .i64 0,.int .i64 0,.int .i64 (wd:Nat),.int .i64 (ht:Nat)] 77∧4 * out.length≤cp∧cp≤1073742848∧Blk w' bx (rowK .u8 (byteAt out) cp) 5 ∧
  out.length=wd * ht∧1≤wd∧wd≤16384∧1≤ht∧ht≤16384∧w.heap.size≤bi∧w.heap.size≤bx∧w.heap.size≤d∧(decR ⟨d,rd,sb,so,cap,s⟩ R').pred w'∧Frm [rd] w w') ∨
 (r=none∧(∃ a,e=.returned (.tuple #[.nilIface,.iface 132 (.pointer (some a))]))∧Frm [rd] w w')
theorem trAt {w:World} {b:Nat} {q:List (Tr × Value)} {tt:TypeId} (hb:Blk w b (trCells 4 q) tt) {j:Nat} {p:Tr × Value} (hj:q[j]?=some p) (hj4:j<4):TrAt w b (0+j * 4) p.1 p.2:=by
 have key:∀ k v,k<4→(t4 p)[k]?=some v→w.cell? ⟨b,0+j * 4+k,none⟩=some v:=fun k v hk hv => by
  rw [show 0+j * 4+k=4 * j+k by omega]
  exact hb.cellv (by rw [trCells_get 4 q j k p hj hj4 hk,hv])
 exact ⟨key 0 _ (by omega) rfl,key 1 _ (by omega) rfl,key 2 _ (by omega) rfl,key 3 _ (by omega) rfl⟩
theorem decode_any (rd sb so cap:Nat) (s:List Nat) (W:World) (I:RIn rd sb so cap s W) :
  Calls Tryd.prog 19 #[.iface 42 (.pointer (some ⟨rd,0,none⟩))] W (DecPost rd sb so cap s (decAll (bitsOf s)) W):=by
 have OKF:PixOK false:=pix_any false (fun h => nomatch h)
 have OKT:PixOK true:=pix_any true (fun _ => OKF)
 have hdec:decAll (bitsOf s)=pb header (fun q => pb (decTrs q.2 5 q.1 []) fun t => pb (decPix true t.2 q.2) fun px => ret (q.1,q.2,undoAll q.2 t.1 px)) (bitsOf s):=rfl
 have hH:=header_any rd sb so cap s W I
 have hrdW:=I.blk.lt
 refine enter (m:=103) Tryd.func19 O Tryd.ntmps19 O (Cy (Lo O (Y.asg O) (Lo O (Y.asg O) (Lt ?_))))
 cases hhd:header (bitsOf s)
 case none =>
  rw [pb_no hhd] at hdec
  refine Cy (Lo O (Y.mov O) (VL.call O ent_36 hH O ?_))
  intro e w2 hP
  rcases hP with ⟨d,wd,ht,R',hr,_⟩ | ⟨_,⟨a,rfl⟩,hf⟩
  ·rw [hhd] at hr;cases hr
  refine ⟨_,rfl,?_⟩
  refine Lo O (Y.movT O) (Lo O (Y.ext O O) (Lo O (Y.ext O O) (Lo O (Y.ext O O) (Lo O (Y.ext O O) (Lo O (Y.asgP O) (Lo O (AI O) (Lo O (AI O) (Lo O (Y.asg O) (Lt (Cs (Cy (Lo O (Y.mov O) (Lo O (Y.neqNilT ifc_47 O O) (Lt ?_))))))))))))))
  refine CB O (fun _ => ?_) (fun h => nomatch h)
  refine Cy (Lo O (Y.mov O) (Lo O (Y.asg O) (Lo O (Y.asg O) (Lt (Ct (thn_r ?_))))))
  exact Done.ret2 O O O (.inr ⟨hdec,⟨_,rfl⟩,hf⟩)
 case some q0 =>
 obtain ⟨⟨wd,ht⟩,R1⟩:=q0
 obtain ⟨hw,hw2,hh,hh2⟩:=header_good hhd
 simp only at hw hw2 hh hh2
 rw [pb_ok hhd] at hdec
 simp only at hdec
 refine Cy (Lo O (Y.mov O) (VL.call O ent_36 hH O ?_))
 intro e w2 hP
 rcases hP with ⟨d,wd',ht',R',hr,rfl,hd1,hd2,hf⟩ | ⟨hr,_⟩
 rotate_left
 ·rw [hhd] at hr;cases hr
 rw [hhd] at hr
 simp only [Option.some.injEq,Prod.mk.injEq] at hr
 obtain ⟨⟨rfl,rfl⟩,rfl⟩:=hr
 refine ⟨_,rfl,?_⟩
 refine Lo O (Y.movT O) (Lo O (Y.ext O O) (Lo O (Y.ext O O) (Lo O (Y.ext O O) (Lo O (Y.ext O O) (Lo O (Y.asgP O) (Lo O (AI O) (Lo O (AI O) (Lo O (Y.asg O) (Lt ?_)))))))))
 obtain ⟨σ,hσ⟩:∃ σ:Src,σ=⟨d,rd,sb,so,cap,s⟩:=⟨_,rfl⟩
 have hσd:σ.d=d:=by rw [hσ]
 have hσr:σ.rd=rd:=by rw [hσ]
 have roW:RO σ W:=by rw [hσ];exact I.ro hd1
 rw [← hσ] at hd2
 have H:St W [rd] [decR σ R1] w2:=by
  refine ⟨hf,?_,?_,?_,List.pairwise_singleton _ _⟩
  ·intro r hr;rw [List.mem_singleton] at hr;subst hr;exact hd2
  ·intro r hr;rw [List.mem_singleton] at hr;subst hr;exact decR_local _ _
  ·intro r hr b hb
   rw [List.mem_singleton] at hr
   subst hr
   simp only [decR,List.mem_cons,List.not_mem_nil,or_false] at hb
   rcases hb with rfl | rfl
   ·right;rw [hσd];exact hd1
   ·left;rw [hσr];simp
 refine Cs (Cy (Lo O (Y.mov O) (Lo O (Y.neqNilF ifc_47 O O) (Lt (CB O (fun h => nomatch h) (fun _ => (Ck (tn (Cy (Lo O (AI O) (Lt (Cy (VL.alloc H zer_88 O ?_)))))))))))))
 intro w b9 hn9 hb9 H
 refine Lt (Cy (VL.alloc H zer_89 O ?_))
 intro w b10 hn10 hb10 H
 refine Lt (Cy (Lo O (YI O) (Lo O (AI O) (Lt ?_))))
 have hF0:Frm [rd] W w:=H.frm
 replace H:=H.base [b10,b9,σ.d,σ.rd] (by
  intro r hr b hb
  simp only [List.mem_cons,List.not_mem_nil,or_false] at hr
  rcases hr with rfl | rfl | rfl
  ·simp only [blkR,List.mem_singleton] at hb;subst hb;simp
  ·simp only [blkR,List.mem_singleton] at hb;subst hb;simp
  ·simp only [decR,List.mem_cons,List.not_mem_nil,or_false] at hb
   rcases hb with rfl | rfl <;> simp)
 generalize w=W0 at *
 have ro0:RO σ W0:=roW.keep hF0 (by rw [hσ];exact ⟨fun b hb => by simp at hb;subst hb;exact I.ne.1,by simpa using I.ne.2⟩)
 have hb9W:b9<W0.heap.size:=(H.blk (i:=1) rfl).lt
 have hb10W:b10<W0.heap.size:=(H.blk (i:=0) rfl).lt
 have hdW0:σ.d<W0.heap.size∧σ.rd<W0.heap.size:=by
  have:=(decR_local σ R1).2 W0 (H.get (i:=2) rfl)
  exact ⟨this σ.d (by simp [decR]),this σ.rd (by simp [decR])⟩
 have hlow:∀ x ∈ [b10,b9,σ.d,σ.rd],x<W0.heap.size:=by
  intro x hx
  simp only [List.mem_cons,List.not_mem_nil,or_false] at hx
  rcases hx with rfl | rfl | rfl | rfl
  ·exact hb10W
  ·exact hb9W
  ·exact hdW0.1
  ·exact hdW0.2
 have hS:OkS σ [b10,b9,σ.d,σ.rd]:=by
  refine ⟨fun b hb => ?_,?_⟩
  ·simp only [List.mem_cons,List.not_mem_nil,or_false] at hb
   have:=roW.gl.high
   rcases hb with rfl | rfl | rfl | rfl
   ·omega
   ·omega
   ·exact ro0.ne.2.1
   ·exact ro0.ne.2.2.1
  ·simp only [List.mem_cons,List.not_mem_nil,or_false,not_or]
   have:=roW.sbl
   exact ⟨by omega,by omega,ro0.ne.2.2.2.1,ro0.ne.2.2.2.2⟩
 have hFF:∀ w',Frm [b10,b9,σ.d,σ.rd] W0 w'→Frm [rd] W w':=fun w' h => hF0.then h (fun x hx => by
  simp only [List.mem_cons,List.not_mem_nil,or_false] at hx
  rcases hx with rfl | rfl | rfl | rfl
  ·exact .inr hb10
  ·exact .inr hb9
  ·right;rw [hσd];exact hd1
  ·left;rw [hσr];simp)
 replace H:St W0 [b10,b9,σ.d,σ.rd] [blkR b10 (seenC (kindIn [])) 89,blkR b9 (trCells 4 []) 88,decR σ R1] W0:=H
 refine Cs ?_
 refine VC.join (fun ρ w' => ∃ (q:List (Tr × Value)) (wn:Nat) (Ri:Bits),decAll (bitsOf s)=pb (decPix true wn ht) (fun px => ret (wd,ht,undoAll ht (q.map (·.1)) px)) Ri∧q.length≤4∧Chain wd (q.map (·.1)) wn∧(∀ p ∈ q,TrOk ht p.1∧TrV W0.heap.size w' p.1 p.2)∧1≤wn∧wn≤16384 ∧
  ρ 4=.pointer (some ⟨d,0,none⟩)∧ρ 5=.int .i32 (wn:Nat)∧ρ 6=.int .i32 (ht:Nat)∧ρ 8=.int .i64 (q.length:Nat)∧ρ 9=.pointer (some ⟨b9,0,none⟩)∧ρ 11=.int .i32 (wd:Nat) ∧
  St W0 [b10,b9,σ.d,σ.rd] [blkR b9 (trCells 4 q) 88,decR σ Ri] w') ?_ ?_
 case refine_1 =>
  refine Cb ?_
  refine Cl (fun mm ρ w' => ∃ (q:List (Tr × Value)) (wn:Nat) (Ri:Bits),mm=4 - q.length∧decAll (bitsOf s)=pb (decTrs ht (5 - q.length) wn (q.map (·.1))) (fun t => pb (decPix true t.2 ht) fun px => ret (wd,ht,undoAll ht t.1 px)) Ri∧q.length≤4∧seenN (q.map (·.1))=q.length∧Chain wd (q.map (·.1)) wn∧(∀ p ∈ q,TrOk ht p.1∧TrV W0.heap.size w' p.1 p.2)∧1≤wn∧wn≤16384 ∧
   ρ 4=.pointer (some ⟨d,0,none⟩)∧ρ 5=.int .i32 (wn:Nat)∧ρ 6=.int .i32 (ht:Nat)∧ρ 8=.int .i64 (q.length:Nat)∧ρ 9=.pointer (some ⟨b9,0,none⟩)∧ρ 10=.pointer (some ⟨b10,0,none⟩)∧ρ 11=.int .i32 (wd:Nat) ∧
   St W0 [b10,b9,σ.d,σ.rd] [blkR b10 (seenC (kindIn (q.map (·.1)))) 89,blkR b9 (trCells 4 q) 88,decR σ Ri] w') 4
   ⟨[],wd,R1,rfl,hdec,by simp,rfl,rfl,by simp,hw,hw2,rfl,rfl,rfl,rfl,rfl,rfl,rfl,H⟩ ?_
  clear H hdec
  rintro mm ρ w3 ⟨q,wn,Ri,rfl,hdec,hq4,hsn,hch,hall,hwn,hwn2,h4,h5,h6,h8,h9,h10,h11,H⟩
  rw [← hσd] at h4
  rw [show 5 - q.length=(4 - q.length)+1 by omega,decTrs,pb_assoc] at hdec
  have hF3:=H.frm
  have ro3:RO σ w3:=ro0.keep hF3 hS
  have hW3:=hF3.size
  replace H:=H.base [b10,b9,σ.d,σ.rd] (by
   intro r hr b hb
   simp only [List.mem_cons,List.not_mem_nil,or_false] at hr
   rcases hr with rfl | rfl | rfl
   ·simp only [blkR,List.mem_singleton] at hb;subst hb;simp
   ·simp only [blkR,List.mem_singleton] at hb;subst hb;simp
   ·simp only [decR,List.mem_cons,List.not_mem_nil,or_false] at hb
    rcases hb with rfl | rfl <;> simp)
  have hTT:∀ x ∈ [b10,b9,σ.d,σ.rd],x ∈ [b10,b9,σ.d,σ.rd]∨W0.heap.size≤x:=fun x hx => .inl hx
  refine Cb ?_
  by_cases hR_:1≤Ri.length
  case neg =>
   rw [pb_no (rd_no (by omega))] at hdec
   refine Cy (Lo O (YP (by assumption)) (VL.readNoS (k:=1) H 2 O ro3 hS (by omega) (by omega) O O O ?_))
   intro w a H
   refine Lo O (Y.movT O) (Lo O (Y.ext O O) (Lo O (Y.ext O O) (Lo O (AI O) (Lo O (Y.asg O) (Lt (Cs (Cy (Lo O (Y.mov O) (Lo O (Y.neqNilT ifc_47 O O) (Lt ?_))))))))))
   refine CB O (fun _ => ?_) (fun h => nomatch h)
   refine Cy (Lo O (Y.mov O) (Lo O (Y.asg O) (Lo O (Y.asg O) (Lt (Ct (thn_r (blk_r (thn_r (blk_r (thn_r ?_))))))))))
   have hF:=H.frm
   exact Done.ret2 O O O (.inr ⟨hdec,⟨_,rfl⟩,hFF _ (hF3.trans hF)⟩)
  case pos =>
  rw [pb_ok (rd_ok hR_)] at hdec
  have hu:val (Ri.take (1))<2 ^ (1):=val_take_lt Ri (1)
  refine Cy (Lo O (YP (by assumption)) (VL.readOk (k:=1) H 2 O ro3 hS (by omega) hR_ O O O ?_))
  intro w H
  simp only [List.set] at H
  refine Lo O (Y.movT O) (Lo O (Y.ext O O) (Lo O (Y.ext O O) (Lo O (AI O) (Lo O (Y.asg O) (Lt ?_)))))
  generalize val (Ri.take (1))=u at *
  generalize Ri.drop (1)=Rj at *
  clear hR_
  refine Cs (Cy (Lo O (Y.mov O) (Lo O (Y.neqNilF ifc_47 O O) (Lt (CB O (fun h => nomatch h) (fun _ => (Ck (tn (Cs (Cy (Lo O (YI O) (Lo O (Y.eql O O) (Lt ?_)))))))))))))
  by_cases hu:u=0
  case pos =>
   rw [if_pos hu,pb_ok (show ret (q.map (·.1),wn) Rj=some ((q.map (·.1),wn),Rj) from rfl)] at hdec
   refine CT O (by omega) (Cx (thn_x (blk_y O (thn_x (blk_x (tn ?_))))))
   exact ⟨q,wn,Rj,hdec,hq4,hch,fun p hp => ⟨(hall p hp).1,(hall p hp).2.keep H.frm hlow⟩,hwn,hwn2,by rw [← hσd];exact h4,h5,h6,h8,h9,h11,St.back hF3 (H.sub [1,2] O (by decide)) hTT⟩
  case neg =>
  rw [if_neg hu,pb_assoc] at hdec
  refine CF O (by omega) (Ck (tn (Cy (VL.alloc H zer_87 O ?_))))
  intro w b14 hn14 hb14 H
  refine Lt ?_
  have hTr:=fun w' (H':St w3 [b10,b9,σ.d,σ.rd] [blkR b14 z4 87,blkR b10 (seenC (kindIn (q.map (·.1)))) 89,blkR b9 (trCells 4 q) 88,decR σ Rj] w') => trans_any OKF σ Rj w' wn ht (H'.get (i:=3) rfl) (ro3.frm H' hS) hwn hwn2 hh hh2
  replace H:St w3 [b10,b9,σ.d,σ.rd] [blkR b14 z4 87,blkR b10 (seenC (kindIn (q.map (·.1)))) 89,blkR b9 (trCells 4 q) 88,decR σ Rj] w:=H
  cases htr:decTr wn ht Rj
  case none =>
   rw [pb_no htr] at hdec
   refine Cy (Lo O (YP (by assumption)) (Lo O (YI (by assumption)) (Lo O (YI (by assumption)) (VL.call O ent_38 (hTr _ H) O ?_))))
   intro e w2 hP
   rcases hP with ⟨t,nw,R',pv,hr,_⟩ | ⟨_,⟨a,rfl⟩,hf⟩
   ·rw [htr] at hr;cases hr
   replace H:=H.lost (i:=3) rfl hf
   simp only [List.eraseIdx] at H
   refine ⟨_,rfl,?_⟩
   refine Lo O (Y.movT O) (Lo O (Y.ext O O) (Lo O (Y.ext O O) (Lo O (Y.ext O O) (VL.putW H 0 stn_87 O O O O O (by decide) ?_))))
   intro w H
   try simp only [List.set,List.eraseIdx] at H
   refine Lo O (AI O) (Lo O (Y.asg O) (Lt (Cs (Cy (Lo O (Y.mov O) (Lo O (Y.neqNilT ifc_47 O O) (Lt ?_)))))))
   refine CB O (fun _ => ?_) (fun h => nomatch h)
   refine Cy (Lo O (Y.mov O) (Lo O (Y.asg O) (Lo O (Y.asg O) (Lt (Ct (thn_r (blk_r (thn_r (blk_r (thn_r ?_))))))))))
   exact Done.ret2 O O O (.inr ⟨hdec,⟨_,rfl⟩,hFF _ (hF3.trans H.frm)⟩)
  case some qt =>
  obtain ⟨⟨t,nw⟩,Rk⟩:=qt
  obtain ⟨htw,hnw⟩:=decTr_w htr
  rw [pb_ok htr] at hdec
  simp only at hdec
  have hb14w:=(H.blk (i:=0) rfl).lt
  refine Cy (Lo O (YP (by assumption)) (Lo O (YI (by assumption)) (Lo O (YI (by assumption)) (VL.call O ent_38 (hTr _ H) O ?_))))
  intro e w4 hP
  rcases hP with ⟨t',nw',R',pv,hr,rfl,hV,hOk,hnw1,hnw2,hd4,hf⟩ | ⟨hr,_⟩
  rotate_left
  ·rw [htr] at hr;cases hr
  rw [htr] at hr
  simp only [Option.some.injEq,Prod.mk.injEq] at hr
  obtain ⟨⟨rfl,rfl⟩,rfl⟩:=hr
  have hww:=H.high
  replace H:=H.turn (i:=3) (r':=decR σ Rk) rfl hf hd4 (decR_local σ Rk) (fun b hb => .inl hb)
  simp only [List.set] at H
  have hF4:=H.frm
  replace H:=H.base [b14,b10,b9,σ.d,σ.rd] (by
   intro r hr b hb
   simp only [List.mem_cons,List.not_mem_nil,or_false] at hr
   rcases hr with rfl | rfl | rfl | rfl
   ·simp only [blkR,List.mem_singleton] at hb;subst hb;simp
   ·simp only [blkR,List.mem_singleton] at hb;subst hb;simp
   ·simp only [blkR,List.mem_singleton] at hb;subst hb;simp
   ·simp only [decR,List.mem_cons,List.not_mem_nil,or_false] at hb
    rcases hb with rfl | rfl <;> simp)
  have hpv:pv.oneCell'=true:=by rcases hV with ⟨_,rfl⟩ | ⟨_,b,l,c,rfl,_⟩ <;> rfl
  refine ⟨_,rfl,?_⟩
  refine Lo O (Y.movT O) (Lo O (Y.ext O O) (Lo O (Y.ext O O) (Lo O (Y.ext O O) ?_)))
  refine VL.putW (vs:=t4 (t,pv)) H 0 stn_87 O O O O O (by
   intro v hv
   simp only [t4,List.mem_cons,List.not_mem_nil,or_false] at hv
   rcases hv with rfl | rfl | rfl | rfl <;> first | rfl | exact hpv) ?_
  intro w H
  simp only [List.set] at H
  refine Lo O (AI O) (Lo O (Y.asg O) (Lt ?_))
  have hT4:∀ x ∈ [b14,b10,b9,σ.d,σ.rd],x ∈ [b10,b9,σ.d,σ.rd]∨w3.heap.size≤x:=fun x hx => by
   simp only [List.mem_cons,List.not_mem_nil,or_false] at hx
   rcases hx with rfl | h
   ·exact .inr hb14
   ·exact .inl (by simpa using h)
  have hk4:t.kind<4:=by have:=hOk.kind;omega
  refine Cs (Cy (Lo O (Y.mov O) (Lo O (Y.neqNilF ifc_47 O O) (Lt (CB O (fun h => nomatch h) (fun _ => (Ck (tn ?_))))))))
  replace H:St w4 [b14,b10,b9,σ.d,σ.rd] [blkR b14 (t4 (t,pv)) 87,blkR b10 (seenC (kindIn (q.map (·.1)))) 89,blkR b9 (trCells 4 q) 88,decR σ Rk] _:=H
  have hsget:=seenC_get (kindIn (q.map (·.1))) t.kind hk4
  cases hkin:kindIn (q.map (·.1)) t.kind
  case true =>
   rw [hkin] at hsget
   have hany:((q.map (·.1)).any fun x => decide (x.kind=t.kind))=true:=hkin
   rw [if_pos hany,pb_no (show no Rk=none from rfl)] at hdec
   refine Cs (Cy (Lo O (Y.fa fa_87_0 O) (Lo O (Y.ld ld_36 O (H.cell 0 (v:=.int .u32 (t.kind:Nat)) O O)) (Lo O (Y.ixA1 t.kind ar_89 h10 O O hk4) (Lo O (Y.ld ld_4 O (H.cell 1 O hsget)) (Lt ?_))))))
   refine CB O (fun _ => ?_) (fun h => nomatch h)
   refine Cy (VL.errNew H O O ?_)
   intro w a H
   refine Lo O (Y.asg O) (Lo O (Y.asg O) (Lt (Ct (thn_r (blk_r (thn_r (blk_r (thn_r ?_))))))))
   exact Done.ret2 O O O (.inr ⟨hdec,⟨_,rfl⟩,hFF _ (hF3.trans (hF4.then H.frm hT4))⟩)
  case false =>
  rw [hkin] at hsget
  have hany:((q.map (·.1)).any fun x => decide (x.kind=t.kind))=false:=hkin
  rw [if_neg (by rw [hany];simp)] at hdec
  have hsn2:=seenN_snoc (q.map (·.1)) t hk4 hkin
  have hsle:=seenN_le (q.map (·.1)++[t])
  have hq3:q.length≤3:=by omega
  refine Cs (Cy (Lo O (Y.fa fa_87_0 O) (Lo O (Y.ld ld_36 O (H.cell 0 (v:=.int .u32 (t.kind:Nat)) O O)) (Lo O (Y.ixA1 t.kind ar_89 h10 O O hk4) (Lo O (Y.ld ld_4 O (H.cell 1 O hsget)) (Lt (CB O (fun h => nomatch h) (fun _ => (Ck (tn (Cy (Lo O (Y.fa fa_87_0 O) (Lo O (Y.ld ld_36 O (H.cell 0 (v:=.int .u32 (t.kind:Nat)) O O)) (Lo O (Y.ixA1 t.kind ar_89 h10 O O hk4) (VL.putB H 1 st_4 O O O hsget ?_)))))))))))))))
  intro w H
  simp only [List.set] at H
  refine Lt ?_
  rw [show ((seenC (kindIn (q.map (·.1)))).set (0+t.kind) (.bool true))=seenC (kindIn (q.map (·.1)++[t])) from seenC_set _ t hk4] at H
  refine Cy (Lo O (YI (by assumption)) (Lo O (Y.ldn (cs:=t4 (t,pv)) ldn_87 O O (fun j hj => by rw [Nat.zero_add];exact (H.blk (i:=0) O).cell j)) (Lo O (Y.ixA q.length ar_88 h9 O O (by omega)) ?_)))
  refine VL.putN H 2 stn_87 O O O O (by rw [trCells_length];omega) (by
   intro v hv
   simp only [t4,List.mem_cons,List.not_mem_nil,or_false] at hv
   rcases hv with rfl | rfl | rfl | rfl <;> first | rfl | exact hpv) ?_
  intro w H
  simp only [List.set] at H
  refine Lt ?_
  rw [trCells_wr q (t,pv) hq3] at H
  refine Cr (Lo O (YI (by assumption)) (Lo O (Y.add O O (n64 (b:=1) (by omega))) (Lo O (AI O) (Ln (blk_n (tn ?_))))))
  have hql:(q++[(t,pv)]).length=q.length+1:=by simp
  have hqm:(q++[(t,pv)]).map (·.1)=q.map (·.1)++[t]:=by simp
  have hVf:TrV W0.heap.size w t pv:=(hV.keep H.frm (fun x hx => by
   simp only [List.mem_cons,List.not_mem_nil,or_false] at hx
   rcases hx with rfl | rfl | rfl | rfl | rfl
   ·exact hb14w
   ·have:=hb10W;omega
   ·have:=hb9W;omega
   ·have:=hdW0.1;omega
   ·have:=hdW0.2;omega)).low (by omega)
  have H5:=St.back hF4 H hT4
  have hF5:=H5.frm
  exact ⟨4 - (q++[(t,pv)]).length,by omega,q++[(t,pv)],nw,Rk,rfl,by rw [hdec,hqm,hql,show 5 - (q.length+1)=4 - q.length by omega],by omega,by rw [hqm,hql];omega,by rw [hqm,hnw];exact hch.snoc htw,fun p hp => by
   rw [List.mem_append,List.mem_singleton] at hp
   rcases hp with hp | rfl
   ·exact ⟨(hall p hp).1,(hall p hp).2.keep hF5 hlow⟩
   ·exact ⟨hOk,hVf⟩,hnw1,hnw2,by rw [← hσd];exact h4,rfl,h6,by rw [hql];rfl,h9,h10,h11,by rw [hqm];exact St.back hF3 (H5.sub [1,2,3] O (by decide)) hTT⟩
 case refine_2 =>
 clear H hdec
 rintro ρ w3 ⟨q,wn,Ri,hdec,hq4,hch,hall,hwn,hwn2,h4,h5,h6,h8,h9,h11,H⟩
 rw [← hσd] at h4
 have hF3:=H.frm
 have ro3:RO σ w3:=ro0.keep hF3 hS
 have hW3:=hF3.size
 replace H:=H.base [b10,b9,σ.d,σ.rd] (by
  intro r hr b hb
  simp only [List.mem_cons,List.not_mem_nil,or_false] at hr
  rcases hr with rfl | rfl
  ·simp only [blkR,List.mem_singleton] at hb;subst hb;simp
  ·simp only [decR,List.mem_cons,List.not_mem_nil,or_false] at hb
   rcases hb with rfl | rfl <;> simp)
 have hPx:=OKT σ Ri w3 wn ht 0 (H.get (i:=1) rfl) ro3 hwn hwn2 hh hh2 (by omega)
 cases hds:decPix true wn ht Ri
 case none =>
  rw [pb_no hds] at hdec
  refine Cy (Lo O (YP (by assumption)) (Lo O (YI (by assumption)) (Lo O (YI (by assumption)) (VL.call O ent_40 hPx O ?_))))
  intro e w4 hP
  rcases hP with ⟨px',R3',bp,hr,_⟩ | ⟨_,⟨a,rfl⟩,hf⟩
  ·rw [hds] at hr;cases hr
  replace H:=H.lost (i:=1) rfl hf
  refine ⟨_,rfl,?_⟩
  refine Lo O (Y.movT O) (Lo O (Y.ext O O) (Lo O (Y.ext O O) (Lo O (AS O) (Lo O (Y.asg O) (Lt (Cs (Cy (Lo O (Y.mov O) (Lo O (Y.neqNilT ifc_47 O O) (Lt ?_))))))))))
  refine CB O (fun _ => ?_) (fun h => nomatch h)
  refine Cy (Lo O (Y.mov O) (Lo O (Y.asg O) (Lo O (Y.asg O) (Lt (Ct (thn_r ?_))))))
  exact Done.ret2 O O O (.inr ⟨hdec,⟨_,rfl⟩,hFF _ (hF3.trans H.frm)⟩)
 case some qp =>
 obtain ⟨px,Rk⟩:=qp
 rw [pb_ok hds] at hdec
 refine Cy (Lo O (YP (by assumption)) (Lo O (YI (by assumption)) (Lo O (YI (by assumption)) (VL.call O ent_40 hPx O ?_))))
 intro e w4 hP
 rcases hP with ⟨px',R3',bp,hr,rfl,hlen,hp32,hd4,hnew,hbp,hf⟩ | ⟨hr,_⟩
 rotate_left
 ·rw [hds] at hr;cases hr
 rw [hds] at hr
 obtain ⟨rfl,rfl⟩:=Prod.mk.inj (Option.some.inj hr)
 replace H:=H.grow (i:=1) rfl hf hd4 (decR_local σ Rk) rfl hbp hnew
 simp only [List.set] at H
 rw [Nat.zero_max,← hlen] at H
 rw [Nat.zero_max,← hlen]
 refine ⟨_,rfl,?_⟩
 refine Lo O (Y.movT O) (Lo O (Y.ext O O) (Lo O (Y.ext O O) (Lo O (AS O) (Lo O (Y.asg O) (Lt (Cs (Cy (Lo O (Y.mov O) (Lo O (Y.neqNilF ifc_47 O O) (Lt (CB O (fun h => nomatch h) (fun _ => (Ck (tn ?_))))))))))))))
 have hpxB:px.length≤268435456:=by rw [hlen];exact Nat.mul_le_mul hwn2 hh2
 obtain ⟨total,htot⟩:∃ total,total=undoAll ht (q.map (·.1)) px:=⟨_,rfl⟩
 rw [← htot] at hdec
 refine Cs (Cy (Lo O (YI (by assumption)) (Lo O (Y.sub O O (w64 (by omega))) (Lo O (AI O) (Lt ?_)))))
 refine VC.join (fun ρ w' => ∃ bq cq,ρ 6=.int .i32 (ht:Nat)∧ρ 11=.int .i32 (wd:Nat)∧ρ 15=.slice (some ⟨bq,0,none⟩) (4 * total.length) cq∧total.length=wd * ht∧4 * total.length≤cq∧cq≤1073742848∧w3.heap.size≤bq ∧
  St w3 [b10,b9,σ.d,σ.rd] [blkR bq (rowK .u8 (byteAt total) cq) 5,blkR b9 (trCells 4 q) 88,decR σ Rk] w') ?_ ?_
 case refine_1 =>
  refine Cb ?_
  refine Cl (fun mm ρ w' => ∃ k wk bq cq cur,k=mm∧k≤q.length∧Chain wd ((q.take k).map (·.1)) wk∧cur.length=wk * ht∧undoAll ht ((q.take k).map (·.1)) cur=total∧ρ 6=.int .i32 (ht:Nat)∧ρ 9=.pointer (some ⟨b9,0,none⟩)∧ρ 11=.int .i32 (wd:Nat)∧ρ 15=.slice (some ⟨bq,0,none⟩) (4 * cur.length) cq∧ρ 16=.int .i64 ((k:Int) - 1) ∧
   4 * cur.length≤cq∧cq≤1073742848∧w3.heap.size≤bq∧St w3 [b10,b9,σ.d,σ.rd] [blkR bq (rowK .u8 (byteAt cur) cq) 5,blkR b9 (trCells 4 q) 88,decR σ Rk] w') q.length
   ⟨q.length,wn,bp,_,px,rfl,by omega,by rw [List.take_length];exact hch,hlen,by rw [List.take_length];exact htot.symm,h6,h9,h11,rfl,rfl,Nat.le_refl _,by omega,hnew,H⟩ ?_
  clear H h4 h5 h6 h8 h9 h11
  clear ρ
  rintro mm ρ w5 ⟨k,wk,bq,cq,cur,hmm,hk,hck,hcl,hun,h6,h9,h11,h15,h16,hcq,hcq2,hbq,H⟩
  subst hmm
  refine Cs (Cy (Lo O (YI (by assumption)) (Lo O (Y.geq O O) (Lt ?_))))
  by_cases hk0:k=0
  case pos =>
   subst hk0
   have hwk:wd=wk:=hck
   have hcur:cur=total:=hun
   subst hwk hcur
   refine CF O (by omega) (Cx (thn_x (thn_x (blk_x (tn ?_)))))
   exact ⟨bq,cq,h6,h11,h15,hcl,hcq,hcq2,hbq,H⟩
  case neg =>
  obtain ⟨k,rfl⟩:∃ k',k=k'+1:=⟨k - 1,by omega⟩
  have hkl:k<q.length:=by omega
  have hqk:q[k]?=some q[k]:=List.getElem?_eq_getElem hkl
  obtain ⟨p,hp⟩:∃ p,p=q[k]:=⟨_,rfl⟩
  rw [← hp] at hqk
  have hpm:p ∈ q:=by rw [hp];exact List.getElem_mem hkl
  rw [List.take_succ_eq_append_getElem hkl,List.map_append,← hp] at hck hun
  obtain ⟨hck1,hwk⟩:=Chain.unsnoc hck
  rw [show undoAll ht ((q.take k).map (·.1)++[p].map (·.1)) cur=undoAll ht ((q.take k).map (·.1)) (undo1 ht p.1 cur) from by unfold undoAll;rw [List.foldr_append];rfl] at hun
  obtain ⟨hOk,hV⟩:=hall p hpm
  have hV3:=hV
  have hVw:=hV.keep H.frm hlow
  have hTA:=trAt (H.blk (i:=1) rfl) hqk (by omega)
  rw [hwk] at hcl
  have hnl:=undo1_length hcl hOk.kind
  obtain ⟨f,hf1,hf2,hf3⟩:=undo_any w5 b9 (0+k * 4) p.1 p.2 bq cq ht W0.heap.size cur hTA hOk hVw (by omega) (fun b l c he => by
   rcases hV3 with ⟨_,h⟩ | ⟨_,b2,l2,c2,h,_,_,hb,_⟩
   ·rw [h] at he;cases he
   ·rw [h] at he
    simp only [Value.slice.injEq,Option.some.injEq,Addr.mk.injEq] at he
    have:=hb.lt
    omega) hh hh2 (H.blk (i:=0) rfl) hcl hcq hcq2
  have h35:=H.high
  have hkd:p.1.kind<4:=by have:=hOk.kind;omega
  have hinv:=(ro3.frm H hS).gl.inv p.1.kind f hf1
  have h16':ρ 16=.int .i64 (k:Nat):=by rw [h16,show ((k+1:Nat):Int) - 1=(k:Int) by omega]
  generalize undo1 ht p.1 cur=nxt at *
  refine CT O (by omega) (Ck (tn (Cs (Cb (Cy (Lo O (YI h16') (Lo O (Y.ixA k ar_88 h9 O O (by omega)) (Lo O (Y.asgP O) (Lt (Cr (Lo O (YP O) (Lo O (Y.nilP O) (Lo O (Y.fa fa_87_0 O) (Lo O (Y.ld ld_36 O hTA.kind) (Lo O (Y.ixA0 p.1.kind ar_99 O O O hkd) (Lo O (Y.ld ld_98 O hinv) (Lo O (YP O) ?_)))))))))))))))))
  refine Lo O (YS (by assumption)) (Lo O (YI (by assumption)) (VL.callV (fs:=[]) (cs:=[]) (vs:=[.pointer (some ⟨b9,0+k * 4,none⟩),.slice (some ⟨bq,0,none⟩) (4 * cur.length) cq,.int .i32 (ht:Nat)]) O hf2 O hf3 O ?_))
  intro e w6 hI
  obtain ⟨b',cap',rfl,hc1,hc2',hor,hbk,hfr⟩:=hI
  replace H:=H.swap hfr hbk hor
  refine ⟨_,rfl,?_⟩
  refine Lo O (AS O) (Ln (blk_n (tn (Cr (Lo O (YI h16') (Lo O (Y.sub O O (w64 (by omega))) (Lo O (AI O) (Lt ?_))))))))
  exact ⟨k,by omega,k,p.1.wd,b',cap',nxt,rfl,by omega,hck1,hnl,hun,h6,h9,h11,rfl,rfl,hc1,hc2',by
   rcases hor with h | h
   ·rw [h];exact hbq
   ·omega,H⟩
 case refine_2 =>
 clear H h4 h5 h6 h8 h9 h11 ρ
 rintro ρ w5 ⟨bq,cq,h6,h11,h15,htl,hcq,hcq2,hbq,H⟩
 refine Cy (Lo O (YS (by assumption)) (Lo O (YI (by assumption)) (Lo O (Y.cv int_21_3 O (w64 (by omega))) (Lo O (Y.mul O O (m64 (a:=4) (by omega))) (Lo O (YI (by assumption)) (Lo O (Y.cv int_21_3 O (w64 (by omega))) (Lo O (YI (by assumption)) (Lo O (Y.cv int_21_3 O (w64 (by omega))) (VL.call O ent_41 (rect_any _ wd ht) O ?_)))))))))
 rintro e w6 ⟨rfl,hfr⟩
 replace H:=H.quiet hfr
 refine ⟨_,rfl,?_⟩
 refine Lo O (Y.bld [.slice (some ⟨bq,0,none⟩) (4 * total.length) cq,.int .i64 ((4 * wd:Nat):Int),.int .i64 0,.int .i64 0,.int .i64 (wd:Nat),.int .i64 (ht:Nat)] O (by kernel_rfl)) (VL.box H (cs:=[.slice (some ⟨bq,0,none⟩) (4 * total.length) cq,.int .i64 ((4 * wd:Nat):Int),.int .i64 0,.int .i64 0,.int .i64 (wd:Nat),.int .i64 (ht:Nat)]) O O O ?_)
 intro w bi hbi1 hbi2 H
 refine Lo O (Y.mki mki_69 O) (Lo O (Y.asg O) (Lo O (Y.asg O) (Lt (Ct ?_))))
 have hWW:W.heap.size≤w3.heap.size:=Nat.le_trans hF0.size hW3
 exact Done.ret2 O O O (.inl ⟨wd,ht,total,Rk,bi,bq,cq,d,hdec,rfl,H.blk (i:=0) rfl,hcq,hcq2,H.blk (i:=1) rfl,htl,hw,hw2,hh,hh2,by omega,by omega,hd1,by rw [← hσ];exact H.get (i:=3) rfl,hFF _ (hF3.trans H.frm)⟩)
structure SIn (sb so:Nat) (s:List Nat) (w:World):Prop where
 gl:Gl w
 bytes:∀ j (h:j<s.length),w.cell? ⟨sb,so+j,none⟩=some (.int .u8 (s[j]:Nat))
 small:∀ c ∈ s,c<256
 len:s.length≤4611686018427387904
 sbl:sb<w.heap.size
theorem newReader_any (sb so cap:Nat) (s:List Nat) (W:World) (I:SIn sb so s W) :
  Calls Tryd.prog 18 #[.slice (some ⟨sb,so,none⟩) s.length cap] W fun e w' => ∃ rd,e=.returned (.pointer (some ⟨rd,0,none⟩))∧RIn rd sb so cap s w'∧W.heap.size≤rd∧Frm [] W w':=by
 have H:St W [] [] W:=St.nil W []
 have hh:=I.gl.high
 have hsb:=I.sbl
 refine enter (m:=6) Tryd.func18 O Tryd.ntmps18 O (Cy (Lo O (Y.asg O) (Lt (Cy (Lo O (YS O) (Lo O (Y.bld [.slice (some ⟨sb,so,none⟩) s.length cap,.int .i64 0,.int .i64 (-1)] O (by kernel_rfl)) (VL.box H (cs:=[.slice (some ⟨sb,so,none⟩) s.length cap,.int .i64 0,.int .i64 (-1)]) O O O ?_)))))))
 intro w b hb1 hb2 H
 refine Lo O (Y.asg O) (Lt (Ct ?_))
 exact Done.ret1 O O ⟨b,rfl,⟨I.gl.keep H.frm (by simp [HighS]),H.blk (i:=0) rfl,fun j hj => H.frm.cell (I.bytes j hj) (by simp),I.small,I.len,Nat.lt_of_lt_of_le hsb H.high,by omega,by omega⟩,hb2,H.frm⟩
theorem len_any (W:World) (rd:Nat) (a:Option Addr) (n cap i:Nat) (pr:Int) (hb:Blk W rd [.slice a n cap,.int .i64 (i:Nat),.int .i64 pr] 80) (hi:i≤n) (hn:n≤4611686018427387904) :
  Calls Tryd.prog 20 #[.pointer (some ⟨rd,0,none⟩)] W fun e w' => e=.returned (.int .i64 ((n - i:Nat):Int))∧Frm [] W w':=by
 have H:St W [] [] W:=St.nil W []
 have hS:rd ∉ ([]:List Nat):=List.not_mem_nil
 have c0:W.cell? ⟨rd,0+0,none⟩=some (.slice a n cap):=hb.cellv rfl
 have c1:W.cell? ⟨rd,0+1,none⟩=some (.int .i64 (i:Nat)):=hb.cellv rfl
 refine enter (m:=23) Tryd.func20 O Tryd.ntmps20 O (Cy (Lo O (AI O) (Lt (Cs (Cs (Cd mixedP (by kernel_rfl) ?_))))))
 intro w hsame
 replace H:=H.same hsame
 refine So O (YP O) (So O (Y.nilP O) (So O (Y.fa fa_80_1 O) (So O (Y.ld ld_2 O (H.old (by assumption) (by assumption))) (So O (YP O) (So O (Y.nilP O) (So O (Y.fa fa_80_0 O) (So O (Y.ld ld_24 O (H.old (by assumption) (by assumption))) (So O (Y.len sl_24 O) (So O (Y.geq O O) (Sn (tn ?_)))))))))))
 by_cases h:n≤i
 case pos =>
  have e:n - i=0:=by omega
  rw [e]
  refine CT O (by omega) (Cy (Lo O (AI O) (Lt (Ct (thn_r ?_)))))
  exact Done.ret1 O O ⟨rfl,H.frm⟩
 refine CF O (by omega) (Ck (tn (Cs (Cd mixedP (by kernel_rfl) ?_))))
 intro w hsame
 replace H:=H.same hsame
 refine So O (YP O) (So O (Y.nilP O) (So O (Y.fa fa_80_0 O) (So O (Y.ld ld_24 O (H.old (by assumption) (by assumption))) (So O (Y.len sl_24 O) (So O (YP O) (So O (Y.nilP O) (So O (Y.fa fa_80_1 O) (So O (Y.ld ld_2 O (H.old (by assumption) (by assumption))) (So O (Y.sub O O (s64 (by omega))) (So O (AI O) (Sn (tn (Ct ?_)))))))))))))
 exact Done.ret1 O O ⟨rfl,H.frm⟩
def imgV (bx len cp wd ht:Nat):List Value:=[.slice (some ⟨bx,0,none⟩) len cp,.int .i64 ((4 * wd:Nat):Int),.int .i64 0,.int .i64 0,.int .i64 (wd:Nat),.int .i64 (ht:Nat)]
def recV (wd ht:Nat):List Value:=[.int .i64 0,.int .i64 0,.int .i64 (wd:Nat),.int .i64 (ht:Nat)]
theorem bounds_any (W:World) (bi bx len cp wd ht:Nat) (hb:Blk W bi (imgV bx len cp wd ht) 77) :
  Calls Tryd.prog 31 #[.pointer (some ⟨bi,0,none⟩)] W fun e w' => e=.returned (.agg (recV wd ht).toArray)∧Frm [] W w':=by
 have H:St W [] [] W:=St.nil W []
 refine enter (m:=7) Tryd.func31 O Tryd.ntmps31 O (Cy (VL.alloc H zer_74 O ?_))
 intro w b2 hn2 hb2 H
 refine Lt (Cy (Lo O (YP O) (Lo O (Y.nilP O) (Lo O (Y.fa fa_77_2 O) (Lo O (Y.ldn (cs:=recV wd ht) ldn_74 O O (fun j hj => by rw [show ∀ q,0+2+q=q+2 by omega] ;exact (H.frm.blk hb (by simp)).cell (j+2))) (VL.putW (vs:=recV wd ht) H 0 stn_74 O O O O O (by intro v hv;simp [recV] at hv;rcases hv with rfl | rfl | rfl | rfl <;> rfl) ?_))))))
 intro w H
 simp only [List.set] at H
 refine Lt (Ct ?_)
 exact Done.retC1 (cs:=recV wd ht) O ldn_74 O O (fun j hj => by rw [Nat.zero_add];exact (H.blk (i:=0) O).cell j) ⟨rfl,H.frm⟩
theorem dx_any (W:World) (wd ht:Nat) (hw:wd≤16384) :
  Calls Tryd.prog 33 #[.agg (recV wd ht).toArray] W fun e w' => e=.returned (.int .i64 (wd:Nat))∧Frm [] W w':=by
 have H:St W [] [] W:=St.nil W []
 refine enter (m:=10) Tryd.func33 O Tryd.ntmps33 O (Cy (VL.box H (cs:=recV wd ht) O O O ?_))
 intro w b hb1 hb2 H
 refine Lo O (AI O) (Lt (Cy (Lo O (Y.fa fa_74_1 O) (Lo O (Y.fa fa_72_0 O) (Lo O (Y.ld ld_3 O (H.cell 0 O O)) (Lo O (Y.fa fa_74_0 O) (Lo O (Y.fa fa_72_0 O) (Lo O (Y.ld ld_3 O (H.cell 0 O O)) (Lo O (Y.sub (r:=((wd:Nat):Int)) O O (by rw [w64 (by omega)];omega)) (Lo O (AI O) (Lt (Ct ?_))))))))))))
 exact Done.ret1 O O ⟨rfl,H.frm⟩
theorem dy_any (W:World) (wd ht:Nat) (hw:ht≤16384) :
  Calls Tryd.prog 34 #[.agg (recV wd ht).toArray] W fun e w' => e=.returned (.int .i64 (ht:Nat))∧Frm [] W w':=by
 have H:St W [] [] W:=St.nil W []
 refine enter (m:=10) Tryd.func34 O Tryd.ntmps34 O (Cy (VL.box H (cs:=recV wd ht) O O O ?_))
 intro w b hb1 hb2 H
 refine Lo O (AI O) (Lt (Cy (Lo O (Y.fa fa_74_1 O) (Lo O (Y.fa fa_72_1 O) (Lo O (Y.ld ld_3 O (H.cell 0 O O)) (Lo O (Y.fa fa_74_0 O) (Lo O (Y.fa fa_72_1 O) (Lo O (Y.ld ld_3 O (H.cell 0 O O)) (Lo O (Y.sub (r:=((ht:Nat):Int)) O O (by rw [w64 (by omega)];omega)) (Lo O (AI O) (Lt (Ct ?_))))))))))))
 exact Done.ret1 O O ⟨rfl,H.frm⟩
theorem pixOffset_any (W:World) (bi bx len cp wd ht:Nat) (j y:Nat) (hb:Blk W bi (imgV bx len cp wd ht) 77) (hy:y≤16384) (hw:wd≤16384) :
  Calls Tryd.prog 32 #[.pointer (some ⟨bi,0,none⟩),.int .i64 0,.int .i64 (y:Nat)] W fun e w' => e=.returned (.int .i64 ((4 * (y * wd):Nat):Int))∧Frm [] W w':=by
 have H:St W [] [] W:=St.nil W []
 have hS:bi ∉ ([]:List Nat):=List.not_mem_nil
 have c1:W.cell? ⟨bi,0+1,none⟩=some (.int .i64 ((4 * wd:Nat):Int)):=hb.cellv rfl
 have c2:W.cell? ⟨bi,0+2+0+0,none⟩=some (.int .i64 0):=hb.cellv rfl
 have c3:W.cell? ⟨bi,0+2+0+1,none⟩=some (.int .i64 0):=hb.cellv rfl
 have hm:y * wd≤16384 * 16384:=Nat.mul_le_mul hy hw
 refine enter (m:=30) Tryd.func32 O Tryd.ntmps32 O (Cy (Lo O (AI O) (Lt (Cs (Cd mixedP (by kernel_rfl) ?_)))))
 intro w hsame
 replace H:=H.same hsame
 refine So O (YI O) (So O (YP O) (So O (Y.nilP O) (So O (Y.fa fa_77_2 O) (So O (Y.fa fa_74_0 O) (So O (Y.fa fa_72_1 O) (So O (Y.ld ld_3 O (H.old (by assumption) (by assumption))) (So O (Y.sub (r:=((y:Nat):Int)) O O (by rw [w64 (by omega)];omega)) (So O (YP O) (So O (Y.nilP O) (So O (Y.fa fa_77_1 O) (So O (Y.ld ld_3 O (H.old (by assumption) (by assumption))) (So O (Y.mul (r:=((y * (4 * wd):Nat):Int)) O O (m64 (by rw [Nat.mul_left_comm];omega))) (So O (YI O) (So O (YP O) (So O (Y.nilP O) (So O (Y.fa fa_77_2 O) (So O (Y.fa fa_74_0 O) (So O (Y.fa fa_72_0 O) (So O (Y.ld ld_3 O (H.old (by assumption) (by assumption))) ?_)))))))))))))))))))
 refine So O (Y.sub (r:=((0:Nat):Int)) O O (by rw [w64 (by omega)];rfl)) (So O (Y.mul (r:=((0:Nat):Int)) O O (m64 (a:=0) (b:=4) (by omega))) (So O (Y.add (r:=((4 * (y * wd):Nat):Int)) O O (by rw [n64 (by rw [Nat.mul_left_comm];omega),Nat.mul_left_comm];rfl)) (So O (AI O) (Sn (tn (Ct ?_))))))
 exact Done.ret1 O O ⟨rfl,H.frm⟩
end Go.Proofs.YtinkhckpckfajaaDoor
set_option maxHeartbeats 1000000
namespace Go.Proofs.YtinkhckpckfajaaDoor
open Go
def TAC (P:Program) (t:TypeId):Prop:=∀ (v:Value) (u:TypeId) (w:World),(Instr.typeAssert (.iface t v) u t true).run P w=.ok (.tuple #[v,.bool true]) w
theorem tac:TAC Tryd.prog 69:=fun _ _ _ => by kernel_rfl
theorem Y.tac {P:Program} {e:Operand→Value} {d:Option Tmp} {ty:TypeId} {pos:String} {after:Array Edge} {g:Option (Nat × Bool)} {w:World} {x:Operand} {u t:TypeId} {v:Value} (F:TAC P t) (hx:e x=.iface t v):Yld P e ⟨d,.typeAssert x u t true,ty,pos,after,g⟩ w (.tuple #[v,.bool true]) w:=by
 unfold Yld
 simp only [execOp,hx,Sem.run_bind,F v u w,Result.andThen_ok]
 rfl
theorem rowK_append (k:IntKind) (f:Nat→Nat) (a b:Nat):rowK k f a++rowK k (fun j => f (a+j)) b=rowK k f (a+b):=by
 unfold rowK
 rw [List.range_add,List.map_append,List.map_map]
 rfl
theorem rowK_one (k:IntKind) (f:Nat→Nat) (n:Nat):∀ u ∈ rowK k f n,u.oneCell'=true:=by
 intro u hu
 obtain ⟨j,_,rfl⟩:=List.mem_map.1 hu
 rfl
theorem rest_any (sb so cap:Nat) (s:List Nat) (W:World) (I:SIn sb so s W) (q:Nat × Nat × List Nat) (R':Bits) (hdec:decAll (bitsOf s)=some (q,R')) :
  Calls Tryd.prog 12 #[.slice (some ⟨sb,so,none⟩) s.length cap] W fun e w' => (∃ i nb,Reg s R' i nb∧nb≤14∧e=.returned (.tuple #[.int .i64 ((s.length - i:Nat):Int),.bool true]))∧Frm [] W w':=by
 refine enter (m:=19) Tryd.func12 O Tryd.ntmps12 O (Cy (Lo O (AI O) (Lo O (Y.asgB O) (Lt (Cy (Lo O (YS O) (VL.call O ent_18 (newReader_any sb so cap s W I) O ?_)))))))
 rintro e w1 ⟨rd,rfl,I1,hrd,hf1⟩
 refine ⟨_,rfl,?_⟩
 refine Lo O (Y.asgP O) (Lt (Cy (Lo O (YP O) (Lo O (Y.mki mki_42 O) (VL.call O ent_19 (decode_any rd sb so cap s w1 I1) O ?_)))))
 intro e w2 hP
 rw [hdec] at hP
 rcases hP with ⟨wd,ht,out,R',bi,bx,cp,d,hr,rfl,hb,h1,h2,h3,h4,h5,h6,h7,h8,h9,h10,h11,hD,hf⟩ | ⟨hr,_⟩
 rotate_left
 ·cases hr
 obtain ⟨rfl,rfl⟩:=Prod.mk.inj (Option.some.inj hr)
 refine ⟨_,rfl,?_⟩
 refine Lo O (Y.movT O) (Lo O (Y.ext O O) (Lo O (Y.ext O O) (Lo O (Y.asg O) (Lo O (Y.asg O) (Lt ?_)))))
 obtain ⟨i,nb,pr,hD1,hD2,hnb,hreg⟩:=hD
 have H:St W [] [] w2:=(St.nil W []).quiet (hf1.then hf (by simp;exact hrd))
 have hl:=I.len
 have Hx:St w2 [] [] w2:=St.nil w2 []
 refine Cs ?_
 refine VC.held ((Frm [] w2)) mixedP (by with_reducible repeat (first | refine NoP.thn ?_ | refine NoP.blk ?_ | refine NoP.jmp ?_ | refine NoP.nojmp ?_ | exact NoP.done)) ?_
 intro w hsame
 replace Hx:=Hx.same hsame
 refine Ht 0 O (by kernel_rfl) (by kernel_rfl) (by kernel_rfl) O Hx.frm (fun w hI => YP O) (Ht 2 O (by kernel_rfl) (by kernel_rfl) (by kernel_rfl) O Hx.frm (fun w hI => Y.mov O) (Ht 3 O (by kernel_rfl) (by kernel_rfl) (by kernel_rfl) O Hx.frm (fun w hI => Y.eqlNilT ifc_47 O O) (VH.call 1 O (by kernel_rfl) O ent_20 (len_any w rd _ _ _ _ _ (Hx.frm.blk hD2 (by simp)) hreg.i_le hl) O ?_)))
 rintro e w5 ⟨rfl,hf5⟩
 replace Hx:=Hx.quiet hf5
 refine ⟨_,rfl,Hx.frm,?_⟩
 refine Ht 4 O (by kernel_rfl) (by kernel_rfl) (by kernel_rfl) O Hx.frm (fun w hI => AI O) (Ht 5 O (by kernel_rfl) (by kernel_rfl) (by kernel_rfl) O Hx.frm (fun w hI => Y.asgB O) (VH.nil (by kernel_rfl) (tn (Ct ?_))))
 exact Done.ret2 O O O ⟨⟨i,nb,hreg,hnb,rfl⟩,H.frm.trans Hx.frm⟩
def DPost (s:List Nat) (W:World) (e:Ending) (w':World):Prop :=
 Frm [] W w'∧((decAll (bitsOf s)=none∧e=.returned (.tuple #[.int .i64 0,.int .i64 0,.slice none 0 0,.bool false])) ∨
  ∃ wd ht out R' a c,decAll (bitsOf s)=some ((wd,ht,out),R')∧e=.returned (.tuple #[.int .i64 (wd:Nat),.int .i64 (ht:Nat),.slice a (4 * out.length) c,.bool true]) ∧
   VecOk w' a c 5 1 (4 * out.length) (rowK .u8 (byteAt out) (4 * out.length))∧(∀ x ∈ footA a,W.heap.size≤x)∧out.length=wd * ht∧1≤wd∧wd≤16384∧1≤ht∧ht≤16384)
theorem impl_any (sb so cap:Nat) (s:List Nat) (W:World) (I:SIn sb so s W) :
  Calls Tryd.prog 15 #[.slice (some ⟨sb,so,none⟩) s.length cap] W (DPost s W):=by
 refine enter (m:=64) Tryd.func15 O Tryd.ntmps15 O (Cy (Lo O (AI O) (Lo O (AI O) (Lo O (Y.asg O) (Lo O (Y.asgB O) (Lt ?_))))))
 cases hdec:decAll (bitsOf s)
 case none =>
  refine Cy (Lo O (YS O) (VL.call O ent_18 (newReader_any sb so cap s W I) O ?_))
  rintro e w1 ⟨rd,rfl,I1,hrd,hf1⟩
  refine ⟨_,rfl,?_⟩
  refine Lo O (Y.mki mki_42 O) (VL.call O ent_19 (decode_any rd sb so cap s w1 I1) O ?_)
  intro e w2 hP
  rw [hdec] at hP
  rcases hP with ⟨wd,ht,out,R',bi,bx,cp,d,hr,_⟩ | ⟨_,⟨a,rfl⟩,hf⟩
  ·cases hr
  refine ⟨_,rfl,?_⟩
  refine Lo O (Y.movT O) (Lo O (Y.ext O O) (Lo O (Y.ext O O) (Lo O (Y.asg O) (Lo O (Y.asg O) (Lt (Cs (Cy (Lo O (Y.mov O) (Lo O (Y.neqNilT ifc_47 O O) (Lt ?_))))))))))
  refine CB O (fun _ => ?_) (fun h => nomatch h)
  refine Cy (Lo O (AI O) (Lo O (AI O) (Lo O (Y.asg O) (Lo O (Y.asgB O) (Lt (Ct (thn_r ?_)))))))
  exact Done.ret4 O O O O O ⟨hf1.then hf (by simp;exact hrd),.inl ⟨hdec,rfl⟩⟩
 case some q0 =>
 obtain ⟨⟨wd,ht,out⟩,R1⟩:=q0
 refine Cy (Lo O (YS O) (VL.call O ent_18 (newReader_any sb so cap s W I) O ?_))
 rintro e w1 ⟨rd,rfl,I1,hrd,hf1⟩
 refine ⟨_,rfl,?_⟩
 refine Lo O (Y.mki mki_42 O) (VL.call O ent_19 (decode_any rd sb so cap s w1 I1) O ?_)
 intro e w2 hP
 rw [hdec] at hP
 rcases hP with ⟨wd',ht',out',R',bi,bx,cp,d,hr,rfl,hb,hcp,hcp2,hbx,hol,hw,hw2,hh,hh2,h8,h9,h10,hD,hf⟩ | ⟨hr,_⟩
 rotate_left
 ·cases hr
 simp only [Option.some.injEq,Prod.mk.injEq] at hr
 obtain ⟨⟨rfl,rfl,rfl⟩,rfl⟩:=hr
 refine ⟨_,rfl,?_⟩
 refine Lo O (Y.movT O) (Lo O (Y.ext O O) (Lo O (Y.ext O O) (Lo O (Y.asg O) (Lo O (Y.asg O) (Lt ?_)))))
 have hF2:Frm [] W w2:=hf1.then hf (by simp;exact hrd)
 have H:St w2 [] [] w2:=St.nil w2 []
 refine Cs (Cy (Lo O (Y.mov O) (Lo O (Y.neqNilF ifc_47 O O) (Lt (CB O (fun h => nomatch h) (fun _ => (Ck (tn (Cy (Lo O (Y.mov O) (Lo O (Y.tac tac O) (Lo O (Y.movT O) (Lo O (Y.ext O O) (Lo O (Y.ext O O) (Lo O (Y.asgP O) (Lo O (Y.asgB O) (Lt ?_)))))))))))))))))
 refine Cs (Cy (Lo O (Y.movB O) (Lo O (Y.not O) (Lt (CB O (fun h => nomatch h) (fun _ => (Ck (tn (Cy (Lo O (YP O) (VL.call O ent_31 (bounds_any w2 bi bx _ cp wd ht hb) O ?_)))))))))))
 rintro e w3 ⟨rfl,hf3⟩
 replace H:=H.quiet hf3
 refine ⟨_,rfl,?_⟩
 refine VL.alloc H zer_74 O ?_
 intro w b9 hn9 hb9 H
 refine VL.putW (vs:=recV wd ht) H 0 stn_74 O O O O O (by intro v hv;simp [recV] at hv;rcases hv with rfl | rfl | rfl | rfl <;> rfl) ?_
 intro w H
 simp only [List.set] at H
 refine Lt ?_
 have hb':=H.frm.blk hb (by simp)
 have hbx':=H.frm.blk hbx (by simp)
 have hF:=hF2.trans H.frm
 have hB9:=H.blk (i:=0) rfl
 clear H
 generalize hWW:w=W0 at *
 have cP:W0.cell? ⟨bi,0+0,none⟩=some (.slice (some ⟨bx,0,none⟩) (4 * out.length) cp):=hb'.cellv rfl
 have d0:W0.cell? ⟨b9,0+0+0,none⟩=some (.int .i64 0):=hB9.cellv rfl
 have d1:W0.cell? ⟨b9,0+0+1,none⟩=some (.int .i64 0):=hB9.cellv rfl
 have d3:W0.cell? ⟨b9,0+2+1,none⟩=some (.int .i64 (ht:Nat)):=hB9.cellv rfl
 have hS:b9 ∉ ([]:List Nat):=List.not_mem_nil
 have H:St W0 [] [vecR none 0 5 1 0 []] W0:=St.one (.inl ⟨rfl,rfl,rfl,rfl⟩) (vecR_local _ _ _ _ _ _) (by simp [vecR,footA])
 have hm:wd * ht≤16384 * 16384:=Nat.mul_le_mul hw2 hh2
 refine Cs (Cy (Lo O (Y.fa fa_74_0 O) (Lo O (Y.fa fa_72_1 O) (Lo O (Y.ld ld_3 O (H.old (by assumption) (by assumption))) (Lo O (AI O) (Lt ?_))))))
 refine VC.join (fun ρ w' => ∃ a c,ρ 4=.slice a (4 * (ht * wd)) c∧ρ 9=.pointer (some ⟨b9,0,none⟩)∧St W0 [] [vecR a c 5 1 (4 * (ht * wd)) (rowK .u8 (byteAt out) (4 * (ht * wd)))] w') ?_ ?_
 case refine_1 =>
  refine Cb ?_
  refine Cl (fun mm ρ w' => ∃ y a c,y≤ht∧mm=ht - y∧ρ 4=.slice a (4 * (y * wd)) c∧ρ 8=.pointer (some ⟨bi,0,none⟩)∧ρ 9=.pointer (some ⟨b9,0,none⟩)∧ρ 10=.int .i64 (y:Nat)∧St W0 [] [vecR a c 5 1 (4 * (y * wd)) (rowK .u8 (byteAt out) (4 * (y * wd)))] w') ht
   ⟨0,none,0,by omega,rfl,by simp;rfl,rfl,rfl,rfl,by simpa [rowK] using H⟩ ?_
  clear H
  rintro mm ρ w5 ⟨y,a,c,hyh,hmm,h4,h8',h9',h10',H⟩
  refine Cs (Cy (Lo O (YI (by assumption)) (Lo O (Y.fa fa_74_1 (by assumption)) (Lo O (Y.fa fa_72_1 O) (Lo O (Y.ld ld_3 O (H.old (by assumption) (by assumption))) (Lo O (Y.lss O O) (Lt ?_)))))))
  by_cases hy:y=ht
  case pos =>
   subst hy
   refine CF O (by omega) (Cx (thn_x (thn_x (blk_x (tn ?_)))))
   exact ⟨a,c,h4,h9',H⟩
  have hyw:y * wd+wd≤ht * wd:=by rw [← Nat.succ_mul];exact Nat.mul_le_mul_right _ (by omega)
  rw [Nat.mul_comm wd ht] at hm hol
  refine CT O (by omega) (Ck (tn (Cs (Cb (Cy (Lo O (YP h8') (Lo O (Y.fa fa_74_0 (by assumption)) (Lo O (Y.fa fa_72_0 O) (Lo O (Y.ld ld_3 O (H.old (by assumption) (by assumption))) (Lo O (YI (by assumption)) (VL.call O ent_32 (pixOffset_any w5 bi bx _ cp wd ht 0 y (H.frm.blk hb' (by simp)) (by omega) hw2) O ?_)))))))))))
  rintro e w6 ⟨rfl,hf6⟩
  replace H:=H.quiet hf6
  refine ⟨_,rfl,?_⟩
  refine Lo O (AI O) (Lt ?_)
  refine VC.held ((Frm [] W0)) mixedP (by with_reducible repeat (first | refine NoP.thn ?_ | refine NoP.blk ?_ | refine NoP.jmp ?_ | refine NoP.nojmp ?_ | exact NoP.done)) ?_
  intro w hsame
  replace H:=H.same hsame
  refine Ht 0 O (by kernel_rfl) (by kernel_rfl) (by kernel_rfl) O H.frm (fun w hI => YS (by assumption)) (Ht 1 O (by kernel_rfl) (by kernel_rfl) (by kernel_rfl) O H.frm (fun w hI => YP (by assumption)) (Ht 2 O (by kernel_rfl) (by kernel_rfl) (by kernel_rfl) O H.frm (fun w hI => Y.nilP O) (Ht 3 O (by kernel_rfl) (by kernel_rfl) (by kernel_rfl) O H.frm (fun w hI => Y.fa fa_77_0 O) (Ht 4 O (by kernel_rfl) (by kernel_rfl) (by kernel_rfl) O H.frm (fun w hI => Y.ld ld_24 O (hI.cell cP (by simp))) (Ht 5 O (by kernel_rfl) (by kernel_rfl) (by kernel_rfl) O H.frm (fun w hI => YI O) (Ht 6 O (by kernel_rfl) (by kernel_rfl) (by kernel_rfl) O H.frm (fun w hI => YI O) (Ht 7 O (by kernel_rfl) (by kernel_rfl) (by kernel_rfl) O H.frm (fun w hI => Y.ldn (cs:=recV wd ht) ldn_74 h9' O (fun j hj => by rw [Nat.zero_add];exact (hI.blk hB9 (by simp)).cell j)) (VH.call 8 O (by kernel_rfl) O ent_33 (dx_any _ wd ht hw2) O ?_))))))))
  rintro e w7 ⟨rfl,hf7⟩
  replace H:=H.quiet hf7
  refine ⟨_,rfl,H.frm,?_⟩
  refine Ht 9 O (by kernel_rfl) (by kernel_rfl) (by kernel_rfl) O H.frm (fun w hI => Y.mul O O (m64 (a:=4) (by omega))) (Ht 10 O (by kernel_rfl) (by kernel_rfl) (by kernel_rfl) O H.frm (fun w hI => Y.add O O (n64 (by omega))) (Ht 11 O (by kernel_rfl) (by kernel_rfl) (by kernel_rfl) O H.frm (fun w hI => Y.sliceLH (4 * (y * wd)) (4 * (y * wd)+4 * wd) sl_24 O O O O O (by omega) (by omega) (by omega)) ?_))
  refine VH.append 12 O (by kernel_rfl) H 0 mk_24 (by decide) O O O O (news:=rowK .u8 (fun j => byteAt out (4 * (y * wd)+j)) (4 * wd)) (by rw [rowK_length];show _=_ * 1;omega) ?_ (rowK_one _ _ _) (by simp only [maxLen];omega) (by omega) ?_
  ·intro j u hj
   rcases Nat.lt_or_ge j (4 * wd) with hlt | hge
   ·rw [rowK_get hlt] at hj
    cases hj
    rw [Nat.zero_add,Nat.mul_one]
    exact (H.frm.blk hbx' (by simp)).cellv (rowK_get (by omega))
   ·rw [List.getElem?_eq_none (by rw [rowK_length];exact hge)] at hj
    cases hj
  intro a' c' w' hfa H
  have e:4 * (y * wd)+(4 * (y * wd)+4 * wd - 4 * (y * wd))=4 * ((y+1) * wd):=by have:=Nat.add_mul y 1 wd;omega
  have e2:4 * (y * wd)+4 * wd=4 * ((y+1) * wd):=by have:=Nat.add_mul y 1 wd;omega
  simp only [List.set,rowK_append] at H
  rw [e,e2] at H
  rw [e]
  refine Ht 13 O (by kernel_rfl) (by kernel_rfl) (by kernel_rfl) O H.frm (fun w hI => AS O) (VH.nil (by kernel_rfl) (blk_n (tn (Cr (Lo O (YI h10') (Lo O (Y.add O O (n64 (b:=1) (by omega))) (Lo O (AI O) (Lt ?_))))))))
  exact ⟨ht - (y+1),by omega,y+1,a',c',by omega,rfl,rfl,h8',h9',rfl,H⟩
 case refine_2 =>
 clear H
 rintro ρ w5 ⟨a,c,h4,h9',H⟩
 have hFa:∀ x ∈ footA a,W.heap.size≤x:=fun x hx => by
  rcases H.own _ (List.mem_singleton.2 rfl) x hx with h | h
  ·simp at h
  ·exact Nat.le_trans hF.size h
 have e3:ht * wd=out.length:=by rw [hol,Nat.mul_comm]
 rw [e3] at h4 H
 refine Cs ?_
 refine VC.held ((Frm [] W0)) mixedP (by with_reducible repeat (first | refine NoP.thn ?_ | refine NoP.blk ?_ | refine NoP.jmp ?_ | refine NoP.nojmp ?_ | exact NoP.done)) ?_
 intro w hsame
 replace H:=H.same hsame
 refine Ht 0 O (by kernel_rfl) (by kernel_rfl) (by kernel_rfl) O H.frm (fun w hI => Y.ldn (cs:=recV wd ht) ldn_74 h9' O (fun j hj => by rw [Nat.zero_add];exact (hI.blk hB9 (by simp)).cell j)) (Ht 2 O (by kernel_rfl) (by kernel_rfl) (by kernel_rfl) O H.frm (fun w hI => Y.ldn (cs:=recV wd ht) ldn_74 h9' O (fun j hj => by rw [Nat.zero_add];exact (hI.blk hB9 (by simp)).cell j)) (Ht 4 O (by kernel_rfl) (by kernel_rfl) (by kernel_rfl) O H.frm (fun w hI => YS (by assumption)) (VH.call 1 O (by kernel_rfl) O ent_33 (dx_any _ wd ht hw2) O ?_)))
 rintro e w7 ⟨rfl,hf7⟩
 replace H:=H.quiet hf7
 refine ⟨_,rfl,H.frm,?_⟩
 refine VH.call 3 O (by kernel_rfl) O ent_34 (dy_any _ wd ht hh2) O ?_
 rintro e w8 ⟨rfl,hf8⟩
 replace H:=H.quiet hf8
 refine ⟨_,rfl,H.frm,?_⟩
 refine Ht 5 O (by kernel_rfl) (by kernel_rfl) (by kernel_rfl) O H.frm (fun w hI => AI O) (Ht 6 O (by kernel_rfl) (by kernel_rfl) (by kernel_rfl) O H.frm (fun w hI => AI O) (Ht 7 O (by kernel_rfl) (by kernel_rfl) (by kernel_rfl) O H.frm (fun w hI => AS O) (Ht 8 O (by kernel_rfl) (by kernel_rfl) (by kernel_rfl) O H.frm (fun w hI => Y.asgB O) (VH.nil (by kernel_rfl) (tn (Ct ?_))))))
 exact Done.ret4 O O O O O ⟨hF.trans H.frm,.inr ⟨wd,ht,out,R1,a,c,hdec,rfl,H.get (i:=0) rfl,hFa,hol,hw,hw2,hh,hh2⟩⟩
structure PIn (sb so:Nat) (s:List Nat) (w:World):Prop where
 row:Row w .u32 sb so s
 small:∀ c ∈ s,c<4294967296
 sbl:sb<w.heap.size
theorem PIn.keep {sb so:Nat} {s:List Nat} {w w':World} {S:List Nat} (h:PIn sb so s w) (hf:Frm S w w') (hS:sb ∉ S):PIn sb so s w':=⟨h.row.keep hf hS,h.small,Nat.lt_of_lt_of_le h.sbl hf.size⟩
def chans (p:Nat):List Nat:=[p / 2 ^ 16 % 256,p / 2 ^ 8 % 256,p % 256,p / 2 ^ 24 % 256]
def nums (k:IntKind) (l:List Nat):List Value:=l.map fun v => .int k (v:Nat)
theorem nums_append (k:IntKind) (l m:List Nat):nums k (l++m)=nums k l++nums k m:=List.map_append
theorem nums_one (k:IntKind) (l:List Nat):∀ u ∈ nums k l,u.oneCell'=true:=by
 intro u hu
 obtain ⟨j,_,rfl⟩:=List.mem_map.1 hu
 rfl
def bytesOf (px:List Nat):List Nat:=px.flatMap chans
theorem plain_any (W:World) (pb po pc:Nat) (px:List Nat) (I:PIn pb po px W) (hl:px.length≤1073741824) :
  Calls Tryd.prog 30 #[.slice (some ⟨pb,po,none⟩) px.length pc] W fun e w' => Frm [] W w'∧∃ a c,e=.returned (.slice a (4 * px.length) c)∧VecOk w' a c 5 1 (4 * px.length) (nums .u8 (bytesOf px))∧(∀ x ∈ footA a,W.heap.size≤x):=by
 have H:St W [] [vecR none 0 5 1 0 []] W:=St.one (.inl ⟨rfl,rfl,rfl,rfl⟩) (vecR_local _ _ _ _ _ _) (by simp [vecR,footA])
 refine enter (m:=28) Tryd.func30 O Tryd.ntmps30 O (Cy (Lo O (Y.asg O) (Lt (Cy (Lo O (Y.asg O) (Lt (Cs (Cy (Lo O (YS O) (Lo O (Y.len sl_22 O) (Lo O (YI O) (Lt ?_))))))))))))
 refine VC.join (fun ρ w' => ∃ a c,ρ 3=.slice a (4 * px.length) c∧St W [] [vecR a c 5 1 (4 * px.length) (nums .u8 (bytesOf px))] w') ?_ ?_
 case refine_1 =>
  refine Cb ?_
  refine Cl (fun mm ρ w' => ∃ i a c,i≤px.length∧mm=px.length - i∧ρ 3=.slice a (4 * i) c∧ρ 6=.slice (some ⟨pb,po,none⟩) px.length pc∧ρ 7=.int .i64 (px.length:Nat)∧ρ 8=.int .i64 (i:Nat)∧St W [] [vecR a c 5 1 (4 * i) (nums .u8 (bytesOf (px.take i)))] w') px.length
   ⟨0,none,0,by omega,rfl,rfl,rfl,rfl,rfl,by simpa [bytesOf,nums] using H⟩ ?_
  clear H
  rintro mm ρ w5 ⟨i,a,c,hi,hmm,h3,h6,h7,h8,H⟩
  refine Cy (Lo O (Y.lss (by assumption) (by assumption)) (Lt ?_))
  by_cases hy:i=px.length
  case pos =>
   subst hy
   refine Cs (CF O (by omega) (Cx (thn_x (thn_x (blk_x (tn ?_))))))
   rw [List.take_length] at H
   exact ⟨a,c,h3,H⟩
  have hlt:i<px.length:=by omega
  obtain ⟨p,hp⟩:∃ p,p=px[i]:=⟨_,rfl⟩
  have hps:p<4294967296:=I.small _ (hp ▸ List.getElem_mem hlt)
  have hrow:W.cell? ⟨pb,po+i,none⟩=some (.int .u32 (p:Nat)):=hp ▸ I.row i hlt
  have hS:pb ∉ ([]:List Nat):=List.not_mem_nil
  refine Cs (CT O (by omega) (Ck (tn (Cs (Cb (Cy (Lo O (Y.ixS1 i sl_22 h6 h8 O hlt) (Lo O (Y.ld ld_36 O (H.old (by assumption) (by assumption))) (Lo O (AI O) (Lt (Cr (Lo O (YS h3) (Lo O (YI O) (Lo O (Y.shr O O (by omega) (shrK (k:=.u32) (b:=16) (by show _≤(32:Nat);omega))) (Lo O (Y.cv int_36_5 O cu8) (Lo O (YI O) (Lo O (Y.shr O O (by omega) (shrK (k:=.u32) (b:=8) (by show _≤(32:Nat);omega))) ?_)))))))))))))))))
  refine Lo O (Y.cv int_36_5 O cu8) (Lo O (YI O) (Lo O (Y.cv int_36_5 O cu8) (Lo O (YI O) (Lo O (Y.shr O O (by omega) (shrK (k:=.u32) (b:=24) (by show _≤(32:Nat);omega))) (Lo O (Y.cv int_36_5 O cu8) (VL.bslice H mk_24 (nums .u8 (chans p)) O O (by decide) (by decide) (by kernel_rfl) ?_))))))
  intro w b12 hn12 hb12 H
  refine VL.append H 1 mk_24 (by decide) O O O O (news:=nums .u8 (chans p)) O (fun j u hj => by rw [Nat.zero_add];exact H.cell 0 O hj) (nums_one _ _) (by simp only [maxLen];omega) (by omega) ?_
  intro a' c' w hfa H
  have hbt:bytesOf (px.take (i+1))=bytesOf (px.take i)++chans p:=by rw [List.take_succ_eq_append_getElem hlt,← hp];simp [bytesOf]
  replace H:St W [] [vecR a' c' 5 1 (4 * (i+1)) (nums .u8 (bytesOf (px.take (i+1))))] w:=by rw [hbt,nums_append];exact H.sub [1] rfl (by simp)
  refine Lo O (AS O) (Ln (blk_n (tn (Cr (Lo O (Y.add (r:=((i+1:Nat):Int)) h8 O (n64 (b:=1) (by omega))) (Lo O (YI O) (Lt ?_)))))))
  exact ⟨px.length - (i+1),by omega,i+1,a',c',by omega,rfl,rfl,h6,h7,rfl,H⟩
 case refine_2 =>
 clear H
 rintro ρ w5 ⟨a,c,h3,H⟩
 refine Cy (Lo O (YS (by assumption)) (Lo O (AS O) (Lt (Ct ?_))))
 exact Done.ret1 O O ⟨H.frm,a,c,rfl,H.get (i:=0) rfl,fun x hx => by
  rcases H.own _ (List.mem_singleton.2 rfl) x hx with h | h
  ·simp at h
  ·exact h⟩
theorem rowK_cg (k:IntKind) (f g:Nat→Nat) (n:Nat) (h:∀ j,j<n→f j=g j):rowK k f n=rowK k g n :=
 List.map_congr_left fun j hj => by rw [h j (List.mem_range.1 hj)]
theorem rowK_bytes:∀ px:List Nat,rowK .u8 (byteAt px) (4 * px.length)=nums .u8 (bytesOf px)
 | [] => rfl
 | p :: l => by
  have e:4 * (p :: l).length=4+4 * l.length:=by rw [List.length_cons];omega
  rw [e,← rowK_append,show bytesOf (p :: l)=chans p++bytesOf l from rfl,nums_append,← rowK_bytes l]
  congr 1
  exact rowK_cg _ _ _ _ fun j _ => by
   unfold byteAt
   rw [show (4+j) / 4=j / 4+1 by omega,show (4+j) % 4=j % 4 by omega]
   rfl
def BSF (P:Program) (src dst:TypeId):Prop:=∃ e,P.underlying src=some (.slice e)∧P.underlying e=some (.int .u8)∧P.underlying dst=some .string
theorem bsf:BSF Tryd.prog 24 9:=⟨5,by kernel_rfl,by kernel_rfl,by kernel_rfl⟩
theorem Y.cvBS {P:Program} {e:Operand→Value} {d:Option Tmp} {ty:TypeId} {pos:String} {after:Array Edge} {g:Option (Nat × Bool)} {w:World} {x:Operand} {src dst:TypeId} {b off len cap:Nat} (F:BSF P src dst) (xs:List Nat) (hx:e x=.slice (some ⟨b,off,none⟩) len cap) (hl:xs.length=len)
  (hc:∀ j u,(nums .u8 xs)[j]?=some u→w.cell? ⟨b,off+j,none⟩=some u):Yld P e ⟨d,.convert src dst x,ty,pos,after,g⟩ w (.string (strOfNums (xs.map Int.ofNat))) w:=by
 obtain ⟨el,h1,h2,h3⟩:=F
 have:=run_convert_bytes_arg (P:=P) w src el h1 h2 b off len cap (xs.map Int.ofNat) (by simpa using hl) (fun i hi => hc i _ (by subst hl;simp [nums,hi])) dst h3
 unfold Yld
 simp only [execOp,hx,Sem.run_bind,this,Result.andThen_ok]
 rfl
theorem Y.eqlStr {P:Program} {e:Operand→Value} {d:Option Tmp} {ty:TypeId} {pos:String} {after:Array Edge} {g:Option (Nat × Bool)} {w:World} {x y:Operand} {t t':TypeId} {s:ByteArray} (hx:e x=.string s) (hy:e y=.string s):Yld P e ⟨d,.binOp .eql t x y t',ty,pos,after,g⟩ w (.bool true) w:=by
 unfold Yld
 simp only [execOp,hx,hy,Sem.run_bind,show (eqGuard .eql t x y (.string s) (.string s)).run P w=.ok () w from rfl,Result.andThen_ok,binOp_string_eql,Sem.run_pure,beq_self_eq_true]
theorem VL.callG {P:Program} {n:Nat} {Q:Post} {ρ:Env} {w:World} {l:List Oper} {rest:List Oper} {f:FuncId} {xs:Array Operand} {ts:Array TypeId} {ty:TypeId} {pos:String} {after:Array Edge} {d:Nat} {vs:List Value} {R:Ending→World→Prop} {j dj:Nat} {b:Bool}
  (hj:(l[j]?).bind (·.dst)=some dj) (hdj:Nat.blt dj n=true) (hb:ρ dj=.bool b)
  (hd:Nat.blt d n=true) (he:Ent P f) (hc:Calls P f vs.toArray w R) (hx:xs.toList.map (ev ρ)=vs)
  (h:∀ e w',R e w'→∃ v,e=.returned v∧VL P n l.toArray Q rest (upd ρ d v) w') :
  VL P n l.toArray Q (⟨some d,.call ⟨.value (.func f),xs,ts⟩,ty,pos,after,some (j,b)⟩ :: rest) ρ w:=fun a ha => by
 unfold wpList
 rw [if_pos (by simp [Region.wanted,ha.yielded l.toArray (j:=j) (by simpa using hj) hdj hb])]
 refine .inl ?_
 have hr:(execOp (ev ρ) ⟨some d,.call ⟨.value (.func f),xs,ts⟩,ty,pos,after,some (j,b)⟩).run P w=.ok (.enter f vs.toArray) w:=by
  have hx:xs.map (ev ρ)=vs.toArray:=by apply Array.ext';rw [Array.toList_map,hx]
  have:=he vs.toArray w
  simp only [execOp,resolve,Deferred.ofValue,ev,Sem.run_bind,Sem.run_pure,Result.andThen_ok,hx,Go.invoke,Array.append_empty]
  simpa using this
 unfold Oper.wp
 rw [ha.eval,hr]
 refine hc.mono fun e w' hR => ?_
 obtain ⟨v,rfl,hv⟩:=h e w' hR
 exact hv _ (ha.put hd v)
section
variable {P:Program} {n:Nat} {Q:Post} {I:World→Prop} {fuel:Nat} {listed:Array Bool} {ρ:Env} {w:World} {l:List Oper}
theorem VH.takeG (i:Nat) {op:Op} {ty:TypeId} {pos:String} {after:Array Edge} {d:Nat} {v:Value} {j dj:Nat} {b:Bool} (hi:l[i]?=some ⟨some d,op,ty,pos,after,some (j,b)⟩)
  (hj:(l[j]?).bind (·.dst)=some dj) (hdj:Nat.blt dj n=true) (hb:ρ dj=.bool b)
  (hs:Region.noSelect l.toArray=true) (hf:Region.free .any l.toArray listed i=true) (hr:(Region.ready .any l.toArray listed).contains i=true)
  (hd:Nat.blt d n=true) (hI:I w) (hy:∀ w,I w→Yld P (ev ρ) ⟨some d,op,ty,pos,after,some (j,b)⟩ w v w)
  (h:VH P n l.toArray Q I fuel (listed.setIfInBounds i true) (upd ρ d v) w):VH P n l.toArray Q I (fuel+1) listed ρ w:=fun hQ a ha =>
 wpAnyH_take (oi:=⟨some d,op,ty,pos,after,some (j,b)⟩) (v:=v) (by simpa using hi) hs hf hr (fun c a w ⟨ρ,_,hq⟩ => absurd hq (hQ c ρ w))
  (.inl ⟨by simp [Region.wanted,ha.yielded l.toArray (j:=j) (by simpa using hj) hdj hb],fun w hw => by rw [ha.eval];exact hy w hw⟩) hI (h hQ _ (ha.put hd v))
theorem VH.opG (i:Nat) {op:Op} {ty:TypeId} {pos:String} {after:Array Edge} {d:Nat} {v:Value} {w':World} {j dj:Nat} {b:Bool} (hi:l[i]?=some ⟨some d,op,ty,pos,after,some (j,b)⟩)
  (hj:(l[j]?).bind (·.dst)=some dj) (hdj:Nat.blt dj n=true) (hb:ρ dj=.bool b)
  (hr:Region.ready .any l.toArray listed=[i]) (hd:Nat.blt d n=true) (hy:Yld P (ev ρ) ⟨some d,op,ty,pos,after,some (j,b)⟩ w v w') (hI:I w')
  (h:VH P n l.toArray Q I fuel (listed.setIfInBounds i true) (upd ρ d v) w'):VH P n l.toArray Q I (fuel+1) listed ρ w:=fun hQ a ha => by
 refine wpAnyH_all hr (by simp) fun j2 hj2 => ?_
 obtain rfl:j2=i:=by simpa using hj2
 unfold wpOp
 simp only [show l.toArray[j2]?=some ⟨some d,op,ty,pos,after,some (j,b)⟩ by simpa using hi]
 rw [if_pos (by simp [Region.wanted,ha.yielded l.toArray (j:=j) (by simpa using hj) hdj hb])]
 refine .inl ?_
 unfold Oper.wp
 rw [ha.eval,hy]
 exact ⟨hI,h hQ _ (ha.put hd v)⟩
theorem VH.callG (i:Nat) {f:FuncId} {xs:Array Operand} {ts:Array TypeId} {ty:TypeId} {pos:String} {after:Array Edge} {d:Nat} {vs:List Value} {R:Ending→World→Prop} {j dj:Nat} {b:Bool}
  (hi:l[i]?=some ⟨some d,.call ⟨.value (.func f),xs,ts⟩,ty,pos,after,some (j,b)⟩)
  (hj:(l[j]?).bind (·.dst)=some dj) (hdj:Nat.blt dj n=true) (hb:ρ dj=.bool b) (hr:Region.ready .any l.toArray listed=[i])
  (hd:Nat.blt d n=true) (he:Ent P f) (hc:Calls P f vs.toArray w R) (hx:xs.toList.map (ev ρ)=vs)
  (h:∀ e w',R e w'→∃ v,e=.returned v∧I w'∧VH P n l.toArray Q I fuel (listed.setIfInBounds i true) (upd ρ d v) w'):VH P n l.toArray Q I (fuel+1) listed ρ w:=fun hQ a ha => by
 refine wpAnyH_all hr (by simp) fun j2 hj2 => ?_
 obtain rfl:j2=i:=by simpa using hj2
 unfold wpOp
 simp only [show l.toArray[j2]?=some ⟨some d,.call ⟨.value (.func f),xs,ts⟩,ty,pos,after,some (j,b)⟩ by simpa using hi]
 rw [if_pos (by simp [Region.wanted,ha.yielded l.toArray (j:=j) (by simpa using hj) hdj hb])]
 refine .inl ?_
 have hr:(execOp (ev ρ) ⟨some d,.call ⟨.value (.func f),xs,ts⟩,ty,pos,after,some (j,b)⟩).run P w=.ok (.enter f vs.toArray) w:=by
  have hx:xs.map (ev ρ)=vs.toArray:=by apply Array.ext';rw [Array.toList_map,hx]
  have:=he vs.toArray w
  simp only [execOp,resolve,Deferred.ofValue,ev,Sem.run_bind,Sem.run_pure,Result.andThen_ok,hx,Go.invoke,Array.append_empty]
  simpa using this
 unfold Oper.wp
 rw [ha.eval,hr]
 refine hc.mono fun e w' hR => ?_
 obtain ⟨v,rfl,hI,hv⟩:=h e w' hR
 exact ⟨hI,hv hQ _ (ha.put hd v)⟩
end
theorem is_any (sb so cap:Nat) (s:List Nat) (W:World) (I:SIn sb so s W) (pb po pc wd ht:Nat) (px:List Nat) (R':Bits) (Ip:PIn pb po px W) (hdec:decAll (bitsOf s)=some ((wd,ht,px),R')) :
  Calls Tryd.prog 14 #[.slice (some ⟨sb,so,none⟩) s.length cap,.int .i64 (wd:Nat),.int .i64 (ht:Nat),.slice (some ⟨pb,po,none⟩) px.length pc] W fun e w' => e=.returned (.bool true)∧Frm [] W w':=by
 refine enter (m:=44) Tryd.func14 O Tryd.ntmps14 O (Cy (Lo O (Y.asgB O) (Lt (Cy (Lo O (YS O) (VL.call O ent_15 (impl_any sb so cap s W I) O ?_))))))
 rintro e w1 ⟨hf1,⟨hr,_⟩ | ⟨wd',ht',out,R2,a,c,hr,rfl,hv,hfa,hol,hw,hw2,hh,hh2⟩⟩
 ·rw [hdec] at hr;cases hr
 rw [hdec] at hr
 simp only [Option.some.injEq,Prod.mk.injEq] at hr
 obtain ⟨⟨rfl,rfl,rfl⟩,rfl⟩:=hr
 refine ⟨_,rfl,?_⟩
 refine Lo O (Y.movT O) (Lo O (Y.ext O O) (Lo O (Y.ext O O) (Lo O (Y.ext O O) (Lo O (Y.ext O O) (Lo O (AI O) (Lo O (AI O) (Lo O (AS O) (Lo O (Y.asgB O) (Lt ?_)))))))))
 have hlen:1≤px.length∧px.length≤268435456:=by rw [hol];exact ⟨Nat.mul_pos hw hh,Nat.mul_le_mul hw2 hh2⟩
 have H:St w1 [] [] w1:=St.nil w1 []
 obtain ⟨g,hg,hcell⟩:=hv.cell (by omega)
 subst hg
 rw [rowK_bytes] at hcell
 have hbl:(bytesOf px).length=4 * px.length:=by
  have:=congrArg List.length (rowK_bytes px)
  rw [rowK_length] at this
  simpa [nums] using this.symm
 refine Cs ?_
 refine VC.held ((Frm [] w1)) mixedP (by with_reducible repeat (first | refine NoP.thn ?_ | refine NoP.blk ?_ | refine NoP.jmp ?_ | refine NoP.nojmp ?_ | exact NoP.done)) ?_
 intro w hsame
 replace H:=H.same hsame
 refine Ht 0 O (by kernel_rfl) (by kernel_rfl) (by kernel_rfl) O H.frm (fun w hI => Y.movB O) (Ht 1 O (by kernel_rfl) (by kernel_rfl) (by kernel_rfl) O H.frm (fun w hI => Y.movB O) (VH.takeG 2 O O O O (by kernel_rfl) (by kernel_rfl) (by kernel_rfl) O H.frm (fun w hI => YI O) (VH.takeG 3 O O O O (by kernel_rfl) (by kernel_rfl) (by kernel_rfl) O H.frm (fun w hI => YI O) (VH.takeG 4 O O O O (by kernel_rfl) (by kernel_rfl) (by kernel_rfl) O H.frm (fun w hI => Y.eqlD (b:=true) O O (decide_eq_true O)) (Ht 5 O (by kernel_rfl) (by kernel_rfl) (by kernel_rfl) O H.frm (fun w hI => Y.pick O O) (Ht 6 O (by kernel_rfl) (by kernel_rfl) (by kernel_rfl) O H.frm (fun w hI => Y.movB O) (VH.takeG 7 O O O O (by kernel_rfl) (by kernel_rfl) (by kernel_rfl) O H.frm (fun w hI => YI O) (VH.takeG 8 O O O O (by kernel_rfl) (by kernel_rfl) (by kernel_rfl) O H.frm (fun w hI => YI O) (VH.takeG 9 O O O O (by kernel_rfl) (by kernel_rfl) (by kernel_rfl) O H.frm (fun w hI => Y.eqlD (b:=true) O O (decide_eq_true O)) (Ht 10 O (by kernel_rfl) (by kernel_rfl) (by kernel_rfl) O H.frm (fun w hI => Y.pick O O) (Ht 11 O (by kernel_rfl) (by kernel_rfl) (by kernel_rfl) O H.frm (fun w hI => Y.movB O) (VH.takeG 12 O O O O (by kernel_rfl) (by kernel_rfl) (by kernel_rfl) O H.frm (fun w hI => YS O) (VH.takeG 13 O O O O (by kernel_rfl) (by kernel_rfl) (by kernel_rfl) O H.frm (fun w hI => Y.cvBS bsf (bytesOf px) O hbl (fun j u hj => by rw [Nat.zero_add];exact hI.cell (hcell j u hj) (by simp))) (VH.takeG 14 O O O O (by kernel_rfl) (by kernel_rfl) (by kernel_rfl) O H.frm (fun w hI => YS O) (VH.callG 15 O O O O (by kernel_rfl) O ent_30 (plain_any _ pb po pc px (Ip.keep (hf1.trans H.frm) (by simp)) (by omega)) O ?_)))))))))))))))
 rintro e w2 ⟨hf2,a2,c2,rfl,hv2,hfa2⟩
 obtain ⟨g2,hg2,hcell2⟩:=hv2.cell (by omega)
 subst hg2
 replace H:=H.quiet hf2
 refine ⟨_,rfl,H.frm,?_⟩
 refine VH.opG 16 O O O O (by kernel_rfl) O (Y.cvBS bsf (bytesOf px) O hbl (fun j u hj => by rw [Nat.zero_add];exact hcell2 j u hj)) H.frm (VH.takeG 17 O O O O (by kernel_rfl) (by kernel_rfl) (by kernel_rfl) O H.frm (fun w hI => Y.eqlStr O O) (Ht 18 O (by kernel_rfl) (by kernel_rfl) (by kernel_rfl) O H.frm (fun w hI => Y.pick O O) (Ht 19 O (by kernel_rfl) (by kernel_rfl) (by kernel_rfl) O H.frm (fun w hI => Y.movB O) (VH.takeG 20 O O O O (by kernel_rfl) (by kernel_rfl) (by kernel_rfl) O H.frm (fun w hI => YS O) (VH.takeG 21 O O O O (by kernel_rfl) (by kernel_rfl) (by kernel_rfl) O H.frm (fun w hI => Y.len sl_24 O) (VH.takeG 22 O O O O (by kernel_rfl) (by kernel_rfl) (by kernel_rfl) O H.frm (fun w hI => Y.gtrD (b:=true) O O (decide_eq_true (by omega))) (Ht 23 O (by kernel_rfl) (by kernel_rfl) (by kernel_rfl) O H.frm (fun w hI => Y.pick O O) (Ht 24 O (by kernel_rfl) (by kernel_rfl) (by kernel_rfl) O H.frm (fun w hI => Y.asgB O) (VH.nil (by kernel_rfl) (tn (Ct ?_)))))))))))
 exact Done.ret1 O O ⟨rfl,hf1.trans H.frm⟩
def LIn (v:Value) (n:Nat) (w:World):Prop:=∃ a c,v=.slice a n c∧(n=0∨∃ sb so ls,a=some ⟨sb,so,none⟩∧n=ls.length∧PIn sb so ls w)
theorem u32_any (x:Int):∃ p:Nat,p<4294967296∧IntKind.u32.wrap x=(p:Int):=⟨(x % 4294967296).toNat,by omega,by rw [wu32m];omega⟩
theorem mod_pos (x:Int) (m:Nat) (h0:0<m) (hm:m≤4294967296):∃ k:Nat,k<m∧(x.tmod m+m).tmod m=(k:Int)∧-(m:Int)<x.tmod m∧x.tmod m<m:=by
 have h1:x.tmod m<m:=Int.tmod_lt_of_pos x (by omega)
 have h2:-(m:Int)<x.tmod m:=by
  have:=Int.tmod_lt_of_pos (-x) (b:=(m:Int)) (by omega)
  rw [Int.neg_tmod] at this
  omega
 refine ⟨((x.tmod m+m).tmod m).toNat,?_,?_,h2,h1⟩
 ·have:=Int.tmod_lt_of_pos (x.tmod m+m) (b:=(m:Int)) (by omega)
  omega
 ·have:=Int.tmod_nonneg (a:=x.tmod m+m) (m:Int) (by omega)
  omega
theorem picture_any (W:World) (x y:Int) (m:Nat) (lv:Value) (ln:Nat) (hm0:0<m) (hm:m≤16384) (L:LIn lv ln W) :
  Calls Tryd.prog 11 #[.int .i64 x,.int .i64 y,.int .i64 (m:Nat),lv] W fun e w' => Frm [] W w'∧∃ wd ht px a c,e=.returned (.tuple #[.int .i64 (wd:Nat),.int .i64 (ht:Nat),.slice a (wd * ht) c]) ∧
   1≤wd∧wd≤m∧1≤ht∧ht≤m∧px.length=wd * ht∧(∀ p ∈ px,p<4294967296)∧VecOk w' a c 36 1 (wd * ht) (nums .u32 px)∧(∀ b ∈ footA a,W.heap.size≤b):=by
 obtain ⟨la,lc,rfl,hL⟩:=L
 obtain ⟨w0,hw0,ex,hx1,hx2⟩:=mod_pos x m hm0 (by omega)
 obtain ⟨h0,hh0,ey,hy1,hy2⟩:=mod_pos y m hm0 (by omega)
 have H:St W [] [vecR none 0 36 1 0 []] W:=St.one (.inl ⟨rfl,rfl,rfl,rfl⟩) (vecR_local _ _ _ _ _ _) (by simp [vecR,footA])
 refine enter (m:=63) Tryd.func11 O Tryd.ntmps11 O (Cy (Lo O (AI O) (Lo O (AI O) (Lo O (Y.asg O) (Lt (Cs (Cd mixedP (by kernel_rfl) ?_)))))))
 intro w hsame
 replace H:=H.same hsame
 refine So O (YI O) (So O (YI O) (So O (Y.remr O O (by omega) O) (So O (YI O) (So O (Y.add O O (w64 (by omega))) (So O (YI O) (So O (Y.remr O O (by omega) ex) (So O (Y.add (r:=((w0+1:Nat):Int)) O O (n64 (b:=1) (by omega))) (So O (YI O) (So O (YI O) (So O (Y.remr O O (by omega) O) (So O (YI O) (So O (Y.add O O (w64 (by omega))) (So O (YI O) (So O (Y.remr O O (by omega) ey) (So O (Y.add (r:=((h0+1:Nat):Int)) O O (n64 (b:=1) (by omega))) (So O (AI O) (So O (AI O) (Sn (tn ?_)))))))))))))))))))
 obtain ⟨wd,hwd⟩:∃ wd,wd=w0+1:=⟨_,rfl⟩
 obtain ⟨ht,hht⟩:∃ ht,ht=h0+1:=⟨_,rfl⟩
 rw [← hwd,← hht]
 have hmul:wd * ht≤16384 * 16384:=Nat.mul_le_mul (by omega) (by omega)
 refine Cy (Lo O (Y.asg O) (Lt (Cs (Cy (Lo O (YI O) (Lo O (YI O) (Lo O (Y.mul O O (m64 (by omega))) (Lo O (YI O) (Lt ?_)))))))))
 refine VC.join (fun ρ w' => ∃ px a c,ρ 0=.int .i64 (wd:Nat)∧ρ 1=.int .i64 (ht:Nat)∧ρ 11=.slice a (wd * ht) c∧px.length=wd * ht∧(∀ p ∈ px,p<4294967296)∧St W [] [vecR a c 36 1 (wd * ht) (nums .u32 px)] w') ?_ ?_
 case refine_1 =>
  refine Cb ?_
  refine Cl (fun mm ρ w' => ∃ i px a c,i≤wd * ht∧mm=wd * ht - i∧ρ 0=.int .i64 (wd:Nat)∧ρ 1=.int .i64 (ht:Nat)∧ρ 3=.slice la ln lc∧ρ 11=.slice a i c∧ρ 32=.int .i64 ((wd * ht:Nat):Int)∧ρ 33=.int .i64 (i:Nat)∧px.length=i∧(∀ p ∈ px,p<4294967296)∧St W [] [vecR a c 36 1 i (nums .u32 px)] w') (wd * ht)
   ⟨0,[],none,0,by omega,rfl,rfl,rfl,rfl,rfl,rfl,rfl,rfl,by simp,by simpa [nums] using H⟩ ?_
  clear H
  rintro mm ρ w5 ⟨i,px,a,c,hi,hmm,r0,r1,r3,r11,r32,r33,hpl,hps,H⟩
  refine Cy (Lo O (Y.lss (by assumption) (by assumption)) (Lt ?_))
  by_cases hy:i=wd * ht
  case pos =>
   refine Cs (CF O (by omega) (Cx (thn_x (thn_x (blk_x (tn ?_))))))
   rw [hy] at r11 H hpl
   exact ⟨px,a,c,r0,r1,r11,hpl,hps,H⟩
  have hlt:i<wd * ht:=by omega
  refine Cs (CT O (by omega) (Ck (tn (Cs (Cb (Cy (Lo O (YI (by assumption)) (Lo O (AI O) (Lt (Cy (Lo O (YI O) (Lo O (Y.cv int_3_36 O (wu32 (by omega))) (Lo O (AI O) (Lt (Cs (Cs ?_))))))))))))))))
  refine Cr (Lo O (YS (by assumption)) (Lo O (Y.len sl_22 O) (Lo O (Y.gtr O O) (Lt ?_))))
  refine VC.join (fun ρ w' => ∃ p:Nat,p<4294967296∧ρ 0=.int .i64 (wd:Nat)∧ρ 1=.int .i64 (ht:Nat)∧ρ 3=.slice la ln lc∧ρ 11=.slice a i c∧ρ 32=.int .i64 ((wd * ht:Nat):Int)∧ρ 33=.int .i64 (i:Nat)∧ρ 13=.int .u32 (p:Nat)∧St W [] [vecR a c 36 1 i (nums .u32 px)] w') ?_ ?_
  case refine_1 =>
   by_cases hl0:ln=0
   case pos =>
    refine CF O (by omega) (Ck (tn ?_))
    exact ⟨i,by omega,r0,r1,r3,r11,r32,r33,rfl,H⟩
   rcases hL with hL | ⟨sb,so,ls,rfl,rfl,hP⟩
   ·omega
   have hk:i % ls.length<ls.length:=Nat.mod_lt _ (by omega)
   have hcell:=hP.row (i % ls.length) hk
   obtain ⟨p1,hp1,e1⟩:=u32_any (((i / ls.length % 4294967296:Nat):Int) * 16973829)
   obtain ⟨p2,hp2,e2⟩:=u32_any ((ls[i % ls.length]:Nat)+(p1:Int))
   refine CT O (by omega) (Cd mixedP (by kernel_rfl) ?_)
   intro w hsame
   replace H:=H.same hsame
   refine So O (YS r3) (So O (YI O) (So O (YS r3) (So O (Y.len sl_22 O) (So O (Y.remr O O (by omega) (rN)) (So O (Y.ixS1 (i % ls.length) sl_22 O O O hk) (So O (Y.ld ld_36 O (H.old hcell (by simp))) (So O (YI O) (So O (YS r3) (So O (Y.len sl_22 O) (So O (Y.quo O O (by omega) (q64 (by omega))) (So O (Y.cv int_3_36 O cu32) (So O (Y.mul O O e1) (So O (Y.add O O e2) (So O (AI O) (Sn (tn ?_))))))))))))))))
   exact ⟨p2,hp2,r0,r1,r3,r11,r32,r33,rfl,H⟩
  case refine_2 =>
  clear H r0 r1 r3 r11 r32 r33
  rintro ρ w6 ⟨p,hp,r0,r1,r3,r11,r32,r33,r13,H⟩
  refine Cr (Lo O (YS r11) (Lo O (YI (by assumption)) (VL.bslice H mk_22 (nums .u32 [p]) O O (by decide) (by decide) (by kernel_rfl) ?_)))
  intro w b12 hn12 hb12 H
  refine VL.append H 1 mk_22 (by decide) O O O O (news:=nums .u32 [p]) O (fun j u hj => by rw [Nat.zero_add];exact H.cell 0 O hj) (nums_one _ _) (by simp only [maxLen];omega) (by omega) ?_
  intro a' c' w hfa H
  replace H:St W [] [vecR a' c' 36 1 (i+1) (nums .u32 (px++[p]))] w:=by rw [nums_append];exact H.sub [1] rfl (by simp)
  refine Lo O (AS O) (Ln (blk_n (tn (Cr (Lo O (Y.add (r:=((i+1:Nat):Int)) r33 O (n64 (b:=1) (by omega))) (Lo O (YI O) (Lt ?_)))))))
  exact ⟨wd * ht - (i+1),by omega,i+1,px++[p],a',c',by omega,rfl,r0,r1,r3,rfl,r32,rfl,by simp [hpl],by
   intro q hq
   rw [List.mem_append,List.mem_singleton] at hq
   rcases hq with hq | rfl
   ·exact hps q hq
   ·exact hp,H⟩
 case refine_2 =>
 clear H
 rintro ρ w5 ⟨px,a,c,r0,r1,r11,hpl,hps,H⟩
 refine Cy (Lo O (YI (by assumption)) (Lo O (YI (by assumption)) (Lo O (YS (by assumption)) (Lo O (AI O) (Lo O (AI O) (Lo O (AS O) (Lt (Ct ?_))))))))
 exact Done.ret3 O O O O ⟨H.frm,wd,ht,px,a,c,rfl,by omega,by omega,by omega,by omega,hpl,hps,H.get (i:=0) rfl,fun x hx => by
  rcases H.own _ (List.mem_singleton.2 rfl) x hx with h | h
  ·simp at h
  ·exact h⟩
def nB (X:Bits):Nat:=(X.length+7) / 8
def byteOf (X:Bits) (j:Nat):Nat:=val ((X.drop (8 * j)).take 8)
theorem byteOf_lt (X:Bits) (j:Nat):byteOf X j<256:=by
 have h:=val_lt ((X.drop (8 * j)).take 8)
 have h2:((X.drop (8 * j)).take 8).length≤8:=by rw [List.length_take];omega
 have:=Nat.pow_le_pow_right (n:=2) (by omega) h2
 unfold byteOf
 omega
theorem byteOf_out (X:Bits) (j:Nat) (h:X.length≤8 * j):byteOf X j=0:=by
 unfold byteOf
 rw [List.drop_eq_nil_of_le h]
 rfl
theorem byteOf_last (X:Bits):byteOf X (X.length / 8)<2 ^ (X.length % 8):=by
 unfold byteOf
 have h:=val_lt ((X.drop (8 * (X.length / 8))).take 8)
 rw [List.length_take,List.length_drop,show min 8 (X.length - 8 * (X.length / 8))=X.length % 8 by omega] at h
 exact h
theorem byteOf_snoc (X:Bits) (b:Bool) (j:Nat) (h:j≤X.length / 8):byteOf (X++[b]) j=if j=X.length / 8 then byteOf X j ||| b.toNat * 2 ^ (X.length % 8) else byteOf X j:=by
 split
 next hj =>
  subst hj
  have hl:=byteOf_last X
  rw [Nat.or_comm,Nat.mul_comm,← Nat.two_pow_add_eq_or_of_lt hl]
  unfold byteOf
  rw [List.drop_append_of_le_length (by omega),List.take_of_length_le (by rw [List.length_append,List.length_drop];simp;omega),val_append,List.take_of_length_le (by rw [List.length_drop];omega),List.length_drop,show X.length - 8 * (X.length / 8)=X.length % 8 by omega]
  simp [val]
  omega
 next hj =>
  unfold byteOf
  rw [List.drop_append_of_le_length (by omega),List.take_append_of_le_length (by rw [List.length_drop];omega)]
theorem nB_snoc (X:Bits) (b:Bool):nB (X++[b])=X.length / 8+1:=by unfold nB;rw [List.length_append];simp;omega
def packB (X:Bits):List Nat:=(List.range (nB X)).map (byteOf X)
theorem packB_length (X:Bits):(packB X).length=nB X:=by simp [packB]
theorem packB_lt (X:Bits):∀ c ∈ packB X,c<256:=by
 intro c hc
 obtain ⟨j,_,rfl⟩:=List.mem_map.1 hc
 exact byteOf_lt X j
theorem rowK_nums (k:IntKind) (f:Nat→Nat) (n:Nat):rowK k f n=nums k ((List.range n).map f):=by simp [rowK,nums]
theorem bitsN_zero (n:Nat):bitsN 0 n=List.replicate n false:=by
 induction n with
 | zero => rfl
 | succ n ih => simp [bitsN,ih,List.replicate_succ]
theorem bitsN_pad:∀ (l:Bits) (n:Nat),l.length≤n→bitsN (val l) n=l++List.replicate (n - l.length) false
 | [],n,_ => by simp [val,bitsN_zero]
 | b :: r,0,h => by simp at h
 | b :: r,n+1,h => by
  have h2:(b.toNat+2 * val r) / 2=val r:=by have:=Bool.toNat_le b;omega
  have h3:((b.toNat+2 * val r) % 2 == 1)=b:=by cases b <;> simp <;> omega
  simp only [val,bitsN,h2,h3,List.cons_append,List.length_cons,bitsN_pad r n (by simpa using h)]
  congr 3
  omega
theorem bits_pack_aux:∀ (n:Nat) (X:Bits),nB X=n→bitsOf ((List.range n).map (byteOf X))=X++List.replicate (8 * n - X.length) false
 | 0,X,h => by
  have:X=[]:=List.eq_nil_of_length_eq_zero (by unfold nB at h;omega)
  subst this
  rfl
 | n+1,X,h => by
  have hn:nB (X.drop 8)=n:=by unfold nB at h ⊢;rw [List.length_drop];omega
  have ih:=bits_pack_aux n (X.drop 8) hn
  have e:(List.range (n+1)).map (byteOf X)=val (X.take 8) :: (List.range n).map (byteOf (X.drop 8)):=by
   rw [List.range_succ_eq_map,List.map_cons,List.map_map]
   congr 1
   apply List.map_congr_left
   intro j _
   show byteOf X (j+1)=byteOf (X.drop 8) j
   unfold byteOf
   rw [List.drop_drop,show 8 * (j+1)=8+8 * j by omega]
  rw [e,bitsOf_cons,ih]
  unfold byteBits
  rw [bitsN_pad _ _ (by rw [List.length_take];omega)]
  by_cases h8:8≤X.length
  ·rw [List.length_take,Nat.min_eq_left h8,Nat.sub_self,List.replicate_zero,List.append_nil,← List.append_assoc,List.take_append_drop,List.length_drop]
   congr 2
   omega
  ·have hn0:n=0:=by rw [← hn];unfold nB;rw [List.length_drop];omega
   subst hn0
   rw [List.take_of_length_le (by omega),List.drop_eq_nil_of_le (by omega)]
   simp
theorem bits_pack (X:Bits):∃ k,k<8∧bitsOf (packB X)=X++List.replicate k false :=
 ⟨8 * nB X - X.length,by unfold nB;omega,bits_pack_aux _ X rfl⟩
theorem VL.putV {P:Program} {w w0:World} {t e:Nat} {c m g j:Nat} {xs:List Value} {v:Value} {S:List Nat} {l:List Res} {nn:Nat} {ops:Array Oper} {Q:Post} {rest:List Oper} {ρ:Env} {ty:TypeId} {pos:String} {after:Array Edge} {x y:Operand}
  (H:St w0 S l w) (i:Nat) (F:ST1 P t) (hx:ev ρ x=.pointer (some ⟨g,j,none⟩)) (hi:l[i]?=some (vecR (some ⟨g,0,none⟩) c e 1 m xs)) (hy:ev ρ y=v) (hv:v.oneCell'=true) (hj:j<m)
  (h:∀ w',St w0 S (l.set i (vecR (some ⟨g,0,none⟩) c e 1 m (xs.set j v))) w'→VL P nn ops Q rest ρ w'):VL P nn ops Q (⟨none,.store t x y,ty,pos,after,none⟩ :: rest) ρ w:=by
 rcases H.get hi with ⟨h0,_⟩ | ⟨g',cur,h0,h1,h2,h3,h4,h5⟩
 ·cases h0
 ·cases h0
  have hc:w.cell? ⟨g,j,none⟩=some cur[j]:=h1.cellv (List.getElem?_eq_getElem (by omega))
  refine VL.st (Sk.st F hx hy hv hc (h1.fz _)) (h _ (H.turn hi (Frm.put w _ v (by simp [vecR,footA])) (.inr ⟨g,cur.set j v,rfl,h1.put j v,h2,h3,by rw [List.length_set];exact h4,by rw [List.take_set,h5]⟩) (vecR_local _ _ _ _ _ _) (fun b hb => .inl hb)))
theorem VecOk.cellS {w:World} {g c e k n j:Nat} {xs:List Value} {v:Value} (h:VecOk w (some ⟨g,0,none⟩) c e k n xs) (hv:xs[j]?=some v):w.cell? ⟨g,j,none⟩=some v:=by
 rcases h with ⟨h0,_⟩ | ⟨g',cur,h0,h1,h2,h3,h4,rfl⟩
 ·cases h0
 ·cases h0
  refine h1.cellv ?_
  rw [List.getElem?_take] at hv
  split at hv
  ·exact hv
  ·cases hv
theorem bitsN_snoc:∀ (c n:Nat),bitsN c (n+1)=bitsN c n++[c / 2 ^ n % 2 == 1]
 | c,0 => by simp [bitsN]
 | c,n+1 => by
  rw [bitsN,bitsN_snoc (c / 2) n,Nat.div_div_eq_div_mul,show 2 * 2 ^ n=2 ^ (n+1) by rw [Nat.pow_succ,Nat.mul_comm]]
  rfl
def WrP (wb:Nat) (a:Option Addr) (c:Nat) (X:Bits) (w:World):Prop :=
 Blk w wb [.slice a (nB X) c,.int .i64 (X.length:Nat)] 56∧VecOk w a c 5 1 (nB X) (rowK .u8 (byteOf X) (nB X))∧wb ∉ footA a
theorem bits_any (W:World) (wb:Nat) (a0:Option Addr) (c0:Nat) (X:Bits) (n many:Nat) (hP:WrP wb a0 c0 X W) (hm:many≤62) (hn:n<2 ^ 62) (hX:X.length≤1099511627776) :
  Calls Tryd.prog 21 #[.pointer (some ⟨wb,0,none⟩),.int .i64 (n:Nat),.int .i64 (many:Nat)] W fun e w' => ∃ a c,e=.returned (.tuple #[])∧WrP wb a c (X++bitsN n many) w'∧(∀ x ∈ footA a,x ∈ footA a0∨W.heap.size≤x)∧Frm (wb :: footA a0) W w':=by
 obtain ⟨hp1,hp2,hp3⟩:=hP
 have H:St W (wb :: footA a0) [blkR wb [.slice a0 (nB X) c0,.int .i64 (X.length:Nat)] 56,vecR a0 c0 5 1 (nB X) (rowK .u8 (byteOf X) (nB X))] W :=
  (St.one hp2 (vecR_local _ _ _ _ _ _) (fun b hb => List.mem_cons_of_mem _ hb)).cons hp1 ⟨blkR_local _ _ _,blkR_in _ _ _⟩ (fun b hb => .inl (by simp [blkR] at hb;simp [hb])) (fun s hs b hb hb2 => by
   rw [List.mem_singleton] at hs
   subst hs
   simp only [blkR,List.mem_singleton] at hb
   subst hb
   exact hp3 hb2)
 refine enter (m:=58) Tryd.func21 O Tryd.ntmps21 O (Cy (Lo O (YI O) (Lo O (YI O) (Lt (Cb ?_)))))
 refine Cl (fun mm ρ w' => ∃ i a c,i≤many∧mm=many - i∧ρ 0=.pointer (some ⟨wb,0,none⟩)∧ρ 1=.int .i64 (n:Nat)∧ρ 7=.int .i64 (many:Nat)∧ρ 8=.int .i64 (i:Nat) ∧
  St W (wb :: footA a0) [blkR wb [.slice a (nB (X++bitsN n i)) c,.int .i64 ((X++bitsN n i).length:Nat)] 56,vecR a c 5 1 (nB (X++bitsN n i)) (rowK .u8 (byteOf (X++bitsN n i)) (nB (X++bitsN n i)))] w') many
  ⟨0,a0,c0,by omega,rfl,rfl,rfl,rfl,rfl,by simpa [bitsN] using H⟩ ?_
 clear H
 rintro mm ρ w5 ⟨i,a,c,hi,hmm,r0,r1,r7,r8,H⟩
 refine Cy (Lo O (Y.lss (by assumption) (by assumption)) (Lt ?_))
 by_cases hy:i=many
 case pos =>
  subst hy
  refine Cs (CF O (by omega) (Cx (thn_x (thn_x (blk_x ?_)))))
  refine Done.end0 O ⟨a,c,rfl,⟨H.blk (i:=0) rfl,H.get (i:=1) rfl,fun hx => ?_⟩,fun x hx => ?_,H.frm⟩
  ·have:=H.apart
   simp only [Apart,List.pairwise_cons] at this
   exact this.1 _ (List.mem_singleton.2 O) wb (by simp [blkR]) hx
  ·rcases H.own _ (List.mem_cons_of_mem _ (List.mem_singleton.2 rfl)) x hx with h | h
   ·rcases List.mem_cons.1 h with rfl | h
    ·have:=H.apart
     simp only [Apart,List.pairwise_cons] at this
     exact absurd hx (this.1 _ (List.mem_singleton.2 O) x (by simp [blkR]))
    ·exact .inl h
   ·exact .inr h
 obtain ⟨Z,hZ⟩:∃ Z,Z=X++bitsN n i:=⟨_,rfl⟩
 have hZl:Z.length=X.length+i:=by rw [hZ,List.length_append,bnl]
 obtain ⟨q,hq⟩:∃ q,q=Z.length / 8:=⟨_,rfl⟩
 rw [← hZ] at H
 refine Cs (CT O (by omega) (Ck (tn (Cs (Cb (Cy (Lo O (YI (by assumption)) (Lo O (AI O) (Lt (Cs (Cy (Lo O (YP (by assumption)) (Lo O (Y.nilP O) (Lo O (Y.fa fa_56_1 O) (Lo O (Y.ld ld_3 O (H.cell 0 O O)) (Lo O (Y.remr O O (by omega) (rN (b:=8))) (Lo O (Y.eql O O) ?_)))))))))))))))))
 refine Lt ?_
 refine VC.join (fun ρ w' => ∃ a c,ρ 0=.pointer (some ⟨wb,0,none⟩)∧ρ 1=.int .i64 (n:Nat)∧ρ 6=.int .i64 (i:Nat)∧ρ 7=.int .i64 (many:Nat)∧ρ 8=.int .i64 (i:Nat) ∧
  St W (wb :: footA a0) [blkR wb [.slice a (q+1) c,.int .i64 (Z.length:Nat)] 56,vecR a c 5 1 (q+1) (rowK .u8 (byteOf Z) (q+1))] w') ?_ ?_
 case refine_1 =>
  by_cases h8:Z.length % 8=0
  case neg =>
   have e:nB Z=q+1:=by unfold nB;omega
   rw [e] at H
   refine CF O (by omega) (Ck (tn ?_))
   exact ⟨a,c,r0,r1,rfl,r7,r8,H⟩
  have e:nB Z=q:=by unfold nB;omega
  rw [e] at H
  refine CT O (by omega) (Cr (Lo O (YP (by assumption)) (Lo O (YP (by assumption)) (Lo O (Y.nilP O) (Lo O (Y.fa fa_56_0 O) (Lo O (Y.ld ld_24 O (H.cell 0 O O)) (VL.bslice H mk_24 (nums .u8 [0]) O O (by decide) (by decide) (by kernel_rfl) ?_)))))))
  intro w b22 hn22 hb22 H
  refine VL.append H 2 mk_24 (by decide) O O O O (news:=nums .u8 [0]) O (fun j u hj => by rw [Nat.zero_add];exact H.cell 0 O hj) (nums_one _ _) (by simp only [maxLen];omega) (by omega) ?_
  intro a' c' w hfa H
  simp only [List.set] at H
  refine Lo O (Y.nilP O) (Lo O (Y.fa fa_56_0 O) (VL.putS H 1 st_24 O O O O ?_))
  intro w H
  simp only [List.set] at H
  refine Lt ?_
  replace H:St W (wb :: footA a0) [blkR wb [.slice a' (q+1) c',.int .i64 (Z.length:Nat)] 56,vecR a' c' 5 1 (q+1) (rowK .u8 (byteOf Z) (q+1))] w:=by
   have e2:rowK .u8 (byteOf Z) (q+1)=rowK .u8 (byteOf Z) q++nums .u8 [0]:=by
    rw [← rowK_append]
    congr 1
    show [Value.int .u8 ((byteOf Z (q+0):Nat):Int)]=[Value.int .u8 ((0:Nat):Int)]
    rw [byteOf_out Z (q+0) (by omega)]
   rw [e2]
   exact H.sub [1,2] O (by simp)
  exact ⟨a',c',r0,r1,rfl,r7,r8,H⟩
 case refine_2 =>
 clear H r0 r1 r7 r8
 rintro ρ w6 ⟨a,c,r0,r1,r6,r7,r8,H⟩
 obtain ⟨g,rfl,_⟩:=(H.get (i:=1) rfl:VecOk _ _ _ _ _ _ _).cell (by omega)
 have hlt:byteOf Z (Z.length / 8)<256:=byteOf_lt _ _
 have hdv:n / 2 ^ i≤n:=Nat.div_le_self _ _
 have hsh:n / 2 ^ i % 2 * 2 ^ (Z.length % 8)<256:=by
  have h1:n / 2 ^ i % 2≤1:=by omega
  have h2:2 ^ (Z.length % 8)≤2 ^ 7:=Nat.pow_le_pow_right (by omega) (by omega)
  have:=Nat.mul_le_mul h1 h2
  omega
 refine Cs (VC.drawTail 24 mixedP (by kernel_rfl) ?_)
 intro w hsame
 replace H:=H.same hsame
 refine So O (YP (by assumption)) (So O (Y.nilP O) (So O (Y.fa fa_56_0 O) (So O (Y.ld ld_24 O (H.cell 0 O O)) (So O (YP (by assumption)) (So O (Y.nilP O) (So O (Y.fa fa_56_1 O) (So O (Y.ld ld_3 O (H.cell 0 O O)) (So O (Y.quo O O (by omega) (q64 (b:=8) (by omega))) (So O (Y.ixS0 (Z.length / 8) sl_24 O O O (by omega)) (So O (Y.ld ld_5 O (VecOk.cellS (H.get (i:=1) O) (rowK_get (by omega)))) (So O (YI (by assumption)) (So O (YI (by assumption)) (So O (Y.shr O O (by omega) (shrK (k:=.i64) (by show _≤(64:Nat);omega))) (So O (Y.and O O (a64 (b:=1) ⟨by omega,by omega⟩)) (So O (Y.cv (r:=((n / 2 ^ i % 2:Nat):Int)) int_3_5 O (by rw [Nat.and_one_is_mod,wu8 (by omega)])) (So O (YP (by assumption)) (So O (Y.nilP O) (So O (Y.fa fa_56_1 O) (So O (Y.ld ld_3 O (H.cell 0 O O)) ?_)))))))))))))))))))
 refine So O (Y.remr O O (by omega) (rN (b:=8))) (So O (Y.shl (r:=((n / 2 ^ i % 2 * 2 ^ (Z.length % 8):Nat):Int)) O O (by omega) (shlK (by show _≤(8:Nat);omega) (wu8 (by omega)))) (So O (Y.or O O (ou8 ⟨by omega,by omega⟩)) (So O (Y.ixS0 (Z.length / 8) sl_24 O O O (by omega)) (Sn (VL.putV (v:=.int .u8 ((byteOf Z (Z.length / 8) ||| n / 2 ^ i % 2 * 2 ^ (Z.length % 8):Nat):Int)) H 1 st_5 O O O O (by omega) ?_)))))
 intro w H
 simp only [List.set] at H
 refine Lt (Cr (Lo O (YP (by assumption)) (Lo O (Y.nilP O) (Lo O (Y.fa fa_56_1 O) (Lo O (Y.ld ld_3 O (H.cell 0 O O)) (Lo O (Y.add O O (n64 (b:=1) (by omega))) (Lo O (Y.nilP O) (Lo O (Y.fa fa_56_1 O) (VL.putI H 0 st_3 O O O O ?_)))))))))
 intro w H
 simp only [List.set] at H
 refine Ln (blk_n (tn (Cr (Lo O (Y.add (r:=((i+1:Nat):Int)) r8 O (n64 (b:=1) (by omega))) (Lo O (YI O) (Lt ?_))))))
 refine ⟨many - (i+1),by omega,i+1,some ⟨g,0,none⟩,c,by omega,rfl,r0,r1,r7,rfl,?_⟩
 have eZ:X++bitsN n (i+1)=Z++[n / 2 ^ i % 2 == 1]:=by rw [bitsN_snoc,← List.append_assoc,← hZ]
 have eb:(n / 2 ^ i % 2 == 1).toNat=n / 2 ^ i % 2:=by
  rcases Nat.mod_two_eq_zero_or_one (n / 2 ^ i) with h | h <;> simp [h]
 rw [eZ,nB_snoc,← hq]
 have es:=rowK_set (k:=.u8) (f:=byteOf Z) (g:=byteOf (Z++[n / 2 ^ i % 2 == 1])) (n:=q+1) (x:=Z.length / 8) (v:=byteOf Z (Z.length / 8) ||| n / 2 ^ i % 2 * 2 ^ (Z.length % 8))
  (by rw [byteOf_snoc _ _ _ (Nat.le_refl _),if_pos rfl,eb]) (fun j hj hne => by rw [byteOf_snoc _ _ _ (by omega),if_neg hne])
 rw [es] at H
 rw [List.length_append]
 exact H
def wrR (wb:Nat) (a:Option Addr) (c:Nat) (X:Bits):Res:=⟨wb :: footA a,WrP wb a c X⟩
theorem wrR_local (wb:Nat) (a:Option Addr) (c:Nat) (X:Bits):(wrR wb a c X).Local∧(wrR wb a c X).In:=by
 refine ⟨fun w w' h ⟨h1,h2,h3⟩ => ⟨?_,(vecR_local a c 5 1 (nB X) _).1 w w' (fun b hb => h b (List.mem_cons_of_mem _ hb)) h2,h3⟩,fun w ⟨h1,h2,h3⟩ b hb => ?_⟩
 ·exact (h wb (List.mem_cons_self ..)).trans h1
 ·rcases List.mem_cons.1 hb with rfl | hb
  ·exact h1.lt
  ·exact (vecR_local a c 5 1 (nB X) _).2 w h2 b hb
section
variable {w0 w:World} {S:List Nat} {l:List Res} {wb c c':Nat} {a a':Option Addr} {X X':Bits}
theorem St.wr (H:St w0 S l w) (i:Nat) {w':World} (hi:l[i]?=some (wrR wb a c X)) (hP:WrP wb a' c' X' w') (hfa:∀ x ∈ footA a',x ∈ footA a∨w.heap.size≤x) (hf:Frm (wb :: footA a) w w'):St w0 S (l.set i (wrR wb a' c' X')) w' :=
 H.turn hi hf hP (wrR_local _ _ _ _) fun b hb => by
  rcases List.mem_cons.1 hb with rfl | hb
  ·exact .inl (List.mem_cons_self ..)
  ·exact (hfa b hb).imp (List.mem_cons_of_mem _) id
variable {nn:Nat} {ops:Array Oper} {Q:Post} {rest:List Oper} {ρ:Env} {ty:TypeId} {pos:String} {after:Array Edge} {x y z:Operand} {d:Nat} {ts:Array TypeId}
theorem VL.bits (H:St w0 S l w) (i:Nat) (hi:l[i]?=some (wrR wb a c X)) (n many:Nat) (hm:many≤62) (hn:n<2 ^ 62) (hX:X.length≤1099511627776) (hd:Nat.blt d nn=true) (hx:ev ρ x=.pointer (some ⟨wb,0,none⟩)) (hy:ev ρ y=.int .i64 (n:Nat)) (hz:ev ρ z=.int .i64 (many:Nat))
  (h:∀ w' a' c',St w0 S (l.set i (wrR wb a' c' (X++bitsN n many))) w'→VL Tryd.prog nn ops Q rest (upd ρ d (.tuple #[])) w') :
  VL Tryd.prog nn ops Q (⟨some d,.call ⟨.value (.func 21),#[x,y,z],ts⟩,ty,pos,after,none⟩ :: rest) ρ w :=
 VL.call hd ent_21 (bits_any w wb a c X n many (H.get hi) hm hn hX) (by simp [hx,hy,hz]) fun e w' ⟨a',c',he,hP,hfa,hf⟩ => ⟨_,he,h _ a' c' (H.wr i hi hP hfa hf)⟩
end
theorem St.wrEnd {W w:World} {wb c:Nat} {a0 a:Option Addr} {X:Bits} (H:St W (wb :: footA a0) [wrR wb a c X] w):WrP wb a c X w∧(∀ x ∈ footA a,x ∈ footA a0∨W.heap.size≤x)∧Frm (wb :: footA a0) W w:=by
 have hP:WrP wb a c X w:=H.get (i:=0) rfl
 refine ⟨hP,fun x hx => ?_,H.frm⟩
 rcases H.own _ (List.mem_singleton.2 rfl) x (List.mem_cons_of_mem _ hx) with h | h
 ·rcases List.mem_cons.1 h with rfl | h
  ·exact absurd hx hP.2.2
  ·exact .inl h
 ·exact .inr h
def bitsM (c:Nat):Nat→Bits
 | 0 => []
 | n+1 => (c / 2 ^ n % 2 == 1) :: bitsM c n
theorem bitsM_length (c:Nat):∀ n,(bitsM c n).length=n
 | 0 => rfl
 | n+1 => by rw [bitsM,List.length_cons,bitsM_length c n]
theorem code_any (W:World) (wb:Nat) (a0:Option Addr) (c0:Nat) (X:Bits) (n long:Nat) (hP:WrP wb a0 c0 X W) (hm:long≤62) (hn:n<2 ^ 62) (hX:X.length+62≤1099511627776) :
  Calls Tryd.prog 49 #[.pointer (some ⟨wb,0,none⟩),.int .i64 (n:Nat),.int .i64 (long:Nat)] W fun e w' => ∃ a c,e=.returned (.tuple #[])∧WrP wb a c (X++bitsM n long) w'∧(∀ x ∈ footA a,x ∈ footA a0∨W.heap.size≤x)∧Frm (wb :: footA a0) W w':=by
 have H:St W (wb :: footA a0) [wrR wb a0 c0 X] W:=St.one hP (wrR_local _ _ _ _) (fun b hb => hb)
 refine enter (m:=18) Tryd.func49 O Tryd.ntmps49 O (Cy (Lo O (YI O) (Lo O (Y.sub O O (w64 (by omega))) (Lo O (AI O) (Lt (Cb ?_))))))
 refine Cl (fun mm ρ w' => ∃ i a c Z,i≤long∧mm=i∧ρ 0=.pointer (some ⟨wb,0,none⟩)∧ρ 1=.int .i64 (n:Nat)∧ρ 6=.int .i64 ((i:Int) - 1)∧Z++bitsM n i=X++bitsM n long ∧
  St W (wb :: footA a0) [wrR wb a c Z] w') long
  ⟨long,a0,c0,X,by omega,rfl,rfl,rfl,rfl,rfl,H⟩ ?_
 clear H
 rintro mm ρ w5 ⟨i,a,c,Z,hi,hmm,r0,r1,r6,hZ,H⟩
 refine Cs (Cy (Lo O (YI (by assumption)) (Lo O (Y.geq O O) (Lt ?_))))
 by_cases hy:i=0
 case pos =>
  subst hy
  refine CF O (by omega) (Cx (thn_x (thn_x (blk_x ?_))))
  rw [bitsM,List.append_nil] at hZ
  subst hZ
  exact Done.end0 O ⟨a,c,rfl,H.wrEnd⟩
 obtain ⟨k,rfl⟩:∃ k,i=k+1:=⟨i - 1,by omega⟩
 have r6':ρ 6=.int .i64 (k:Nat):=by rw [r6];congr 1;omega
 have hZl:Z.length≤X.length+62:=by
  have:=congrArg List.length hZ
  simp only [List.length_append,bitsM_length] at this
  omega
 have hdv:n / 2 ^ k≤n:=Nat.div_le_self _ _
 refine CT O (by omega) (Ck (tn (Cs (Cb (Cr (Lo O (YP (by assumption)) (Lo O (YI (by assumption)) (Lo O (YI r6') (Lo O (Y.shr O O (by omega) (shrK (k:=.i64) (by show _≤(64:Nat);omega))) (VL.bits H 0 O (n / 2 ^ k) 1 (by omega) (by omega) (by omega) O O O O ?_))))))))))
 intro w a' c' H
 simp only [List.set] at H
 refine Ln (blk_n (tn (Cr (Lo O (YI r6') (Lo O (Y.sub O O (w64 (by omega))) (Lo O (AI O) (Lt ?_)))))))
 exact ⟨k,by omega,k,a',c',_,by omega,rfl,r0,r1,rfl,by rw [← hZ,List.append_assoc];rfl,H⟩
theorem bitsM_path (c:Nat):∀ n,bitsM c n=codePath c n
 | 0 => rfl
 | n+1 => by
  rw [bitsM,codePath,bitsM_path c n,Nat.testBit_eq_decide_div_mod_eq]
  congr 1
theorem rds_bits {n k:Nat} (h:n<2 ^ k):Rds (rd k) (bitsN n k) n:=fun Y => by
 rw [rd_ok (by rw [List.length_append,bnl];omega),List.take_left' (bnl n k),List.drop_left' (bnl n k),val_bitsN,Nat.mod_eq_of_lt h]
def WayAt (B:Nat) (v:Value) (w:World):Prop:=B<w.heap.size∧∃ a n c,v=.slice a n c∧n≤2147483647∧(n=0∨∃ sb so,∃ zs:List Int,a=some ⟨sb,so,none⟩∧n=zs.length∧sb=B∧∀ j (h:j<zs.length),w.cell? ⟨sb,so+j,none⟩=some (.int .i64 zs[j]))
theorem WayAt.keep {B:Nat} {v:Value} {w w':World} {S:List Nat} (h:WayAt B v w) (hf:Frm S w w') (hS:∀ b ∈ S,B≠b):WayAt B v w':=by
 obtain ⟨hB,a,n,c,rfl,hn,h⟩:=h
 refine ⟨Nat.lt_of_lt_of_le hB hf.size,a,n,c,rfl,hn,h.imp id ?_⟩
 rintro ⟨sb,so,zs,rfl,h1,h2,h3⟩
 exact ⟨sb,so,zs,rfl,h1,h2,fun j hj => hf.cell (h3 j hj) fun hm => hS _ hm h2.symm⟩
def chL (v:Value) (n:Nat):List Value:=[v,.int .i64 (n:Nat)]
theorem next_any' (W:World) (cb B:Nat) (v:Value) (k m:Nat) (hb:Blk W cb (chL v k) 53) (hw:WayAt B v W) (hB:B≠cb) (hk:k≤4611686018427387904) (hm0:0<m) (hm:m≤4294967296) :
  Calls Tryd.prog 22 #[.pointer (some ⟨cb,0,none⟩),.int .i64 (m:Nat)] W fun e w' => (∃ r:Nat,r<m∧e=.returned (.int .i64 (r:Nat)))∧Blk w' cb (chL v (k+1)) 53∧Frm [cb] W w':=by
 obtain ⟨_,a,n,c,rfl,hn,hw⟩:=hw
 unfold chL at hb ⊢
 have H:=St.ofBlk hb
 refine enter (m:=57) Tryd.func22 O Tryd.ntmps22 O (Cy (Lo O (AI O) (Lt (Cy (Lo O (YP O) (Lo O (Y.nilP O) (Lo O (Y.fa fa_53_1 O) (Lo O (Y.ld ld_3 O (H.cell 0 O O)) (Lo O (AI O) (Lt (Cs (Cy (Lo O (YP O) (Lo O (Y.nilP O) (Lo O (Y.fa fa_53_0 O) ?_)))))))))))))))
 refine Lo O (Y.ld ld_23 O (H.cell 0 O O)) (Lo O (Y.len sl_23 O) (Lo O (Y.gtr O O) (Lt ?_)))
 refine VC.join (fun ρ w' => ∃ x:Int,ρ 0=.pointer (some ⟨cb,0,none⟩)∧ρ 1=.int .i64 (m:Nat)∧ρ 5=.int .i64 x∧St W [cb] [blkR cb [.slice a n c,.int .i64 (k:Nat)] 53] w') ?_ ?_
 case refine_1 =>
  by_cases hn0:n=0
  case pos =>
   refine CF O (by omega) (Ck (tn ?_))
   exact ⟨k,rfl,rfl,rfl,H⟩
  rcases hw with h | ⟨sb,so,zs,rfl,rfl,hsb,hz⟩
  ·exact absurd h hn0
  have hl:k % zs.length<zs.length:=Nat.mod_lt _ (by omega)
  have hc:=hz _ hl
  have hS:sb ∉ [cb]:=by simp;omega
  refine CT O (by omega) (Cd mixedP (by kernel_rfl) ?_)
  intro w hsame
  replace H:=H.same hsame
  refine So O (YP O) (So O (Y.nilP O) (So O (Y.fa fa_53_0 O) (So O (Y.ld ld_23 O (H.cell 0 O O)) (So O (YP O) (So O (Y.nilP O) (So O (Y.fa fa_53_1 O) (So O (Y.ld ld_3 O (H.cell 0 O O)) (So O (YP O) (So O (Y.nilP O) (So O (Y.fa fa_53_0 O) (So O (Y.ld ld_23 O (H.cell 0 O O)) (So O (Y.len sl_23 O) (So O (Y.remr O O (by omega) (rN)) (So O (Y.ixS1 (k % zs.length) sl_23 O O O hl) (So O (Y.ld ld_3 O (H.old hc hS)) (So O (YP O) (So O (Y.nilP O) (So O (Y.fa fa_53_1 O) (So O (Y.ld ld_3 O (H.cell 0 O O)) ?_)))))))))))))))))))
  refine So O (YP O) (So O (Y.nilP O) (So O (Y.fa fa_53_0 O) (So O (Y.ld ld_23 O (H.cell 0 O O)) (So O (Y.len sl_23 O) (So O (Y.quo O O (by omega) (q64 (by omega))) (So O (Y.addW O O) (So O (AI O) (Sn (tn ?_)))))))))
  exact ⟨_,rfl,rfl,rfl,H⟩
 case refine_2 =>
 clear H
 rintro ρ w5 ⟨x,r0,r1,r5,H⟩
 obtain ⟨r,hr,er,hx1,hx2⟩:=mod_pos x m hm0 hm
 refine Cy (Lo O (YP (by assumption)) (Lo O (Y.nilP O) (Lo O (Y.fa fa_53_1 O) (Lo O (Y.ld ld_3 O (H.cell 0 O O)) (Lo O (Y.add (r:=((k+1:Nat):Int)) O O (n64 (b:=1) (by omega))) (Lo O (Y.nilP O) (Lo O (Y.fa fa_53_1 O) (VL.putI H 0 st_3 O O O O ?_))))))))
 intro w H
 simp only [List.set] at H
 refine Lt (Cy (Lo O (YI r5) (Lo O (YI r1) (Lo O (Y.remr O O (by omega) O) (Lo O (YI r1) (Lo O (Y.add O O (w64 (by omega))) (Lo O (YI r1) (Lo O (Y.remr O O (by omega) er) (Lo O (AI O) (Lt (Ct ?_)))))))))))
 exact Done.ret1 O O ⟨⟨r,hr,rfl⟩,H.blk (i:=0) rfl,H.frm⟩
section
variable {w0 w:World} {S:List Nat} {l:List Res} {cb B k:Nat} {v:Value}
variable {nn:Nat} {ops:Array Oper} {Q:Post} {rest:List Oper} {ρ:Env} {ty:TypeId} {pos:String} {after:Array Edge} {x y:Operand} {d:Nat} {ts:Array TypeId}
theorem VL.next (H:St w0 S l w) (i:Nat) (hi:l[i]?=some (blkR cb (chL v k) 53)) (hw:WayAt B v w0) (hS:∀ b ∈ S,B≠b) (hB:B≠cb) (m:Nat) (hk:k≤4611686018427387904) (hm0:0<m) (hm:m≤4294967296) (hd:Nat.blt d nn=true) (hx:ev ρ x=.pointer (some ⟨cb,0,none⟩)) (hy:ev ρ y=.int .i64 (m:Nat))
  (h:∀ w' r,r<m→St w0 S (l.set i (blkR cb (chL v (k+1)) 53)) w'→VL Tryd.prog nn ops Q rest (upd ρ d (.int .i64 (r:Nat))) w') :
  VL Tryd.prog nn ops Q (⟨some d,.call ⟨.value (.func 22),#[x,y],ts⟩,ty,pos,after,none⟩ :: rest) ρ w :=
 VL.call hd ent_22 (next_any' w cb B v k m (H.blk hi) (hw.keep H.frm hS) hB hk hm0 hm) (by simp [hx,hy]) fun e w' ⟨⟨r,hr,he⟩,hb,hf⟩ => ⟨_,he,h _ r hr (H.turnB i hi hf hb)⟩
end
def us (ls:List Nat):Nat→Nat
 | 0 => 0
 | k+1 => 2 * us ls k+if k=0 then 0 else ls.count k
def scode (ls:List Nat) (s:Nat):Nat:=2 * us ls (ls.getD s 0)+(ls.take s).count (ls.getD s 0)
theorem us_le (ls:List Nat):∀ k,us ls k+ls.length≤2 ^ k * ls.length
 | 0 => by simp [us]
 | k+1 => by
  have h:=us_le ls k
  have hc:ls.count k≤ls.length:=List.count_le_length
  rw [us,Nat.pow_succ,show 2 ^ k * 2 * ls.length=2 * (2 ^ k * ls.length) by rw [Nat.mul_comm (2 ^ k) 2,Nat.mul_assoc]]
  split <;> omega
theorem us_bound (ls:List Nat) (hn:ls.length≤65536) {k:Nat} (hk:k≤16):us ls k≤4294967296:=by
 have h:=us_le ls k
 have h2:2 ^ k≤2 ^ 16:=Nat.pow_le_pow_right (by omega) hk
 have h3:=Nat.mul_le_mul h2 hn
 omega
theorem scodes_any (W:World) (b o c:Nat) (ls:List Nat) (hr:Row W .i64 b o ls) (h15:∀ x ∈ ls,x≤15) (hn:ls.length≤65536) :
  Calls Tryd.prog 63 #[.slice (some ⟨b,o,none⟩) ls.length c] W fun e w' => ∃ g,W.heap.size≤g∧e=.returned (.slice (some ⟨g,0,none⟩) ls.length ls.length)∧Blk w' g (rowK .i64 (fun s => if ls.getD s 0=0 then 0 else scode ls s) ls.length) 3∧Frm [] W w':=by
 have H:St W [] [] W:=St.nil W []
 refine enter (m:=35) Tryd.func63 O Tryd.ntmps63 O (Cy (Lo O (Y.asg O) (Lt (Cy (Lo O (YS O) (Lo O (Y.len sl_23 O) (VL.make H mk_23 ls.length ls.length O O O O (Nat.le_refl _) (by omega) (by omega) O ?_)))))))
 intro w g hn13 hg H
 refine Lo O (AS O) (Lt ?_)
 rw [mkCells_one,rowK_zero] at H
 refine Cy (Lo O (AI O) (Lt (Cs (Cy (Lo O (AI O) (Lt ?_))))))
 refine VC.join (fun ρ w' => ρ 3=.slice (some ⟨g,0,none⟩) ls.length ls.length∧St W [] [blkR g (rowK .i64 (fun s => if ls.getD s 0=0 then 0 else scode ls s) ls.length) 3] w') ?_ ?_
 case refine_1 =>
  refine Cb ?_
  refine Cl (fun mm ρ w' => ∃ k,1≤k∧k≤16∧mm=16 - k∧ρ 0=.slice (some ⟨b,o,none⟩) ls.length c∧ρ 3=.slice (some ⟨g,0,none⟩) ls.length ls.length∧ρ 4=.int .i64 (us ls k:Nat)∧ρ 5=.int .i64 (k:Nat) ∧
   St W [] [blkR g (rowK .i64 (fun s => if ls.getD s 0=0∨k≤ls.getD s 0 then 0 else scode ls s) ls.length) 3] w') 15
   ⟨1,by omega,by omega,rfl,rfl,rfl,rfl,rfl,by
    rw [rowK_congr (g:=fun _ => 0)]
    ·exact H
    ·intro j hj
     rw [if_pos (by omega)]⟩ ?_
  clear H
  rintro mm ρ w5 ⟨k,hk1,hk,hmm,r0,r3,r4,r5,H⟩
  have hus:=us_bound ls hn hk
  refine Cs (Cy (Lo O (YI (by assumption)) (Lo O (Y.leq O O) (Lt ?_))))
  by_cases hk16:k=16
  case pos =>
   subst hk16
   refine CF O (by omega) (Cx (thn_x (thn_x (blk_x (tn ?_)))))
   rw [rowK_congr (g:=fun s => if ls.getD s 0=0 then 0 else scode ls s)] at H
   ·exact ⟨r3,H⟩
   ·intro j hj
    have:ls.getD j 0≤15:=by rw [show ls.getD j 0=ls[j] by simp [hj]];exact h15 _ (List.getElem_mem hj)
    by_cases h:ls.getD j 0=0
    ·rw [if_pos h,if_pos (.inl h)]
    ·rw [if_neg h,if_neg (by omega)]
  refine CT O (by omega) (Ck (tn (Cs (Cb (Cy (Lo O (YI (by assumption)) (Lo O (Y.mul (r:=((2 * us ls k:Nat):Int)) O O (by rw [w64 (by omega)];omega)) (Lo O (AI O) (Lt (Cy (Lo O (YS (by assumption)) (Lo O (Y.len sl_23 O) (Lo O (YI O) (Lt (Cb ?_)))))))))))))))
  refine Cl (fun mm ρ w' => ∃ i,i≤ls.length∧mm=ls.length - i∧ρ 0=.slice (some ⟨b,o,none⟩) ls.length c∧ρ 3=.slice (some ⟨g,0,none⟩) ls.length ls.length∧ρ 4=.int .i64 ((2 * us ls k+(ls.take i).count k:Nat):Int)∧ρ 5=.int .i64 (k:Nat) ∧
   ρ 17=.slice (some ⟨b,o,none⟩) ls.length c∧ρ 18=.int .i64 (ls.length:Nat)∧ρ 19=.int .i64 (i:Nat) ∧
   St W [] [blkR g (rowK .i64 (fun s => if ls.getD s 0=0∨k+1≤ls.getD s 0∨(ls.getD s 0=k∧i≤s) then 0 else scode ls s) ls.length) 3] w') ls.length
   ⟨0,by omega,rfl,r0,r3,by rw [List.take_zero];rfl,r5,rfl,rfl,rfl,by
    rw [rowK_congr (g:=fun s => if ls.getD s 0=0∨k≤ls.getD s 0 then 0 else scode ls s)]
    ·exact H
    ·intro j hj
     by_cases h:ls.getD j 0=0∨k≤ls.getD j 0
     ·rw [if_pos h,if_pos (by omega)]
     ·rw [if_neg h,if_neg (by omega)]⟩ ?_
  clear H r0 r3 r4 r5
  rintro mm2 ρ w6 ⟨i,hi,hmm2,r0,r3,r4,r5,r17,r18,r19,H⟩
  have hct:(ls.take i).count k≤ls.length:=Nat.le_trans (take_count_le ls i k) List.count_le_length
  refine Cy (Lo O (Y.lss (by assumption) (by assumption)) (Lt ?_))
  by_cases hil:i=ls.length
  case pos =>
   subst hil
   refine Cs (CF O (by omega) (Cx (thn_x (thn_x (blk_x (blk_n (tn ?_)))))))
   rw [rowK_congr (g:=fun s => if ls.getD s 0=0∨k+1≤ls.getD s 0 then 0 else scode ls s) (fun j hj => by
    by_cases h:ls.getD j 0=0∨k+1≤ls.getD j 0
    ·rw [if_pos h,if_pos (by omega)]
    ·rw [if_neg h,if_neg (by omega)])] at H
   refine Cr (Lo O (YI r5) (Lo O (Y.add O O (n64 (b:=1) (by omega))) (Lo O (AI O) (Lt ?_))))
   exact ⟨16 - (k+1),by omega,k+1,by omega,by omega,rfl,r0,r3,by
    rw [List.take_length] at r4
    rw [us,if_neg (by omega)]
    exact r4,rfl,H⟩
  have hlt:i<ls.length:=by omega
  have hcell:=hr i hlt
  have hgd:ls.getD i 0=ls[i]:=by simp [hlt]
  have hcs:=take_count_succ ls i hlt k
  obtain ⟨x,hx⟩:∃ x,x=ls[i]:=⟨_,rfl⟩
  rw [← hx] at hcell hgd hcs
  refine Cs (CT O (by omega) (Ck (tn (Cs (Cb (Cy (Lo O (YI (by assumption)) (Lo O (Y.ixS1 i sl_23 r17 r19 O hlt) (Lo O (Y.ld ld_3 O (H.old hcell (by simp))) (Lo O (AI O) (Lo O (AI O) (Lt (Cy (Lo O (YI O) (Lo O (YI r5) (Lo O (Y.eql O O) ?_))))))))))))))))
  refine Lt ?_
  by_cases hxk:x=k
  case neg =>
   refine CF O (by omega) (Ck (blk_n (tn (Cr (Lo O (Y.add (r:=((i+1:Nat):Int)) r19 O (n64 (b:=1) (by omega))) (Lo O (YI O) (Lt ?_)))))))
   refine ⟨ls.length - (i+1),by omega,i+1,by omega,rfl,r0,r3,?_,r5,r17,r18,rfl,?_⟩
   ·rw [hcs,if_neg hxk]
    exact r4
   ·rw [rowK_congr (g:=fun s => if ls.getD s 0=0∨k+1≤ls.getD s 0∨(ls.getD s 0=k∧i≤s) then 0 else scode ls s)]
    ·exact H
    ·intro j hj
     by_cases hji:j=i
     ·subst hji
      by_cases h:ls.getD j 0=0∨k+1≤ls.getD j 0
      ·rw [if_pos (by omega),if_pos (by omega)]
      ·rw [if_neg (by omega),if_neg (by omega)]
     ·by_cases h:ls.getD j 0=0∨k+1≤ls.getD j 0∨(ls.getD j 0=k∧i≤j)
      ·rw [if_pos h,if_pos (by omega)]
      ·rw [if_neg h,if_neg (by omega)]
  rw [hxk] at hcell hgd hcs
  refine CT O (by omega) (Cy (Lo O (YS r3) (Lo O (YI O) (Lo O (YI r4) (Lo O (Y.ixS0 _ sl_23 O O O (by omega)) (VL.putR H 0 st_3 O O O (by omega) ?_))))))
  intro w H
  try simp only [List.set,List.eraseIdx] at H
  refine Lt (Cr (Lo O (YI r4) (Lo O (Y.add (r:=((2 * us ls k+(ls.take i).count k+1:Nat):Int)) O O (n64 (b:=1) (by omega))) (Lo O (AI O) (Ln (blk_n (tn (Cr (Lo O (Y.add (r:=((i+1:Nat):Int)) r19 O (n64 (b:=1) (by omega))) (Lo O (YI O) (Lt ?_)))))))))))
  refine ⟨ls.length - (i+1),by omega,i+1,by omega,rfl,r0,r3,?_,r5,r17,r18,rfl,?_⟩
  ·rw [hcs,if_pos rfl]
   rfl
  ·rw [rowK_congr (g:=fun s => if ls.getD s 0=0∨k+1≤ls.getD s 0∨(ls.getD s 0=k∧i+1≤s) then 0 else scode ls s)] at H
   ·exact H
   ·intro j hj
    by_cases hji:j=i
    ·subst hji
     rw [if_pos rfl,if_neg (by omega)]
     unfold scode
     rw [hgd]
    ·rw [if_neg hji]
     by_cases h:ls.getD j 0=0∨k+1≤ls.getD j 0∨(ls.getD j 0=k∧i≤j)
     ·rw [if_pos h,if_pos (by omega)]
     ·rw [if_neg h,if_neg (by omega)]
 case refine_2 =>
 clear H
 rintro ρ w5 ⟨r3,H⟩
 refine Cy (Lo O (YS (by assumption)) (Lo O (AS O) (Lt (Ct ?_))))
 exact Done.ret1 O O ⟨g,hg,rfl,H.blk (i:=0) rfl,H.frm⟩
theorem cstart_us (ls:List Nat):∀ k,cstart ls (k+1)=2 * us ls (k+1)+2 ^ (k+1) * ls.count 0
 | 0 => by
  show (0+ls.count 0) * 2=2 * (2 * 0+0)+2 ^ 1 * ls.count 0
  omega
 | k+1 => by
  have h2:us ls (k+1+1)=2 * us ls (k+1)+ls.count (k+1):=by rw [us,if_neg (by omega)]
  have h3:2 ^ (k+1+1) * ls.count 0=2 * (2 ^ (k+1) * ls.count 0):=by rw [Nat.pow_succ 2 (k+1),Nat.mul_comm (2 ^ (k+1)) 2,Nat.mul_assoc]
  rw [cstart,cstart_us ls k,h2,h3]
  omega
theorem codePath_low {a b:Nat}:∀ l,(∀ i,i<l→a.testBit i=b.testBit i)→codePath a l=codePath b l
 | 0,_ => rfl
 | l+1,h => by rw [codePath,codePath,h l (by omega),codePath_low l fun i hi => h i (by omega)]
theorem codePath_add (a m l:Nat):codePath (a+2 ^ l * m) l=codePath a l :=
 codePath_low l fun i hi => by
  have h1:=Nat.testBit_mod_two_pow (a+2 ^ l * m) l i
  have h2:=Nat.testBit_mod_two_pow a l i
  rw [Nat.add_mul_mod_self_left] at h1
  simp only [hi,decide_true,Bool.true_and] at h1 h2
  rw [← h1,← h2]
theorem scode_path (ls:List Nat) (s:Nat) (h:ls.getD s 0≠0):bitsM (scode ls s) (ls.getD s 0)=codePath (codeAt ls s) (ls.getD s 0):=by
 obtain ⟨k,hk⟩:∃ k,ls.getD s 0=k+1:=⟨ls.getD s 0 - 1,by omega⟩
 rw [bitsM_path]
 unfold scode codeAt
 rw [if_neg h,hk,cstart_us,show 2 * us ls (k+1)+2 ^ (k+1) * ls.count 0+(ls.take s).count (k+1)=2 * us ls (k+1)+(ls.take s).count (k+1)+2 ^ (k+1) * ls.count 0 by omega,codePath_add]
end Go.Proofs.YtinkhckpckfajaaDoor
namespace Go.Proofs.YtinkhckpckfajaaDoor
def room (l:Nat):Nat:=if l=0 then 0 else 2 ^ (15 - l)
def kraft (ls:List Nat):Nat:=(ls.map room).sum
def roomBelow (ls:List Nat) (l:Nat):Nat:=(ls.map fun x => if x<l then room x else 0).sum
theorem roomBelow_le (ls:List Nat) (l:Nat):roomBelow ls l≤kraft ls:=by
 induction ls with
 | nil => simp [roomBelow,kraft]
 | cons a r ih =>
  simp only [roomBelow,kraft,List.map_cons,List.sum_cons] at ih ⊢
  split <;> omega
theorem roomBelow_mono (ls:List Nat) {l m:Nat} (h:l≤m):roomBelow ls l≤roomBelow ls m:=by
 induction ls with
 | nil => simp [roomBelow]
 | cons a r ih =>
  simp only [roomBelow,List.map_cons,List.sum_cons] at ih ⊢
  split <;> split <;> omega
theorem roomBelow_succ (ls:List Nat) (l:Nat):roomBelow ls (l+1)=roomBelow ls l+ls.count l * room l:=by
 induction ls with
 | nil => simp [roomBelow]
 | cons a r ih =>
  simp only [roomBelow,List.map_cons,List.sum_cons,List.count_cons,beq_iff_eq] at ih ⊢
  rw [ih]
  by_cases h:a=l
  ·subst h
   simp only [if_pos (show a<a+1 by omega),if_neg (Nat.lt_irrefl a),if_true,Nat.add_mul,Nat.one_mul]
   omega
  ·simp only [if_neg h,Nat.add_zero]
   by_cases h2:a<l
   ·simp only [if_pos (show a<l+1 by omega),if_pos h2];omega
   ·simp only [if_neg (show ¬ a<l+1 by omega),if_neg h2];omega
def fstNo (ls:List Nat):Nat→Nat
 | 0 => 0
 | k+1 => (fstNo ls k+if k=0 then 0 else ls.count k) * 2
theorem cstart_first (ls:List Nat):∀ k,1≤k→cstart ls k=fstNo ls k+ls.count 0 * 2 ^ k
 | 0,h => by omega
 | 1,_ => by simp [cstart,fstNo]
 | k+2,_ => by
  have ih:=cstart_first ls (k+1) (by omega)
  have e1:fstNo ls (k+2)=(fstNo ls (k+1)+ls.count (k+1)) * 2:=by rw [fstNo,if_neg (by omega)]
  have e2:cstart ls (k+2)=(cstart ls (k+1)+ls.count (k+1)) * 2:=rfl
  rw [e1,e2,ih,Nat.pow_succ 2 (k+1),← Nat.mul_assoc]
  omega
theorem first_room (ls:List Nat):∀ k,1≤k→k≤15→fstNo ls k * 2 ^ (15 - k)=roomBelow ls k
 | 0,h,_ => by omega
 | 1,_,_ => by
  rw [roomBelow_succ]
  have:roomBelow ls 0=0:=by
   unfold roomBelow
   induction ls with
   | nil => rfl
   | cons a r ih => simpa using ih
  simp [fstNo,this,room]
 | k+2,_,h => by
  have ih:=first_room ls (k+1) (by omega) (by omega)
  rw [roomBelow_succ,← ih,fstNo,if_neg (by omega),room,if_neg (by omega),show 15 - (k+1)=(15 - (k+2))+1 by omega,Nat.pow_succ,← Nat.add_mul,Nat.mul_assoc,Nat.mul_comm 2]
def place (ls:List Nat) (s:Nat):Nat:=roomBelow ls (ls.getD s 0)+(ls.take s).count (ls.getD s 0) * room (ls.getD s 0)
theorem place_end {ls:List Nat} {s:Nat} (hs:s<ls.length):place ls s+room (ls.getD s 0)≤roomBelow ls (ls.getD s 0+1):=by
 have h1:=take_count_succ ls s hs (ls.getD s 0)
 have hg:ls.getD s 0=ls[s]:=by simp [hs]
 rw [if_pos hg.symm] at h1
 have h2:=take_count_le ls (s+1) (ls.getD s 0)
 rw [roomBelow_succ,place]
 have h3:((ls.take s).count (ls.getD s 0)+1) * room (ls.getD s 0)≤ls.count (ls.getD s 0) * room (ls.getD s 0):=Nat.mul_le_mul_right _ (by omega)
 rw [Nat.add_mul,Nat.one_mul] at h3
 omega
theorem place_apart {ls:List Nat} {s s':Nat} (hs:s<ls.length) (hs':s'<ls.length) (hne:s≠s'):place ls s+room (ls.getD s 0)≤place ls s'∨place ls s'+room (ls.getD s' 0)≤place ls s:=by
 rcases Nat.lt_trichotomy (ls.getD s 0) (ls.getD s' 0) with h | h | h
 ·left
  have h1:=place_end hs
  have h2:=roomBelow_mono ls (show ls.getD s 0+1≤ls.getD s' 0 by omega)
  have h3:roomBelow ls (ls.getD s' 0)≤place ls s':=by unfold place;omega
  omega
 ·have key:∀ {a b:Nat},a<b→b<ls.length→ls.getD a 0=ls.getD b 0→place ls a+room (ls.getD a 0)≤place ls b:=by
   intro a b hab hb he
   have h1:=take_count_succ ls a (by omega) (ls.getD a 0)
   have hg:ls.getD a 0=ls[a]'(by omega):=by simp [show a<ls.length by omega]
   rw [if_pos hg.symm] at h1
   have h2:(ls.take (a+1)).count (ls.getD a 0)≤(ls.take b).count (ls.getD a 0):=(List.take_sublist_take_left (by omega)).count_le _
   unfold place
   rw [← he]
   have h3:((ls.take a).count (ls.getD a 0)+1) * room (ls.getD a 0)≤(ls.take b).count (ls.getD a 0) * room (ls.getD a 0):=Nat.mul_le_mul_right _ (by omega)
   rw [Nat.add_mul,Nat.one_mul] at h3
   omega
  rcases Nat.lt_or_gt_of_ne hne with h4 | h4
  ·exact .inl (key h4 hs' h)
  ·exact .inr (key h4 hs h.symm)
 ·right
  have h1:=place_end hs'
  have h2:=roomBelow_mono ls (show ls.getD s' 0+1≤ls.getD s 0 by omega)
  have h3:roomBelow ls (ls.getD s 0)≤place ls s:=by unfold place;omega
  omega
def num (ls:List Nat) (s:Nat):Nat:=fstNo ls (ls.getD s 0)+(ls.take s).count (ls.getD s 0)
theorem num_place {ls:List Nat} {s:Nat} (h0:ls.getD s 0≠0) (h15:ls.getD s 0≤15):num ls s * 2 ^ (15 - ls.getD s 0)=place ls s:=by
 unfold num place
 rw [Nat.add_mul,first_room ls _ (by omega) h15,room,if_neg h0]
theorem num_path {ls:List Nat} {s:Nat} (h0:ls.getD s 0≠0):codePath (codeAt ls s) (ls.getD s 0)=codePath (num ls s) (ls.getD s 0):=by
 refine codePath_congr ?_
 unfold codeAt num
 rw [if_neg h0,cstart_first ls _ (by omega),show fstNo ls (ls.getD s 0)+ls.count 0 * 2 ^ ls.getD s 0+(ls.take s).count (ls.getD s 0)=fstNo ls (ls.getD s 0)+(ls.take s).count (ls.getD s 0)+ls.count 0 * 2 ^ ls.getD s 0 by omega,Nat.add_mul_mod_self_right]
theorem path_prefix {x y l m:Nat} (hl:l≤m) (hx:x<2 ^ l) (hy:y<2 ^ m) (h:codePath x l <+: codePath y m):x=y / 2 ^ (m - l):=by
 obtain ⟨j,rfl⟩:∃ j,m=l+j:=⟨m - l,by omega⟩
 rw [codePath_append] at h
 have h1:codePath x l=codePath (y >>> j) l:=by
  have h2:=List.prefix_iff_eq_take.1 h
  rw [codePath_length,List.take_left' (codePath_length _ _)] at h2
  exact h2
 have h3:=codePath_eq_mod l _ _ h1
 rw [Nat.shiftRight_eq_div_pow] at h3
 rw [show l+j - l=j by omega]
 rw [Nat.pow_add] at hy
 have h4:y / 2 ^ j<2 ^ l:=Nat.div_lt_of_lt_mul (by rw [Nat.mul_comm];exact hy)
 rw [Nat.mod_eq_of_lt hx,Nat.mod_eq_of_lt h4] at h3
 exact h3
theorem paths_aside {ls:List Nat} {s s':Nat} (hs:s<ls.length) (hs':s'<ls.length) (hne:s≠s') (h0:ls.getD s 0≠0) (h0':ls.getD s' 0≠0) (h15:ls.getD s 0≤15) (h15':ls.getD s' 0≤15) (hk:kraft ls≤2 ^ 15) :
  Aside (codePath (codeAt ls s) (ls.getD s 0)) (codePath (codeAt ls s') (ls.getD s' 0)):=by
 have key:∀ {a b:Nat},a<ls.length→b<ls.length→a≠b→ls.getD a 0≠0→ls.getD b 0≠0→ls.getD a 0≤15→ls.getD b 0≤15→¬ codePath (num ls a) (ls.getD a 0) <+: codePath (num ls b) (ls.getD b 0):=by
  intro a b ha hb hab ha0 hb0 ha15 hb15 hp
  have hla:=num_place ha0 ha15
  have hlb:=num_place hb0 hb15
  have hea:=place_end ha
  have heb:=place_end hb
  have hka:=roomBelow_le ls (ls.getD a 0+1)
  have hkb:=roomBelow_le ls (ls.getD b 0+1)
  have hap:=place_apart ha hb hab
  have hl:ls.getD a 0≤ls.getD b 0:=by have:=hp.length_le;rwa [codePath_length,codePath_length] at this
  generalize num ls a=x at *
  generalize num ls b=y at *
  generalize place ls a=pa at *
  generalize place ls b=pb at *
  generalize ls.getD a 0=l at *
  generalize ls.getD b 0=m at *
  have hra:room l=2 ^ (15 - l):=if_neg ha0
  have hrb:room m=2 ^ (15 - m):=if_neg hb0
  rw [hra] at hea hap
  rw [hrb] at heb hap
  have hpl:=Nat.two_pow_pos (15 - l)
  have hpm:=Nat.two_pow_pos (15 - m)
  have hx:x<2 ^ l:=by
   have h1:x * 2 ^ (15 - l)<2 ^ 15:=by omega
   rw [show 15=l+(15 - l) by omega,show l+(15 - l) - l=15 - l by omega,Nat.pow_add] at h1
   exact Nat.lt_of_mul_lt_mul_right h1
  have hy:y<2 ^ m:=by
   have h1:y * 2 ^ (15 - m)<2 ^ 15:=by omega
   rw [show 15=m+(15 - m) by omega,show m+(15 - m) - m=15 - m by omega,Nat.pow_add] at h1
   exact Nat.lt_of_mul_lt_mul_right h1
  have he:=path_prefix hl hx hy hp
  have hpow:2 ^ (15 - l)=2 ^ (m - l) * 2 ^ (15 - m):=by rw [← Nat.pow_add];congr 1;omega
  have hdm:=Nat.div_add_mod y (2 ^ (m - l))
  have hlt:=Nat.mod_lt y (Nat.two_pow_pos (m - l))
  rw [← he] at hdm
  generalize y % 2 ^ (m - l)=r at *
  have h3:y * 2 ^ (15 - m)=x * 2 ^ (15 - l)+r * 2 ^ (15 - m):=by
   rw [hpow,← hdm,Nat.add_mul]
   congr 1
   rw [Nat.mul_comm (2 ^ (m - l)) x,Nat.mul_assoc]
  have h4:(r+1) * 2 ^ (15 - m)≤2 ^ (m - l) * 2 ^ (15 - m):=Nat.mul_le_mul_right _ (by omega)
  rw [← hpow,Nat.add_mul,Nat.one_mul] at h4
  omega
 rw [num_path h0,num_path h0']
 exact ⟨key hs hs' hne h0 h0' h15 h15',key hs' hs (Ne.symm hne) h0' h0 h15' h15⟩
def PT.room (d:Nat):PT→Nat
 | .e => 0
 | .l _ => 2 ^ d
 | .n a b => match d with
  | 0 => 0
  | d+1 => PT.room d a+PT.room d b
def PT.fits:Nat→PT→Prop
 | _,.e => True
 | _,.l _ => True
 | 0,.n _ _ => False
 | d+1,.n a b => a.fits d∧b.fits d
theorem PT.room_le:∀ (d:Nat) (t:PT),t.fits d→t.room d≤2 ^ d
 | d,.e,_ => by simp [PT.room]
 | d,.l _,_ => by simp [PT.room]
 | 0,.n _ _,h => h.elim
 | d+1,.n a b,h => by
  have h1:=PT.room_le d a h.1
  have h2:=PT.room_le d b h.2
  simp only [PT.room,Nat.pow_succ]
  omega
theorem PT.room_full:∀ (d:Nat) (t:PT),t.fits d→t.room d=2 ^ d→t.empties=0
 | d,.e,_,h => by have:=Nat.two_pow_pos d;simp only [PT.room] at h;omega
 | d,.l _,_,_ => rfl
 | 0,.n _ _,h,_ => h.elim
 | d+1,.n a b,h,hr => by
  have h1:=PT.room_le d a h.1
  have h2:=PT.room_le d b h.2
  simp only [PT.room,Nat.pow_succ] at hr
  have h3:=PT.room_full d a h.1 (by omega)
  have h4:=PT.room_full d b h.2 (by omega)
  simp [PT.empties,h3,h4]
theorem PT.ins_free:∀ (t:PT) (p:Bits) (s d:Nat),t.fits d→p.length≤d→(∀ q,IsLeaf t q→Aside p q)→t.obs p≠.inner →
  ∃ t',t.ins p s=some t'∧t'.fits d∧t'.room d=t.room d+2 ^ (d - p.length)∧t.inner≤t'.inner
 | .e,[],s,d,hf,hp,ha,ho => ⟨.l s,rfl,by simp [PT.fits],by simp [PT.room],by simp [PT.inner]⟩
 | .l s0,p,s,d,hf,hp,ha,ho => absurd (List.nil_prefix) (ha [] ⟨s0,rfl⟩).2
 | .n a b,[],s,d,hf,hp,ha,ho => absurd rfl ho
 | .e,c :: p,s,0,hf,hp,ha,ho => by simp at hp
 | .e,true :: p,s,d+1,hf,hp,ha,ho => by
  obtain ⟨t',h1,h2,h3,h4⟩:=PT.ins_free .e p s d (by simp [PT.fits]) (by simpa using hp) (fun q ⟨s,hq⟩ => by cases q <;> simp [PT.obs] at hq) (by cases p <;> simp [PT.obs])
  exact ⟨.n .e t',by simp [PT.ins,h1],⟨by simp [PT.fits],h2⟩,by simp [PT.room] at h3 ⊢;omega,by simp [PT.inner]⟩
 | .e,false :: p,s,d+1,hf,hp,ha,ho => by
  obtain ⟨t',h1,h2,h3,h4⟩:=PT.ins_free .e p s d (by simp [PT.fits]) (by simpa using hp) (fun q ⟨s,hq⟩ => by cases q <;> simp [PT.obs] at hq) (by cases p <;> simp [PT.obs])
  exact ⟨.n t' .e,by simp [PT.ins,h1],⟨h2,by simp [PT.fits]⟩,by simp [PT.room] at h3 ⊢;omega,by simp [PT.inner]⟩
 | .n a b,c :: p,s,0,hf,hp,ha,ho => hf.elim
 | .n a b,true :: p,s,d+1,hf,hp,ha,ho => by
  obtain ⟨t',h1,h2,h3,h4⟩:=PT.ins_free b p s d hf.2 (by simpa using hp) (fun q hq => (ha (true :: q) hq).tail) ho
  exact ⟨.n a t',by simp [PT.ins,h1],⟨hf.1,h2⟩,by simp [PT.room] at h3 ⊢;omega,by simp [PT.inner];omega⟩
 | .n a b,false :: p,s,d+1,hf,hp,ha,ho => by
  obtain ⟨t',h1,h2,h3,h4⟩:=PT.ins_free a p s d hf.1 (by simpa using hp) (fun q hq => (ha (false :: q) hq).tail) ho
  exact ⟨.n t' b,by simp [PT.ins,h1],⟨h2,hf.2⟩,by simp [PT.room] at h3 ⊢;omega,by simp [PT.inner];omega⟩
def Closed (t:PT):Prop:=∀ p,t.obs p=.inner→∃ q,IsLeaf t (p++q)
theorem PT.closed_ins:∀ (t:PT) (p:Bits) (s:Nat) (t':PT),t.ins p s=some t'→Closed t→Closed t'
 | t,p,s,t',h,hc => by
  intro q hq
  by_cases h1:q <+: p
  ·obtain ⟨r,rfl⟩:=h1
   exact ⟨r,PT.ins_is h⟩
  ·by_cases h2:p <+: q
   ·obtain ⟨r,rfl⟩:=h2
    rw [PT.ins_obs_under t p s t' h r] at hq
    cases hq
   ·rw [PT.ins_obs_aside t p q s t' h ⟨h2,h1⟩] at hq
    obtain ⟨r,hr⟩:=hc q hq
    exact ⟨r,PT.ins_stays t _ p s t' h hr⟩
theorem insAll_free {cap:Nat}:∀ (ps:List (Bits × Nat)) (t:PT),(ps.map (·.1)).Pairwise Aside→(∀ p ∈ ps,p.1.length≤15∧∀ q,IsLeaf t q→Aside p.1 q)→t.fits 15→Closed t →
  (∀ (t':PT),t.inner≤t'.inner→True) →
  ∃ t',(∀ cap,2 * t'.inner+1≤cap→insAll cap t ps=some t')∧t'.fits 15∧t'.room 15=t.room 15+(ps.map fun p => 2 ^ (15 - p.1.length)).sum∧t.inner≤t'.inner ∧
   (∀ p ∈ ps,t'.obs p.1=.leaf p.2 0)∧(∀ q s,t.obs q=.leaf s 0→t'.obs q=.leaf s 0)
 | [],t,hp,ha,hf,hc,_ => ⟨t,fun _ _ => rfl,hf,by simp,Nat.le_refl _,by simp,fun _ _ h => h⟩
 | (p,s) :: r,t,hp,ha,hf,hc,_ => by
  rw [List.map_cons,List.pairwise_cons] at hp
  obtain ⟨hp15,hpa⟩:=ha (p,s) (by simp)
  have hno:t.obs p≠.inner:=fun ho => by
   obtain ⟨q,hq⟩:=hc p ho
   exact (hpa _ hq).1 (List.prefix_append p q)
  obtain ⟨t1,h1,h2,h3,h4⟩:=t.ins_free p s 15 hf hp15 hpa hno
  obtain ⟨t',g1,g2,g3,g4,g5,g6⟩:=insAll_free (cap:=cap) r t1 hp.2 (fun p' hp' => ⟨(ha p' (List.mem_cons_of_mem _ hp')).1,fun q hq => by
   rcases PT.ins_only t p q s t1 h1 hq with rfl | h5
   ·have:=hp.1 p'.1 (List.mem_map_of_mem hp')
    exact ⟨this.2,this.1⟩
   ·exact (ha p' (List.mem_cons_of_mem _ hp')).2 q h5⟩) h2 (PT.closed_ins t p s t1 h1 hc) (fun _ _ => trivial)
  refine ⟨t',fun cap' hcap => ?_,g2,by rw [g3,h3];simp only [List.map_cons,List.sum_cons];omega,by omega,fun p' hp' => ?_,fun q s' hq => ?_⟩
  ·simp only [insAll,insOne,h1]
   rw [if_pos (by omega)]
   exact g1 cap' hcap
  ·rcases List.mem_cons.1 hp' with rfl | hp'
   ·refine g6 _ _ ?_
    have:=PT.ins_obs_under t p s t1 h1 []
    simpa using this
   ·exact g5 p' hp'
  ·refine g6 q s' ?_
   rw [PT.ins_obs_aside t p q s t1 h1 (hpa q ⟨s',hq⟩)]
   exact hq
theorem codeList_room (ls:List Nat):∀ k i,k=ls.length - i→((codesFrom ls i).map fun p => 2 ^ (15 - p.1.length)).sum=kraft (ls.drop i)
 | 0,i,h => by rw [List.drop_eq_nil_of_le (by omega)];simp [codesFrom,← h,kraft]
 | k+1,i,h => by
  have hi:i<ls.length:=by omega
  have ih:=codeList_room ls k (i+1) (by omega)
  rw [codesFrom_succ hi,List.drop_eq_getElem_cons hi]
  have hg:ls.getD i 0=ls[i]:=by simp [hi]
  rw [hg]
  unfold kraft at ih ⊢
  rw [List.map_cons,List.sum_cons]
  by_cases h0:ls[i]=0
  ·simp [h0,ih,room]
  ·simp [h0,ih,room,codePath_length]
theorem PT.leaf_adv:∀ (t:PT) (u:T) (q:Bits) (s k:Nat),t.toT=some u→t.obs q=.leaf s k→∃ r,u.adv q=(.leaf s,r)∧r.length=k
 | .e,u,q,s,k,h,_ => by cases h
 | .l s0,u,q,s,k,h,ho => by
  simp only [PT.toT,Option.some.injEq] at h
  subst h
  simp only [PT.obs,Obs.leaf.injEq] at ho
  obtain ⟨rfl,rfl⟩:=ho
  exact ⟨q,rfl,rfl⟩
 | .n a b,u,[],s,k,h,ho => by simp [PT.obs] at ho
 | .n a b,u,true :: q,s,k,h,ho => by
  simp only [PT.toT] at h
  split at h
  ·rename_i x y hx hy
   simp only [Option.some.injEq] at h
   subst h
   exact PT.leaf_adv b y q s k hy ho
  ·cases h
 | .n a b,u,false :: q,s,k,h,ho => by
  simp only [PT.toT] at h
  split at h
  ·rename_i x y hx hy
   simp only [Option.some.injEq] at h
   subst h
   exact PT.leaf_adv a x q s k hx ho
  ·cases h
theorem buildT_kraft {ls:List Nat} (h2:2≤ls.countP (·≠0)) (h15:∀ x ∈ ls,x≤15) (hk:kraft ls=2 ^ 15) :
  ∃ u,buildT ls=some u∧∀ s,s<ls.length→ls.getD s 0≠0→∀ Y,u.walk (codePath (codeAt ls s) (ls.getD s 0)++Y)=some (s,Y):=by
 have hget:∀ s,s<ls.length→ls.getD s 0≤15:=fun s hs => by
  have:ls.getD s 0=ls[s]:=by simp [hs]
  rw [this];exact h15 _ (List.getElem_mem hs)
 have hpw:((codeList ls).map (·.1)).Pairwise Aside:=by
  unfold codeList
  rw [List.pairwise_map,List.pairwise_filterMap]
  refine (List.pairwise_lt_range (n:=ls.length)).imp_of_mem ?_
  intro i j hi hj hij x hx y hy
  rw [List.mem_range] at hi hj
  unfold symOf at hx hy
  split at hx
  ·cases hx
  ·split at hy
   ·cases hy
   ·rename_i h1 h2
    simp only [Option.some.injEq] at hx hy
    subst hx hy
    exact paths_aside hi hj (by omega) h1 h2 (hget i hi) (hget j hj) (by omega)
 have hmem:∀ p ∈ codeList ls,∃ s,s<ls.length∧ls.getD s 0≠0∧p=(codePath (codeAt ls s) (ls.getD s 0),s):=by
  intro p hp
  unfold codeList at hp
  rw [List.mem_filterMap] at hp
  obtain ⟨i,hi,he⟩:=hp
  unfold symOf at he
  split at he
  ·cases he
  ·rename_i h0
   simp only [Option.some.injEq] at he
   exact ⟨i,List.mem_range.1 hi,h0,he.symm⟩
 obtain ⟨t,g1,g2,g3,g4,g5,g6⟩:=insAll_free (cap:=0) (codeList ls) .e hpw (fun p hp => by
  obtain ⟨s,hs,h0,rfl⟩:=hmem p hp
  refine ⟨by rw [codePath_length];exact hget s hs,fun q ⟨s',hq⟩ => by cases q <;> simp [PT.obs] at hq⟩) trivial (fun p hp => by cases p <;> simp [PT.obs] at hp) (fun _ _ => trivial)
 have hroom:=codeList_room ls _ 0 rfl
 rw [codesFrom_zero,List.drop_zero,hk] at hroom
 rw [hroom] at g3
 have hem:=PT.room_full 15 t g2 (by simpa [PT.room] using g3)
 obtain ⟨u,hu⟩:=t.full hem
 have hcap:2 * t.inner+1≤2 * ls.countP (·≠0) - 1:=by
  have hcnt:=t.count
  have hall:=g1 (2 * t.inner+1) (Nat.le_refl _)
  have hnd:((codeList ls).map (·.1)).Nodup:=hpw.imp fun {a b} (h:Aside a b) => fun (e:a=b) => h.1 (e ▸ List.prefix_rfl)
  have hlv:=insAll_leaves (codeList ls) .e t hall hnd (fun p _ ⟨s,hs⟩ => by cases p <;> simp [PT.obs] at hs)
  rw [codeList_length] at hlv
  simp only [PT.leaves] at hlv
  omega
 refine ⟨u,?_,fun s hs h0 Y => ?_⟩
 ·unfold buildT
  rw [if_neg (by omega),if_neg (by omega),if_neg (by
   intro h
   rw [List.any_eq_true] at h
   obtain ⟨x,hx,hx2⟩:=h
   have:=h15 x hx
   simp only [decide_eq_true_eq] at hx2
   omega),g1 _ hcap]
  exact hu
 ·have hm:(codePath (codeAt ls s) (ls.getD s 0),s) ∈ codeList ls:=List.mem_filterMap.2 ⟨s,List.mem_range.2 hs,by unfold symOf;rw [if_neg h0]⟩
  have ho:=g5 _ hm
  obtain ⟨r,hr1,hr2⟩:=PT.leaf_adv t u _ s 0 hu ho
  have hr:r=[]:=List.length_eq_zero_iff.1 hr2
  subst hr
  rw [T.walk_append,hr1]
  rfl
theorem buildT_one {ls:List Nat} (h1:ls.countP (·≠0)=1) {s:Nat} (hs:s<ls.length) (h0:ls.getD s 0≠0):buildT ls=some (.leaf s):=by
 unfold buildT
 rw [if_neg (by omega),if_pos h1]
 congr 2
 have hone:∀ j,j<ls.length→ls.getD j 0≠0→j=s:=by
  intro j hj hj0
  refine Classical.byContradiction fun hne => ?_
  have hg:∀ i (hi:i<ls.length),ls.getD i 0=ls[i]:=fun i hi => by simp [hi]
  have key:∀ {a b:Nat},a<b→b<ls.length→ls.getD a 0≠0→ls.getD b 0≠0→2≤ls.countP (·≠0):=by
   intro a b hab hb ha0 hb0
   have h3:ls=ls.take b++ls.drop b:=(List.take_append_drop b ls).symm
   rw [h3,List.countP_append]
   have h4:0<(ls.take b).countP (·≠0):=List.countP_pos_iff.2 ⟨ls[a]'(by omega),by
    rw [List.mem_take_iff_getElem]
    exact ⟨a,by omega,rfl⟩,by rw [← hg a (by omega)];simpa using ha0⟩
   have h5:0<(ls.drop b).countP (·≠0):=List.countP_pos_iff.2 ⟨ls[b],by
    rw [List.drop_eq_getElem_cons hb];exact List.mem_cons_self,by rw [← hg b hb];simpa using hb0⟩
   omega
  rcases Nat.lt_or_gt_of_ne hne with h | h
  ·have:=key h hs hj0 h0;omega
  ·have:=key h hj h0 hj0;omega
 have key:∀ n,n≤ls.length→(List.range n).foldl (fun a i => if ls.getD i 0=0 then a else i) 0=if s<n then s else 0:=by
  intro n
  induction n with
  | zero => intro _;rfl
  | succ n ih =>
   intro hn
   rw [List.range_succ,List.foldl_append,List.foldl_cons,List.foldl_nil,ih (by omega)]
   by_cases hn0:ls.getD n 0=0
   ·rw [if_pos hn0]
    by_cases h:s<n
    ·rw [if_pos h,if_pos (by omega)]
    ·rw [if_neg h,if_neg (by
      intro h2
      have:s=n:=by omega
      exact h0 (this ▸ hn0))]
   ·rw [if_neg hn0]
    have:=hone n (by omega) hn0
    subst this
    rw [if_pos (by omega)]
 unfold lastSym
 rw [key _ (Nat.le_refl _),if_pos hs]
end Go.Proofs.YtinkhckpckfajaaDoor
