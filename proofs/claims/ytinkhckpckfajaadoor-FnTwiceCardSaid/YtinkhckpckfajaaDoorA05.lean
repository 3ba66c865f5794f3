/-
  A picture is written and read: part 5 of 13 (Pix, Head, Scan, Trans).
-/
import Derived.Test.YtinkhckpckfajaaDoorA04
set_option linter.unusedVariables false
set_option linter.unusedSimpArgs false
set_option maxRecDepth 100000
set_option maxHeartbeats 8000000
namespace Go.Proofs.YtinkhckpckfajaaDoor
open Go
def cacheR (cc be:Nat) (f:Nat→Nat):Res:=if cc=0 then ⟨[],fun _ => True⟩ else blkR be (rowK .u32 f (2 ^ cc)) 36
theorem cacheR_local (cc be:Nat) (f:Nat→Nat):(cacheR cc be f).Local∧(cacheR cc be f).In:=by
 unfold cacheR
 split
 ·exact ⟨fun w w' _ h => h,fun w _ b hb => by simp at hb⟩
 ·exact ⟨blkR_local _ _ _,blkR_in _ _ _⟩
theorem cacheR_pos {cc be:Nat} {f:Nat→Nat} (h:0<cc):cacheR cc be f=blkR be (rowK .u32 f (2 ^ cc)) 36:=if_neg (by omega)
theorem cacheR_foot (cc be:Nat) (f:Nat→Nat):∀ b ∈ (cacheR cc be f).foot,b=be:=by
 unfold cacheR
 split
 ·simp
 ·simp [blkR]
def CV (cc be:Nat) (cv:Value):Prop:=(cc=0∧cv=.slice none 0 0)∨(0<cc∧cv=.slice (some ⟨be,0,none⟩) (2 ^ cc) (2 ^ cc))
def maskOf (hb:Nat):Nat:=if hb=0 then 0 else 2 ^ hb - 1
structure PSl (σ:Src) (wd cc bg m hb bp n cap:Nat) (cv hv:Value) (P C ux uy gi:Nat) (lk:Bool) (ρ:Env):Prop where
 s0:ρ 0=.pointer (some ⟨σ.d,0,none⟩)
 s1:ρ 1=.int .i32 (wd:Nat)
 s13:ρ 13=.int .u32 (if cc=0 then 0 else 32 - cc:Nat)
 s14:ρ 14=cv
 s17:ρ 17=.slice (some ⟨bg,0,none⟩) m m
 s18:ρ 18=hv
 s19:ρ 19=.int .u32 (hb:Nat)
 s20:ρ 20=.int .i32 (maskOf hb:Nat)
 s21:ρ 21=.int .i32 (if hb=0 then 0 else tilesN wd hb:Nat)
 s22:ρ 22=.slice (some ⟨bp,0,none⟩) (4 * n) cap
 s23:ρ 23=.int .i64 (P:Nat)
 s24:ρ 24=.int .i64 (C:Nat)
 s25:ρ 25=.int .i32 (ux:Nat)
 s26:ρ 26=.int .i32 (uy:Nat)
 s27:ρ 27=.pointer (some ⟨bg,0+gi * 645,none⟩)
 s28:ρ 28=.bool lk
theorem pix_any (top:Bool) (OK:top=true→PixOK false):PixOK top:=by
 intro σ R W wd ht mc D ro hw hw2 hh hh2 hmc
 have hS:=ro.okS
 have H:St W [σ.d,σ.rd] [decR σ R] W:=St.one D (decR_local σ R) (by simp [decR])
 have hdW:∀ s ∈ [σ.d,σ.rd],s<W.heap.size:=fun s hs => (decR_local σ R).2 W D s hs
 have hdec:decPix top wd ht R=pb ccBits (fun cc => pb (decGroups (mtOf top wd ht) cc) fun q => pixLoop wd (wd * ht) cc (grpOf wd q) (wd * ht) []) R:=rfl
 obtain ⟨n,hn⟩:∃ n,n=wd * ht:=⟨_,rfl⟩
 rw [← hn] at hdec ⊢
 have hn2:n≤268435456:=by rw [hn];exact Nat.mul_le_mul (show _≤16384 by omega) (show _≤16384 by omega)
 have hn1:1≤n:=by rw [hn];exact Nat.mul_le_mul hw hh
 have h4w:4 * wd * ht=4 * n:=by rw [hn,Nat.mul_assoc]
 refine enter (m:=435) Tryd.func40 O Tryd.ntmps40 O (Cy (Lo O (Y.asg O) (Lo O (Y.asg O) (Lt (Cy (Lo O (AI O) (Lo O (AI O) (Lo O (Y.asg O) (Lt ?_)))))))))
 rw [show ccBits=pb (rd 1) (fun u => if u=0 then ret 0 else pb (rd 4) fun c => if c<1∨11<c then no else ret c) from rfl,pb_assoc] at hdec
 by_cases hR_:1≤R.length
 case neg =>
  rw [pb_no (rd_no (by omega))] at hdec
  refine Cy (Lo O (YP O) (VL.readNoS (k:=1) H 0 O ro hS (by omega) (by omega) O O O ?_))
  intro w a H
  refine Lo O (Y.movT O) (Lo O (Y.ext O O) (Lo O (Y.ext O O) (Lo O (AI O) (Lo O (Y.asg O) (Lt (Cs (Cy (Lo O (Y.mov O) (Lo O (Y.neqNilT ifc_47 O O) (Lt ?_))))))))))
  refine CB O (fun _ => ?_) (fun h => nomatch h)
  refine Cy (Lo O (Y.mov O) (Lo O (Y.asg O) (Lo O (Y.asg O) (Lt (Ct (thn_r ?_))))))
  have hF:=H.frm
  exact Done.ret2 O O O (.inr ⟨hdec,⟨_,rfl⟩,hF⟩)
 case pos =>
 rw [pb_ok (rd_ok hR_)] at hdec
 have hu:val (R.take (1))<2 ^ (1):=val_take_lt R (1)
 refine Cy (Lo O (YP O) (VL.readOk (k:=1) H 0 O ro hS (by omega) hR_ O O O ?_))
 intro w H
 simp only [List.set] at H
 refine Lo O (Y.movT O) (Lo O (Y.ext O O) (Lo O (Y.ext O O) (Lo O (AI O) (Lo O (Y.asg O) (Lt ?_)))))
 generalize val (R.take (1))=u at *
 generalize R.drop (1)=R1 at *
 clear hR_
 refine Cs (Cy (Lo O (Y.mov O) (Lo O (Y.neqNilF ifc_47 O O) (Lt (CB O (fun h => nomatch h) (fun _ => (Ck (tn (Cs (Cy (Lo O (YI O) (Lo O (Y.neq O O) (Lt ?_)))))))))))))
 refine VC.join (fun ρ w' => ∃ cc be cv R2,decPix top wd ht R=pb (decGroups (mtOf top wd ht) cc) (fun q => pixLoop wd n cc (grpOf wd q) n []) R2∧cc≤11∧CV cc be cv∧(cc=0∨W.heap.size≤be) ∧
  ρ 0=.pointer (some ⟨σ.d,0,none⟩)∧ρ 1=.int .i32 (wd:Nat)∧ρ 2=.int .i32 (ht:Nat)∧ρ 3=.int .i32 (mc:Nat)∧ρ 4=.bool top∧ρ 12=.int .u32 (cc:Nat)∧ρ 13=.int .u32 (if cc=0 then 0 else 32 - cc:Nat)∧ρ 14=cv ∧
  St W [σ.d,σ.rd] [cacheR cc be (fun _ => 0),decR σ R2] w') ?_ ?_
 case refine_1 =>
  by_cases hu:u=0
  case pos =>
   rw [if_pos hu,pb_ok (show ret 0 R1=some (0,R1) from rfl)] at hdec
   refine CF O (by omega) (Ck (tn ?_))
   refine ⟨0,0,_,R1,hdec,by omega,.inl ⟨rfl,rfl⟩,.inl rfl,rfl,rfl,rfl,rfl,rfl,rfl,rfl,rfl,?_⟩
   exact H.cons (r:=cacheR 0 0 (fun _ => 0)) trivial (cacheR_local _ _ _) (fun b hb => by simp [cacheR] at hb) (fun s _ b hb => by simp [cacheR] at hb)
  case neg =>
  rw [if_neg hu,pb_assoc] at hdec
  refine CT O (by omega) ?_
  by_cases hR_:4≤R1.length
  case neg =>
   rw [pb_no (rd_no (by omega))] at hdec
   refine Cy (Lo O (YP O) (VL.readNoS (k:=4) H 0 O ro hS (by omega) (by omega) O O O ?_))
   intro w a H
   refine Lo O (Y.movT O) (Lo O (Y.ext O O) (Lo O (Y.ext O O) (Lo O (AI O) (Lo O (Y.asg O) (Lt (Cs (Cy (Lo O (Y.mov O) (Lo O (Y.neqNilT ifc_47 O O) (Lt ?_))))))))))
   refine CB O (fun _ => ?_) (fun h => nomatch h)
   refine Cy (Lo O (Y.mov O) (Lo O (Y.asg O) (Lo O (Y.asg O) (Lt (Ct (thn_r (thn_r ?_)))))))
   have hF:=H.frm
   exact Done.ret2 O O O (.inr ⟨hdec,⟨_,rfl⟩,hF⟩)
  case pos =>
  rw [pb_ok (rd_ok hR_)] at hdec
  have hc:val (R1.take (4))<2 ^ (4):=val_take_lt R1 (4)
  refine Cy (Lo O (YP O) (VL.readOk (k:=4) H 0 O ro hS (by omega) hR_ O O O ?_))
  intro w H
  simp only [List.set] at H
  refine Lo O (Y.movT O) (Lo O (Y.ext O O) (Lo O (Y.ext O O) (Lo O (AI O) (Lo O (Y.asg O) (Lt ?_)))))
  generalize val (R1.take (4))=c at *
  generalize R1.drop (4)=R2 at *
  clear hR_
  refine Cs (Cy (Lo O (Y.mov O) (Lo O (Y.neqNilF ifc_47 O O) (Lt (CB O (fun h => nomatch h) (fun _ => (Ck (tn (Cs (Cs ?_))))))))))
  by_cases hbad:c<1∨11<c
  case pos =>
   rw [if_pos hbad,pb_no (show no R2=none from rfl)] at hdec
   refine VC.join (fun ρ w' => ρ 69=.bool true∧w=w') ?_ ?_
   case refine_1 =>
    by_cases h1:c<1
    case pos =>
     refine Cr (Lo O (YI O) (Lo O (Y.lssD O O (decide_eq_true (by omega))) (Lo O (Y.movB O) (VL.skipG O O O O O (VL.skipG O O O O O (Lo O (Y.pick O O) (Lt ?_)))))))
     exact ⟨rfl,rfl⟩
    case neg =>
     refine Cr (Lo O (YI O) (Lo O (Y.lssD O O (decide_eq_false (by omega))) (Lo O (Y.movB O) (LG O O O O (YI O) (LG O O O O (Y.lssD O O (decide_eq_true (by omega))) (Lo O (Y.pick O O) (Lt ?_)))))))
     exact ⟨rfl,rfl⟩
   case refine_2 =>
   rintro ρ w' ⟨h69,rfl⟩
   refine CB h69 (fun _ => ?_) (fun h => nomatch h)
   refine Cy (VL.errNew H O O ?_)
   intro w a H
   refine Lo O (Y.asg O) (Lo O (Y.asg O) (Lt (Ct (thn_r (thn_r ?_)))))
   exact Done.ret2 O O O (.inr ⟨hdec,⟨_,rfl⟩,H.frm⟩)
  case neg =>
  rw [if_neg hbad,pb_ok (show ret c R2=some (c,R2) from rfl)] at hdec
  refine Cr (Lo O (YI O) (Lo O (Y.lssD O O (decide_eq_false (by omega))) (Lo O (Y.movB O) (LG O O O O (YI O) (LG O O O O (Y.lssD O O (decide_eq_false (by omega))) (Lo O (Y.pick O O) (Lt (CB O (fun h => nomatch h) (fun _ => (Ck (tn ?_)))))))))))
  have hp:2 ^ c≤2 ^ 11:=Nat.pow_le_pow_right (by omega) (by omega)
  refine Cy (Lo O (YI O) (Lo O (Y.sub O O (su32 (a:=32) (by omega))) (Lo O (AI O) (Lt (Cr (Lo O (YI O) (Lo O (Y.shl (r:=((2 ^ c:Nat):Int)) O O (by omega) (by rw [← Nat.one_mul (2 ^ c)];exact l64 (a:=1) (by omega))) (VL.make H mk_22 (2 ^ c) (2 ^ c) O O O O (Nat.le_refl _) (by omega) (by omega) O ?_))))))))
  intro w be hn1 hb1 H
  refine Lo O (AS O) (Lt ?_)
  rw [mkCells_one,rowK_zero,← cacheR_pos (show 0<c by omega)] at H
  exact ⟨c,be,_,R2,hdec,by omega,.inr ⟨by omega,rfl⟩,.inr hb1,rfl,rfl,rfl,rfl,rfl,rfl,by rw [if_neg (by omega)];rfl,rfl,H⟩
 case refine_2 =>
 clear H hdec
 rintro ρ w1 ⟨cc,be,cv,R2,hdec,hcc,hCV,hbe,h0,h1,h2,h3,h4,h12,h13,h14,H⟩
 have hG:=groups_any top OK σ R2 w1 wd ht cc (H.get (i:=1) rfl) (ro.frm H hS) hw hw2 hh hh2 hcc
 have hbew:cc=0∨be<w1.heap.size:=by
  rcases Nat.eq_zero_or_pos cc with h | h
  ·exact .inl h
  ·right
   rw [cacheR_pos h] at H
   exact (H.blk (i:=0) O).lt
 have hdW1:∀ s ∈ [σ.d,σ.rd],s<w1.heap.size:=fun s hs => (decR_local σ R2).2 w1 (H.get (i:=1) rfl) s hs
 refine Cy (Lo O (YP (by assumption)) (Lo O (YI (by assumption)) (Lo O (YI (by assumption)) (Lo O (Y.movB (by assumption)) (Lo O (YI (by assumption)) (VL.call O ent_56 hG O ?_))))))
 intro e w2 hP
 clear hG
 obtain ⟨a1,m1,c1,hv,v3,v4,rfl⟩:∃ a1 m1 c1 hv v3 v4,e=.returned (.tuple #[.slice a1 m1 c1,hv,.int .u32 v3,v4]):=by rcases hP with ⟨_,_,_,_,_,_,_,_,rfl,_⟩ | ⟨_,⟨_,rfl⟩,_⟩ <;> exact ⟨_,_,_,_,_,_,rfl⟩
 refine ⟨_,rfl,?_⟩
 refine Lo O (Y.movT O) (Lo O (Y.ext O O) (Lo O (Y.ext O O) (Lo O (Y.ext O O) (Lo O (Y.ext O O) (Lo O (AS O) (Lo O (Y.asg O) (Lo O (AI O) (Lo O (Y.asg O) (Lt ?_)))))))))
 rcases hP with ⟨hb,hpx,ts,R3,bg,cs,hv0,hr,he,hd2,hnew,hbg,hT,hHP,hf⟩ | ⟨hr,⟨a,he⟩,hf⟩
 case inr =>
  simp only [Ending.returned.injEq,Value.tuple.injEq,Array.mk.injEq,List.cons.injEq,Value.slice.injEq,Value.int.injEq,and_true,true_and] at he
  obtain ⟨⟨rfl,rfl,rfl⟩,rfl,rfl,rfl⟩:=he
  rw [pb_no hr] at hdec
  refine Cs (Cy (Lo O (Y.mov O) (Lo O (Y.neqNilT ifc_47 O O) (Lt ?_))))
  refine CB O (fun _ => ?_) (fun h => nomatch h)
  refine Cy (Lo O (Y.mov O) (Lo O (Y.asg O) (Lo O (Y.asg O) (Lt (Ct (thn_r ?_))))))
  exact Done.ret2 O O O (.inr ⟨hdec,⟨_,rfl⟩,H.frm.then hf (by simp)⟩)
 case inl =>
 simp only [Ending.returned.injEq,Value.tuple.injEq,Array.mk.injEq,List.cons.injEq,Value.slice.injEq,Value.int.injEq,and_true,true_and] at he
 obtain ⟨⟨rfl,rfl,rfl⟩,rfl,rfl,rfl⟩:=he
 rw [pb_ok hr] at hdec
 have hbgS:bg ∉ [σ.d,σ.rd,be]∨cc=0:=by
  rcases hbew with h | h
  ·exact .inr h
  ·left
   have h1:=hdW1 σ.d (by simp)
   have h2:=hdW1 σ.rd (by simp)
   simp only [List.mem_cons,List.not_mem_nil,or_false,not_or]
   omega
 obtain ⟨be',hbe',hbe2⟩:∃ be',(∀ f,cacheR cc be f=cacheR cc be' f)∧CV cc be' cv∧be'<w1.heap.size∧nG≤be'∧be'≠σ.sb∧(be' ∈ [σ.d,σ.rd]∨W.heap.size≤be'):=by
  rcases Nat.eq_zero_or_pos cc with h | h
  ·subst h
   refine ⟨σ.d,fun f => by simp [cacheR],?_,hdW1 σ.d (by simp),ro.ne.2.1,Ne.symm ro.ne.2.2.2.1,.inl (by simp)⟩
   rcases hCV with ⟨_,h⟩ | ⟨h,_⟩
   ·exact .inl ⟨rfl,h⟩
   ·omega
  ·have h1:=ro.sbl
   have h2:=ro.gl.high
   exact ⟨be,fun f => rfl,hCV,by omega,by omega,by omega,.inr (by omega)⟩
 clear hbgS hbew hCV hbe
 obtain ⟨hCV,hbew,hbeG,hbeS,hbeW⟩:=hbe2
 rw [hbe'] at H
 clear hbe'
 have hS3:OkS σ [σ.d,σ.rd,be']:=by
  refine ⟨fun b hb => ?_,?_⟩
  ·simp only [List.mem_cons,List.not_mem_nil,or_false] at hb
   rcases hb with rfl | rfl | rfl
   ·exact ro.ne.2.1
   ·exact ro.ne.2.2.1
   ·exact hbeG
  ·simp only [List.mem_cons,List.not_mem_nil,or_false,not_or]
   exact ⟨ro.ne.2.2.2.1,ro.ne.2.2.2.2,Ne.symm hbeS⟩
 have H1:St W [σ.d,σ.rd] [cacheR cc be' (fun _ => 0),decR σ R3] w2:=H.turn (i:=1) (r':=decR σ R3) rfl hf hd2 (decR_local σ R3) (fun b hb => .inl hb)
 have hF1:=H1.frm
 have hsz:=H.high
 have H:=H1.base [σ.d,σ.rd,be'] (by
  intro r hr b hb
  simp only [List.mem_cons,List.not_mem_nil,or_false] at hr
  rcases hr with rfl | rfl
  ·rw [cacheR_foot cc be' _ b hb];simp
  ·simp only [decR,List.mem_cons,List.not_mem_nil,or_false] at hb
   rcases hb with rfl | rfl <;> simp)
 have ro3:RO σ w2:=ro.keep hF1 hS
 have hlow:∀ s ∈ [σ.d,σ.rd,be'],s<bg+1:=by
  have h1:=hdW1 σ.d (by simp)
  have h2:=hdW1 σ.rd (by simp)
  simp
  omega
 have hbgn:bg ∉ [σ.d,σ.rd,be']:=by
  have h1:=hdW1 σ.d (by simp)
  have h2:=hdW1 σ.rd (by simp)
  simp only [List.mem_cons,List.not_mem_nil,or_false,not_or]
  omega
 have hHT:∀ k,k<5 * (maxGroup hpx+1)→HTree [σ.d,σ.rd,be'] w2 bg (129 * k) (ts.getD k (.leaf 0)):=fun k hk => (hT k hk).ht hbg hbgn hlow
 have hsym:∀ k,k<5 * (maxGroup hpx+1)→(ts.getD k (.leaf 0)).symLt (alph cc (k % 5)):=by
  obtain ⟨mq,R4,_,hr2⟩:=pb_some hr
  obtain ⟨ts',R5,hr3,hr4⟩:=pb_some hr2
  have:=(ret_some hr4).1
  simp only [Prod.mk.injEq] at this
  obtain ⟨rfl,rfl⟩:=this
  intro k hk
  have:=(decTrees_good _ 0 hr3).2 k hk
  rwa [Nat.zero_add] at this
 have hHP2:HPix w1.heap.size wd ht w2 hb hpx hv:=hHP
 have hb9:hb=0∨(2≤hb∧hb≤9):=by rcases hHP with ⟨h,_⟩ | ⟨h1,h2,_⟩;exact .inl h;exact .inr ⟨h1,h2⟩
 clear hHP hr hT H1 hd2 hbg
 refine Cs (Cy (Lo O (Y.mov O) (Lo O (Y.neqNilF ifc_47 O O) (Lt (CB O (fun h => nomatch h) (fun _ => (Ck (tn (Cy (Lo O (AI O) (Lo O (AI O) (Lt (Cs (Cy (Lo O (YI O) (Lo O (Y.neq O O) (Ln ?_)))))))))))))))))
 refine tn ?_
 refine VC.join (fun ρ w' => ρ 0=.pointer (some ⟨σ.d,0,none⟩)∧ρ 1=.int .i32 (wd:Nat)∧ρ 2=.int .i32 (ht:Nat)∧ρ 3=.int .i32 (mc:Nat)∧ρ 13=.int .u32 (if cc=0 then 0 else 32 - cc:Nat)∧ρ 14=cv∧ρ 17=.slice (some ⟨bg,0,none⟩) (maxGroup hpx+1) (maxGroup hpx+1)∧ρ 18=hv∧ρ 19=.int .u32 (hb:Nat) ∧
  ρ 20=.int .i32 (maskOf hb:Nat)∧ρ 21=.int .i32 (if hb=0 then 0 else tilesN wd hb:Nat)∧w2.heap=w'.heap∧w2=w') ?_ ?_
 case refine_1 =>
  by_cases hb0:hb=0
  case pos =>
   subst hb0
   refine CF O (by omega) (Ck (tn ?_))
   exact ⟨h0,h1,h2,h3,h13,h14,rfl,rfl,rfl,rfl,rfl,rfl,rfl⟩
  case neg =>
   have hp:2 ^ hb≤2 ^ 9:=Nat.pow_le_pow_right (by omega) (by omega)
   have hp1:=Nat.two_pow_pos hb
   have hmk:maskOf hb=2 ^ hb - 1:=if_neg hb0
   refine CT O (by omega) (Cr (Lo O (YI O) (Lo O (Y.shl (r:=((2 ^ hb:Nat):Int)) O O (by omega) (by rw [← Nat.one_mul (2 ^ hb)];exact l32 (a:=1) (by omega))) (Lo O (Y.sub O O (s32 (b:=1) (by omega))) (Lo O (YI (by assumption)) (Lo O (YI O) (VL.callP O ent_55 (nTiles_any _ wd hb hw (by omega) (by omega)) O (Lo O (AI O) (Lo O (AI O) (Lt ?_))))))))))
   exact ⟨h0,h1,h2,h3,h13,h14,rfl,rfl,rfl,by rw [hmk];rfl,by rw [if_neg hb0];rfl,rfl,rfl⟩
 case refine_2 =>
 clear h0 h1 h2 h3 h4 h12 h13 h14 ρ
 rintro ρ w' ⟨h0,h1,h2,h3,h13,h14,h17,h18,h19,h20,h21,_,rfl⟩
 refine Cs (Cy (Lo O (YI (by assumption)) (Lo O (YI (by assumption)) (Lo O (Y.mul O O (m32 (a:=4) (by omega))) (Lo O (YI (by assumption)) (Lo O (Y.mul (r:=((4 * n:Nat):Int)) O O (by rw [← h4w];exact m32 (by omega))) (Lo O (Y.lss O O) (Lt ?_))))))))
 refine VC.join (fun ρ w' => ρ 0=.pointer (some ⟨σ.d,0,none⟩)∧ρ 1=.int .i32 (wd:Nat)∧ρ 2=.int .i32 (ht:Nat)∧ρ 3=.int .i32 (max mc (4 * n):Nat)∧ρ 13=.int .u32 (if cc=0 then 0 else 32 - cc:Nat)∧ρ 14=cv∧ρ 17=.slice (some ⟨bg,0,none⟩) (maxGroup hpx+1) (maxGroup hpx+1)∧ρ 18=hv∧ρ 19=.int .u32 (hb:Nat) ∧
  ρ 20=.int .i32 (maskOf hb:Nat)∧ρ 21=.int .i32 (if hb=0 then 0 else tilesN wd hb:Nat)∧w2.heap=w'.heap∧w2=w') ?_ ?_
 case refine_1 =>
  by_cases hm:mc<4 * n
  case pos =>
   refine CT O (by omega) (Cr (Lo O (YI (by assumption)) (Lo O (Y.mul O O (m32 (a:=4) (by omega))) (Lo O (YI (by assumption)) (Lo O (Y.mul (r:=((4 * n:Nat):Int)) O O (by rw [← h4w];exact m32 (by omega))) (Lo O (AI O) (Lt ?_)))))))
   exact ⟨h0,h1,h2,by rw [Nat.max_eq_right (by omega)];rfl,h13,h14,h17,h18,h19,h20,h21,rfl,rfl⟩
  case neg =>
   refine CF O (by omega) (Ck (tn ?_))
   exact ⟨h0,h1,h2,by rw [Nat.max_eq_left (by omega)];exact h3,h13,h14,h17,h18,h19,h20,h21,rfl,rfl⟩
 case refine_2 =>
 clear h0 h1 h2 h3 h13 h14 h17 h18 h19 h20 h21 ρ
 rintro ρ w' ⟨h0,h1,h2,h3,h13,h14,h17,h18,h19,h20,h21,_,rfl⟩
 obtain ⟨cap,hcap⟩:∃ cap,cap=max mc (4 * n):=⟨_,rfl⟩
 have hcap2:4 * n≤cap∧cap≤1073742848:=by omega
 rw [← hcap] at h3
 refine Cy (Lo O (YI (by assumption)) (Lo O (Y.mul O O (m32 (a:=4) (by omega))) (Lo O (YI (by assumption)) (Lo O (Y.mul (r:=((4 * n:Nat):Int)) O O (by rw [← h4w];exact m32 (by omega))) (Lo O (YI (by assumption)) (VL.make H mk_24 (4 * n) cap O O O O (by omega) (by omega) (by omega) O ?_))))))
 intro w bp hnp hbp H
 refine Lo O (AS O) (Lt ?_)
 rw [mkCells_one,rowK_zero] at H
 refine Cy (Lo O (AI O) (Lo O (AI O) (Lt (Cy (Lo O (AI O) (Lo O (AI O) (Lt (Cy (Lo O (YS (by assumption)) (Lo O (Y.ixS 0 sl_135 O O O (by omega)) (Lo O (YI (by assumption)) (Lo O (Y.neq O O) (Lo O (Y.asgP O) (Lo O (Y.asgB O) ?_))))))))))))))
 refine Lt ?_
 have hFF:∀ w',Frm [σ.d,σ.rd,be'] w2 w'→Frm [σ.d,σ.rd] W w':=fun w' h => hF1.then h (fun x hx => by
  simp only [List.mem_cons,List.not_mem_nil,or_false] at hx
  rcases hx with rfl | rfl | rfl
  ·exact .inl (by simp)
  ·exact .inl (by simp)
  ·exact hbeW)
 have hdS:∀ z ∈ [σ.d,σ.rd],z ∈ [σ.d,σ.rd,be']:=by simp
 have hmask:maskOf hb=0 ↔ hb=0:=by
  unfold maskOf
  split
  ·simp [*]
  ·rename_i h
   have:2 ^ 2≤2 ^ hb:=Nat.pow_le_pow_right (by omega) (by omega)
   omega
 have hbpW:W.heap.size≤bp:=by have:=H.high;have:=hF1.size;omega
 have hzero:rowK .u8 (fun _ => 0) cap=rowK .u8 (byteAt []) cap:=rowK_congr fun j _ => byteAt_out (by simp)
 rw [hzero] at H
 refine Cs (Cb ?_)
 refine Cl (fun mm ρ w' => ∃ (k:Nat) (acc:List Nat) (P C ux uy cp gi:Nat) (lk:Bool) (Ri:Bits),mm=n - acc.length∧n - acc.length≤k∧acc.length≤n∧P=4 * acc.length∧C=4 * cp∧cp≤acc.length∧uy * wd+ux=acc.length∧ux<wd∧gi≤maxGroup hpx ∧
  (hb=0→lk=false)∧(lk=false→acc.length<n→gi=groupAt hb (tilesN wd hb) hpx wd acc.length)∧(∀ p ∈ acc,p<2 ^ 32) ∧
  decPix top wd ht R=pixLoop wd n cc (grpOf wd ((hb,hpx),ts)) k acc Ri∧PSl σ wd cc bg (maxGroup hpx+1) hb bp n cap cv hv P C ux uy gi lk ρ ∧
  St w2 [σ.d,σ.rd,be'] [blkR bp (rowK .u8 (byteAt acc) cap) 5,cacheR cc be' (cached cc (acc.take cp)),decR σ Ri] w') n
  ⟨n,[],0,0,0,0,0,0,decide ((maskOf hb:Int)≠0),R3,rfl,by simp,by simp,rfl,rfl,by simp,by simp,by omega,by omega,fun h => by
   have:=hmask.2 h
   simp [this],fun h _ => by
   have h0:hb=0:=hmask.1 (by simpa using h)
   unfold groupAt
   rw [if_pos h0],by simp,hdec,by constructor <;> first | exact rfl | assumption,H⟩ ?_
 clear H hdec h0 h1 h2 h3 h13 h14 h17 h18 h19 h20 h21 hzero
 clear ρ
 rintro mm ρ w3 ⟨k,acc,P,C,ux,uy,cp,gi,lk,Ri,rfl,hk,hal,hP,hC,hcp,hXY,hX,hgi,hlk0,hlk,hp32,hdec,⟨s0,s1,s13,s14,s17,s18,s19,s20,s21,s22,s23,s24,s25,s26,s27,s28⟩,H⟩
 refine Cs (Cy (Lo O (YI (by assumption)) (Lo O (YS (by assumption)) (Lo O (Y.len sl_24 O) (Lo O (Y.lss O O) (Lt ?_))))))
 by_cases hlt:acc.length<n
 case neg =>
  obtain hln:acc.length=n:=by omega
  have hres:pixLoop wd n cc (grpOf wd ((hb,hpx),ts)) k acc Ri=some (acc,Ri):=by
   cases k with
   | zero => rfl
   | succ k => rw [pixLoop,if_pos (by omega)];rfl
  rw [hres] at hdec
  refine CF O (by omega) (Cx (thn_x (thn_x (blk_x (tn (Cy (Lo O (YS (by assumption)) (Lo O (AS O) (Lo O (Y.asg O) (Lt (Ct ?_)))))))))))
  exact Done.ret2 O O O (.inl ⟨acc,Ri,bp,hdec,by rw [← hcap];rfl,hln,hp32,H.get (i:=2) rfl,hbpW,by rw [← hcap];exact H.blk (i:=0) rfl,hFF _ H.frm⟩)
 case pos =>
 obtain ⟨k,rfl⟩:∃ k',k=k'+1:=⟨k - 1,by omega⟩
 rw [pixLoop,if_neg (by omega)] at hdec
 have hYh:uy<ht:=by
  refine Nat.lt_of_mul_lt_mul_right (a:=wd) ?_
  rw [Nat.mul_comm ht wd,← hn]
  omega
 refine CT O (by omega) (Ck (tn (Cb (Cs (Cy (Lo O (Y.movB (by assumption)) (Lt ?_)))))))
 refine VC.join (fun ρ w' => ∃ gi,gi=groupAt hb (tilesN wd hb) hpx wd acc.length∧gi≤maxGroup hpx∧PSl σ wd cc bg (maxGroup hpx+1) hb bp n cap cv hv P C ux uy gi lk ρ∧St w2 [σ.d,σ.rd,be'] [blkR bp (rowK .u8 (byteAt acc) cap) 5,cacheR cc be' (cached cc (acc.take cp)),decR σ Ri] w') ?_ ?_
 case refine_1 =>
  cases lk with
  | false =>
   refine CB O (fun h => nomatch h) (fun _ => (Ck (tn ?_)))
   exact ⟨gi,hlk O hlt,hgi,by constructor <;> first | exact rfl | assumption,H⟩
  | true =>
   have hb0:hb≠0:=fun h => by have:=hlk0 h;cases this
   rcases hHP2 with ⟨h,_⟩ | ⟨_,_,hpl,bph,capp,hhv,hcp2,hbph,hblkh⟩
   ·exact absurd h hb0
   have s21':=s21
   rw [if_neg hb0] at s21'
   have hti:=tile_index (b:=hb) hX hYh
   rw [← hpl] at hti
   obtain ⟨hd1,hd2⟩:=divmod hXY hX
   have hga:groupAt hb (tilesN wd hb) hpx wd acc.length=hpx.getD (tilesN wd hb * (uy / 2 ^ hb)+ux / 2 ^ hb) 0 / 256 % 65536:=by
    unfold groupAt
    rw [if_neg hb0,hd1,hd2]
   have hmg:=maxGroup_ge hti
   have hpl2:hpx.length≤268435456:=by
    rw [hpl]
    have h1:=(tilesN_le (b:=hb) hw).2
    have h2:=(tilesN_le (b:=hb) hh).2
    exact Nat.mul_le_mul (show _≤16384 by omega) (show _≤16384 by omega)
   have hn0:bph ∉ [σ.d,σ.rd,be']:=by
    have h1:=hdW1 σ.d (by simp)
    have h2:=hdW1 σ.rd (by simp)
    simp only [List.mem_cons,List.not_mem_nil,or_false,not_or]
    omega
   have hm16:=maxGroup_le hpx
   have s18':=s18
   rw [hhv] at s18'
   obtain ⟨tp,htp⟩:∃ tp,tp=tilesN wd hb:=⟨_,rfl⟩
   obtain ⟨qy,hqy⟩:∃ q,q=uy / 2 ^ hb:=⟨_,rfl⟩
   obtain ⟨qx,hqx⟩:∃ q,q=ux / 2 ^ hb:=⟨_,rfl⟩
   have hqa:qy≤uy:=by rw [hqy];exact Nat.div_le_self _ _
   have hqb:qx≤ux:=by rw [hqx];exact Nat.div_le_self _ _
   rw [← htp,← hqy,← hqx] at hti hga hmg
   rw [← htp] at s21'
   refine CB O (fun _ => ?_) (fun h => nomatch h)
   refine Cy (Lo O (YI s21') (Lo O (YI (by assumption)) (Lo O (YI (by assumption)) (Lo O (Y.shr (r:=(qy:Int)) O O (by omega) (by rw [hqy];exact shrK (k:=.i32) (b:=hb) (by show hb≤32;omega))) (Lo O (Y.mul O O (m32 (a:=tp) (b:=qy) (by omega))) (Lo O (YI (by assumption)) (Lo O (YI (by assumption)) (Lo O (Y.shr (r:=(qx:Int)) O O (by omega) (by rw [hqx];exact shrK (k:=.i32) (b:=hb) (by show hb≤32;omega))) (Lo O (Y.add O O (n32 (a:=tp * qy) (b:=qx) (by omega))) (Lo O (Y.mul O O (m32 (a:=4) (by omega))) (Lo O (AI O) (Lt ?_))))))))))))
   generalize tp * qy+qx=ix at *
   have hx0:=byteAt_lt hpx (4 * ix)
   have hx1:=byteAt_lt hpx (4 * ix+1)
   have hRG:=byteAt_RG hpx ix
   have hor:=or_high (a:=byteAt hpx (4 * ix)) (b:=byteAt hpx (4 * ix+1)) (n:=8) hx1
   rw [hRG] at hor
   generalize hpx.getD ix 0 / 256 % 65536=gk at *
   refine Cd mixedP (by kernel_rfl) ?_
   intro w hsame
   replace H:=H.same hsame
   refine So O (YS (by assumption)) (So O (YS s18') (So O (YI O) (So O (Y.ixS0 (4 * ix) sl_24 O O O (by omega)) (So O (Y.ld ld_5 O (H.old (hblkh.cellv (rowK_get (j:=4 * ix) (by omega))) hn0)) (So O (Y.cv int_5_36 O (wu32 (by omega))) (So O (Y.shl O O (by omega) (lu32 (b:=8) (by omega))) (So O (YS s18') (So O (YI O) (So O (Y.add O O (n32 (b:=1) (by omega))) (So O (Y.ixS0 (4 * ix+1) sl_24 O O O (by omega)) (So O (Y.ld ld_5 O (H.old (hblkh.cellv (rowK_get (j:=4 * ix+1) (by omega))) hn0)) (So O (Y.cv int_5_36 O (wu32 (by omega))) (So O (Y.or (r:=(gk:Int)) O O (by rw [← hor];exact ou32 (by omega))) (So O (Y.ixS gk sl_135 O O O (by omega)) (So O (Y.asgP O) (Sn (tn ?_)))))))))))))))))
   exact ⟨gk,by rw [← htp];exact hga.symm,by omega,by constructor <;> first | exact rfl | assumption,H⟩
 case refine_2 =>
 clear s0 s1 s13 s14 s17 s18 s19 s20 s21 s22 s23 s24 s25 s26 s27 s28 H hgi hlk ρ
 rintro ρ w4 ⟨gi,hgi',hgi2,⟨s0,s1,s13,s14,s17,s18,s19,s20,s21,s22,s23,s24,s25,s26,s27,s28⟩,H⟩
 obtain ⟨U,hU⟩:∃ U,U=grpOf wd ((hb,hpx),ts) acc.length:=⟨_,rfl⟩
 have hUj:∀ j,U j=ts.getD (5 * gi+j) (.leaf 0):=fun j => by rw [hU,hgi'];rfl
 have hht:∀ j,j<5→HTree [σ.d,σ.rd,be'] w2 bg (0+gi * 645+j * 129) (U j):=fun j hj => by
  rw [hUj,show 0+gi * 645+j * 129=129 * (5 * gi+j) by omega]
  exact hHT _ (by omega)
 have hsy:∀ j,j<5→(U j).symLt (alph cc j):=fun j hj => by
  have:=hsym (5 * gi+j) (by omega)
  rw [hUj]
  rwa [show (5 * gi+j) % 5=j by omega] at this
 have ha1:alph cc 1=256:=rfl
 have ha2:alph cc 2=256:=rfl
 have ha3:alph cc 3=256:=rfl
 have ha4:alph cc 4=40:=rfl
 have ha0:alph cc 0=280+(if cc=0 then 0 else 2 ^ cc):=rfl
 rw [← hU,token,pb_assoc] at hdec
 clear hU
 cases hw_:(U 0).walk Ri
 case none =>
  rw [pb_no hw_] at hdec
  refine Cy (Lo O (YP (by assumption)) (Lo O (Y.nilP O) (Lo O (Y.ixA 0 ar_144 O O O (by omega)) (Lo O (YP (by assumption)) (VL.nextNo H 2 O ro3 hS3 (hht 0 (by omega)) hdS hw_ O O O ?_)))))
  intro w a hF
  refine Lo O (Y.movT O) (Lo O (Y.ext O O) (Lo O (Y.ext O O) (Lo O (AI O) (Lo O (Y.asg O) (Lt (Cs (Cy (Lo O (Y.mov O) (Lo O (Y.neqNilT ifc_47 O O) (Lt ?_))))))))))
  refine CB O (fun _ => ?_) (fun h => nomatch h)
  refine Cy (Lo O (Y.mov O) (Lo O (Y.asg O) (Lo O (Y.asg O) (Lt (Ct (thn_r (blk_r (thn_r (blk_r (thn_r ?_))))))))))
  exact Done.ret2 O O O (.inr ⟨hdec,⟨_,rfl⟩,hFF _ hF⟩)
 case some q_ =>
 obtain ⟨s,Rj⟩:=q_
 rw [pb_ok hw_] at hdec
 have hs:=T.walk_below (hsy 0 (by omega)) hw_
 refine Cy (Lo O (YP (by assumption)) (Lo O (Y.nilP O) (Lo O (Y.ixA 0 ar_144 O O O (by omega)) (Lo O (YP (by assumption)) (VL.nextOk H 2 O ro3 hS3 (hht 0 (by omega)) hdS hw_ O O O ?_)))))
 intro w H
 simp only [List.set] at H
 refine Lo O (Y.movT O) (Lo O (Y.ext O O) (Lo O (Y.ext O O) (Lo O (AI O) (Lo O (Y.asg O) (Lt ?_)))))
 clear hw_
 refine Cs (Cy (Lo O (Y.mov O) (Lo O (Y.neqNilF ifc_47 O O) (Lt (CB O (fun h => nomatch h) (fun _ => (Ck (tn (Cb (Cy (Lo O (YI O) (Lo O (Y.lss O O) (Lo O (Y.asgB O) (Lt ?_))))))))))))))
 by_cases h256:s<256
 case pos =>
  rw [if_pos h256,pb_assoc] at hdec
  refine CT O (by omega) ?_
  cases hw_:(U 1).walk Rj
  case none =>
   rw [pb_no hw_] at hdec
   refine Cy (Lo O (YP (by assumption)) (Lo O (Y.nilP O) (Lo O (Y.ixA 1 ar_144 O O O (by omega)) (Lo O (YP (by assumption)) (VL.nextNo H 2 O ro3 hS3 (hht 1 (by omega)) hdS hw_ O O O ?_)))))
   intro w a hF
   refine Lo O (Y.movT O) (Lo O (Y.ext O O) (Lo O (Y.ext O O) (Lo O (AI O) (Lo O (Y.asg O) (Lt (Cs (Cy (Lo O (Y.mov O) (Lo O (Y.neqNilT ifc_47 O O) (Lt ?_))))))))))
   refine CB O (fun _ => ?_) (fun h => nomatch h)
   refine Cy (Lo O (Y.mov O) (Lo O (Y.asg O) (Lo O (Y.asg O) (Lt (Ct (thn_r (blk_r (blk_r (thn_r (blk_r (thn_r ?_)))))))))))
   exact Done.ret2 O O O (.inr ⟨hdec,⟨_,rfl⟩,hFF _ hF⟩)
  case some q_ =>
  obtain ⟨vr,Rk⟩:=q_
  rw [pb_ok hw_] at hdec
  have hvr:=T.walk_below (hsy 1 (by omega)) hw_
  refine Cy (Lo O (YP (by assumption)) (Lo O (Y.nilP O) (Lo O (Y.ixA 1 ar_144 O O O (by omega)) (Lo O (YP (by assumption)) (VL.nextOk H 2 O ro3 hS3 (hht 1 (by omega)) hdS hw_ O O O ?_)))))
  intro w H
  simp only [List.set] at H
  refine Lo O (Y.movT O) (Lo O (Y.ext O O) (Lo O (Y.ext O O) (Lo O (AI O) (Lo O (Y.asg O) (Lt ?_)))))
  clear hw_
  refine Cs (Cy (Lo O (Y.mov O) (Lo O (Y.neqNilF ifc_47 O O) (Lt (CB O (fun h => nomatch h) (fun _ => (Ck (tn ?_))))))))
  rw [pb_assoc] at hdec
  cases hw_:(U 2).walk Rk
  case none =>
   rw [pb_no hw_] at hdec
   refine Cy (Lo O (YP (by assumption)) (Lo O (Y.nilP O) (Lo O (Y.ixA 2 ar_144 O O O (by omega)) (Lo O (YP (by assumption)) (VL.nextNo H 2 O ro3 hS3 (hht 2 (by omega)) hdS hw_ O O O ?_)))))
   intro w a hF
   refine Lo O (Y.movT O) (Lo O (Y.ext O O) (Lo O (Y.ext O O) (Lo O (AI O) (Lo O (Y.asg O) (Lt (Cs (Cy (Lo O (Y.mov O) (Lo O (Y.neqNilT ifc_47 O O) (Lt ?_))))))))))
   refine CB O (fun _ => ?_) (fun h => nomatch h)
   refine Cy (Lo O (Y.mov O) (Lo O (Y.asg O) (Lo O (Y.asg O) (Lt (Ct (thn_r (blk_r (blk_r (thn_r (blk_r (thn_r ?_)))))))))))
   exact Done.ret2 O O O (.inr ⟨hdec,⟨_,rfl⟩,hFF _ hF⟩)
  case some q_ =>
  obtain ⟨vb,Rl⟩:=q_
  rw [pb_ok hw_] at hdec
  have hvb:=T.walk_below (hsy 2 (by omega)) hw_
  refine Cy (Lo O (YP (by assumption)) (Lo O (Y.nilP O) (Lo O (Y.ixA 2 ar_144 O O O (by omega)) (Lo O (YP (by assumption)) (VL.nextOk H 2 O ro3 hS3 (hht 2 (by omega)) hdS hw_ O O O ?_)))))
  intro w H
  simp only [List.set] at H
  refine Lo O (Y.movT O) (Lo O (Y.ext O O) (Lo O (Y.ext O O) (Lo O (AI O) (Lo O (Y.asg O) (Lt ?_)))))
  clear hw_
  refine Cs (Cy (Lo O (Y.mov O) (Lo O (Y.neqNilF ifc_47 O O) (Lt (CB O (fun h => nomatch h) (fun _ => (Ck (tn ?_))))))))
  rw [pb_assoc] at hdec
  cases hw_:(U 3).walk Rl
  case none =>
   rw [pb_no hw_] at hdec
   refine Cy (Lo O (YP (by assumption)) (Lo O (Y.nilP O) (Lo O (Y.ixA 3 ar_144 O O O (by omega)) (Lo O (YP (by assumption)) (VL.nextNo H 2 O ro3 hS3 (hht 3 (by omega)) hdS hw_ O O O ?_)))))
   intro w a hF
   refine Lo O (Y.movT O) (Lo O (Y.ext O O) (Lo O (Y.ext O O) (Lo O (AI O) (Lo O (Y.asg O) (Lt (Cs (Cy (Lo O (Y.mov O) (Lo O (Y.neqNilT ifc_47 O O) (Lt ?_))))))))))
   refine CB O (fun _ => ?_) (fun h => nomatch h)
   refine Cy (Lo O (Y.mov O) (Lo O (Y.asg O) (Lo O (Y.asg O) (Lt (Ct (thn_r (blk_r (blk_r (thn_r (blk_r (thn_r ?_)))))))))))
   exact Done.ret2 O O O (.inr ⟨hdec,⟨_,rfl⟩,hFF _ hF⟩)
  case some q_ =>
  obtain ⟨va,Rm⟩:=q_
  rw [pb_ok hw_] at hdec
  have hva:=T.walk_below (hsy 3 (by omega)) hw_
  refine Cy (Lo O (YP (by assumption)) (Lo O (Y.nilP O) (Lo O (Y.ixA 3 ar_144 O O O (by omega)) (Lo O (YP (by assumption)) (VL.nextOk H 2 O ro3 hS3 (hht 3 (by omega)) hdS hw_ O O O ?_)))))
  intro w H
  simp only [List.set] at H
  refine Lo O (Y.movT O) (Lo O (Y.ext O O) (Lo O (Y.ext O O) (Lo O (AI O) (Lo O (Y.asg O) (Lt ?_)))))
  clear hw_
  refine Cs (Cy (Lo O (Y.mov O) (Lo O (Y.neqNilF ifc_47 O O) (Lt (CB O (fun h => nomatch h) (fun _ => (Ck (tn ?_))))))))
  rw [pb_ok (show ret (acc++[argb va vr s vb]) Rm=some (acc++[argb va vr s vb],Rm) from rfl)] at hdec
  obtain ⟨hpa,hpr,hpg,hpb,hpx32⟩:=argb_parts (show va<256 by omega) (show vr<256 by omega) h256 (show vb<256 by omega)
  have hbn:=byteAt_new acc (argb va vr s vb)
  rw [hpa,hpr,hpg,hpb,← hP] at hbn
  refine Cy (Lo O (YS (by assumption)) (Lo O (YI (by assumption)) (Lo O (Y.add O O (n64 (b:=0) (by omega))) (Lo O (YI O) (Lo O (Y.cv int_36_5 O (wu8 (by omega))) (Lo O (Y.ixS0 _ sl_24 O O O (by omega)) (VL.putR H 0 st_5 O O O (by omega) ?_)))))))
  intro w H
  try simp only [List.set,List.eraseIdx] at H
  refine Lt (Cy (Lo O (YS (by assumption)) (Lo O (YI (by assumption)) (Lo O (Y.add O O (n64 (b:=1) (by omega))) (Lo O (YI O) (Lo O (Y.cv int_36_5 O (wu8 (by omega))) (Lo O (Y.ixS0 _ sl_24 O O O (by omega)) (VL.putR H 0 st_5 O O O (by omega) ?_))))))))
  intro w H
  try simp only [List.set,List.eraseIdx] at H
  refine Lt (Cy (Lo O (YS (by assumption)) (Lo O (YI (by assumption)) (Lo O (Y.add O O (n64 (b:=2) (by omega))) (Lo O (YI O) (Lo O (Y.cv int_36_5 O (wu8 (by omega))) (Lo O (Y.ixS0 _ sl_24 O O O (by omega)) (VL.putR H 0 st_5 O O O (by omega) ?_))))))))
  intro w H
  try simp only [List.set,List.eraseIdx] at H
  refine Lt (Cy (Lo O (YS (by assumption)) (Lo O (YI (by assumption)) (Lo O (Y.add O O (n64 (b:=3) (by omega))) (Lo O (YI O) (Lo O (Y.cv int_36_5 O (wu8 (by omega))) (Lo O (Y.ixS0 _ sl_24 O O O (by omega)) (VL.putR H 0 st_5 O O O (by omega) ?_))))))))
  intro w H
  try simp only [List.set,List.eraseIdx] at H
  refine Lt ?_
  rw [rowK_congr (g:=byteAt (acc++[argb va vr s vb])) (fun j _ => hbn j)] at H
  obtain ⟨C1,hC1⟩:∃ C1,C1=C:=⟨_,rfl⟩
  obtain ⟨cp1,hcp1⟩:∃ cp1,cp1=cp:=⟨_,rfl⟩
  rw [← hC1] at s24
  rw [← hcp1] at H
  refine Cy (Lo O (YI (by assumption)) (Lo O (Y.add O O (n64 (b:=4) (by omega))) (Lo O (AI O) (Lt (Cy (Lo O (YI (by assumption)) (Lo O (Y.add O O (n32 (b:=1) (by omega))) (Lo O (AI O) (Lt (Cs (Cy (Lo O (YI O) (Lo O (YI (by assumption)) (Lo O (Y.eql O O) (Ln ?_)))))))))))))))
  refine tn ?_
  refine VC.join (fun ρ w' => ∃ ux' uy',uy' * wd+ux'=acc.length+1∧ux'<wd∧(ux'=ux+1∨ux'=0)∧PSl σ wd cc bg (maxGroup hpx+1) hb bp n cap cv hv (P+4) C1 ux' uy' gi lk ρ∧w=w') ?_ ?_
  case refine_1 =>
   by_cases hwr:ux+1=wd
   case pos =>
    refine CT O (by omega) (Cr (Lo O (YI (by assumption)) (Lo O (Y.add O O (n32 (b:=1) (by omega))) (Lo O (AI O) (Lo O (AI O) (Lt ?_))))))
    exact ⟨0,uy+1,by rw [Nat.succ_mul];omega,by omega,.inr rfl,by constructor <;> first | exact rfl | assumption,rfl⟩
   case neg =>
    refine CF O (by omega) (Ck (tn ?_))
    exact ⟨ux+1,uy,by omega,by omega,.inl rfl,by constructor <;> first | exact rfl | assumption,rfl⟩
  case refine_2 =>
  clear s0 s1 s13 s14 s17 s18 s19 s20 s21 s22 s23 s24 s25 s26 s27 s28 ρ
  rintro ρ w' ⟨ux',uy',hXY',hX',hX2,⟨s0,s1,s13,s14,s17,s18,s19,s20,s21,s22,s23,s24,s25,s26,s27,s28⟩,rfl⟩
  have hlen1:(acc++[argb va vr s vb]).length=acc.length+1:=by simp
  have hp32':∀ p ∈ acc++[argb va vr s vb],p<2 ^ 32:=fun p hp => by
   rw [List.mem_append,List.mem_singleton] at hp
   rcases hp with hp | rfl
   ·exact hp32 p hp
   ·exact hpx32
  have hgn:(hb=0∨ux' % 2 ^ hb≠0)→gi=groupAt hb (tilesN wd hb) hpx wd (acc.length+1):=fun h => by
   rw [hgi']
   rcases Nat.eq_zero_or_pos hb with h0 | h0
   ·unfold groupAt;rw [if_pos h0,if_pos h0]
   ·have hne:ux'≠0:=fun e => by
     rcases h with h | h
     ·omega
     ·rw [e,Nat.zero_mod] at h;exact h rfl
    obtain rfl:ux'=ux+1:=by omega
    exact (groupAt_same hXY hX' h).symm
  by_cases hb0:hb=0
  case pos =>
   have hm0:=hmask.2 hb0
   rw [hm0] at s20
   refine Cr (Lo O (YI (by assumption)) (Lo O (Y.neqD O O (decide_eq_false (by omega))) (Lo O (Y.movB O) (VL.skipG O O O O O (VL.skipG O O O O O (VL.skipG O O O O O (VL.skipG O O O O O (Lo O (Y.pick O O) (Lo O (Y.asgB O) (Ln (blk_n (blk_n (tn ?_)))))))))))))
   rw [← hm0] at s20
   exact ⟨n - (acc++[argb va vr s vb]).length,by omega,k,acc++[argb va vr s vb],P+4,C1,ux',uy',cp1,gi,false,_,rfl,by omega,by omega,by omega,by omega,by omega,by omega,hX',hgi2,fun _ => rfl,fun _ _ => by rw [hlen1];exact hgn (.inl hb0),hp32',hdec,by constructor <;> first | exact rfl | assumption,by rw [List.take_append_of_le_length (by omega)];exact H⟩
  case neg =>
  have hm0:maskOf hb≠0:=fun h => hb0 (hmask.1 h)
  have hmk:maskOf hb=2 ^ hb - 1:=if_neg hb0
  have hp9:2 ^ hb≤2 ^ 9:=Nat.pow_le_pow_right (by omega) (by omega)
  have hand:ux' &&& maskOf hb=ux' % 2 ^ hb:=by rw [hmk,Nat.and_two_pow_sub_one_eq_mod]
  refine Cr (Lo O (YI (by assumption)) (Lo O (Y.neqD O O (decide_eq_true (by omega))) (Lo O (Y.movB O) (LG O O O O (YI (by assumption)) (LG O O O O (YI (by assumption)) (LG O O O O (Y.and (r:=(ux' % 2 ^ hb:Nat)) O O (by rw [← hand];exact a32 (by omega))) (LG O O O O (Y.eql O O) (Lo O (Y.pick O O) (Lo O (Y.asgB O) (Ln (blk_n (blk_n (tn ?_)))))))))))))
  exact ⟨n - (acc++[argb va vr s vb]).length,by omega,k,acc++[argb va vr s vb],P+4,C1,ux',uy',cp1,gi,decide (((ux' % 2 ^ hb:Nat):Int)=0),_,rfl,by omega,by omega,by omega,by omega,by omega,by omega,hX',hgi2,fun h => absurd h hb0,fun h _ => by
   rw [hlen1]
   exact hgn (.inr (by intro e;rw [e] at h;simp at h)),hp32',hdec,by constructor <;> first | exact rfl | assumption,by rw [List.take_append_of_le_length (by omega)];exact H⟩
 case neg =>
 rw [if_neg h256] at hdec
 refine CF O (by omega) (Cy (Lo O (YI O) (Lo O (Y.lss O O) (Lo O (Y.asgB O) (Lt ?_)))))
 by_cases h280:s<280
 case pos =>
  rw [if_pos h280,pb_assoc] at hdec
  refine CT O (by omega) ?_
  cases hl_:lz (s - 256) Rj
  case none =>
   rw [pb_no hl_] at hdec
   refine Cy (Lo O (YP (by assumption)) (Lo O (YI O) (Lo O (Y.sub O O (su32 (b:=256) (by omega))) (VL.lzNo H 2 O ro3 hS3 (show s - 256<40 by omega) hl_ O O O ?_))))
   intro w a hF
   refine Lo O (Y.movT O) (Lo O (Y.ext O O) (Lo O (Y.ext O O) (Lo O (AI O) (Lo O (Y.asg O) (Lt (Cs (Cy (Lo O (Y.mov O) (Lo O (Y.neqNilT ifc_47 O O) (Lt ?_))))))))))
   refine CB O (fun _ => ?_) (fun h => nomatch h)
   refine Cy (Lo O (Y.mov O) (Lo O (Y.asg O) (Lo O (Y.asg O) (Lt (Ct (thn_r (blk_r (blk_r (thn_r (blk_r (thn_r ?_)))))))))))
   exact Done.ret2 O O O (.inr ⟨hdec,⟨_,rfl⟩,hFF _ hF⟩)
  case some q_ =>
  obtain ⟨ln,Rk⟩:=q_
  rw [pb_ok hl_] at hdec
  have hln:=lz_le (show s - 256<40 by omega) hl_
  refine Cy (Lo O (YP (by assumption)) (Lo O (YI O) (Lo O (Y.sub O O (su32 (b:=256) (by omega))) (VL.lzOk H 2 O ro3 hS3 (show s - 256<40 by omega) hl_ O O O ?_))))
  intro w H
  simp only [List.set] at H
  refine Lo O (Y.movT O) (Lo O (Y.ext O O) (Lo O (Y.ext O O) (Lo O (AI O) (Lo O (Y.asg O) (Lt ?_)))))
  clear hl_
  refine Cs (Cy (Lo O (Y.mov O) (Lo O (Y.neqNilF ifc_47 O O) (Lt (CB O (fun h => nomatch h) (fun _ => (Ck (tn ?_))))))))
  rw [pb_assoc] at hdec
  cases hw_:(U 4).walk Rk
  case none =>
   rw [pb_no hw_] at hdec
   refine Cy (Lo O (YP (by assumption)) (Lo O (Y.nilP O) (Lo O (Y.ixA 4 ar_144 O O O (by omega)) (Lo O (YP (by assumption)) (VL.nextNo H 2 O ro3 hS3 (hht 4 (by omega)) hdS hw_ O O O ?_)))))
   intro w a hF
   refine Lo O (Y.movT O) (Lo O (Y.ext O O) (Lo O (Y.ext O O) (Lo O (AI O) (Lo O (Y.asg O) (Lt (Cs (Cy (Lo O (Y.mov O) (Lo O (Y.neqNilT ifc_47 O O) (Lt ?_))))))))))
   refine CB O (fun _ => ?_) (fun h => nomatch h)
   refine Cy (Lo O (Y.mov O) (Lo O (Y.asg O) (Lo O (Y.asg O) (Lt (Ct (thn_r (blk_r (blk_r (thn_r (blk_r (thn_r ?_)))))))))))
   exact Done.ret2 O O O (.inr ⟨hdec,⟨_,rfl⟩,hFF _ hF⟩)
  case some q_ =>
  obtain ⟨ds,Rl⟩:=q_
  rw [pb_ok hw_] at hdec
  have hds:=T.walk_below (hsy 4 (by omega)) hw_
  refine Cy (Lo O (YP (by assumption)) (Lo O (Y.nilP O) (Lo O (Y.ixA 4 ar_144 O O O (by omega)) (Lo O (YP (by assumption)) (VL.nextOk H 2 O ro3 hS3 (hht 4 (by omega)) hdS hw_ O O O ?_)))))
  intro w H
  simp only [List.set] at H
  refine Lo O (Y.movT O) (Lo O (Y.ext O O) (Lo O (Y.ext O O) (Lo O (AI O) (Lo O (Y.asg O) (Lt ?_)))))
  clear hw_
  refine Cs (Cy (Lo O (Y.mov O) (Lo O (Y.neqNilF ifc_47 O O) (Lt (CB O (fun h => nomatch h) (fun _ => (Ck (tn ?_))))))))
  rw [pb_assoc] at hdec
  cases hl_:lz (ds) Rl
  case none =>
   rw [pb_no hl_] at hdec
   refine Cy (Lo O (YP (by assumption)) (Lo O (YI O) (VL.lzNo H 2 O ro3 hS3 (show ds<40 by omega) hl_ O O O ?_)))
   intro w a hF
   refine Lo O (Y.movT O) (Lo O (Y.ext O O) (Lo O (Y.ext O O) (Lo O (AI O) (Lo O (Y.asg O) (Lt (Cs (Cy (Lo O (Y.mov O) (Lo O (Y.neqNilT ifc_47 O O) (Lt ?_))))))))))
   refine CB O (fun _ => ?_) (fun h => nomatch h)
   refine Cy (Lo O (Y.mov O) (Lo O (Y.asg O) (Lo O (Y.asg O) (Lt (Ct (thn_r (blk_r (blk_r (thn_r (blk_r (thn_r ?_)))))))))))
   exact Done.ret2 O O O (.inr ⟨hdec,⟨_,rfl⟩,hFF _ hF⟩)
  case some q_ =>
  obtain ⟨dc,Rm⟩:=q_
  rw [pb_ok hl_] at hdec
  have hdc:=lz_le (show ds<40 by omega) hl_
  refine Cy (Lo O (YP (by assumption)) (Lo O (YI O) (VL.lzOk H 2 O ro3 hS3 (show ds<40 by omega) hl_ O O O ?_)))
  intro w H
  simp only [List.set] at H
  refine Lo O (Y.movT O) (Lo O (Y.ext O O) (Lo O (Y.ext O O) (Lo O (AI O) (Lo O (Y.asg O) (Lt ?_)))))
  clear hl_
  refine Cs (Cy (Lo O (Y.mov O) (Lo O (Y.neqNilF ifc_47 O O) (Lt (CB O (fun h => nomatch h) (fun _ => (Ck (tn ?_))))))))
  have hdp:=dist_pos wd dc
  have hdl:=distOf_le (w:=wd) (c:=dc) (by omega) (by omega)
  refine Cy (Lo O (YI (by assumption)) (Lo O (YI O) (VL.callP O ent_59 (dist_any _ (ro3.frm H hS3).gl wd dc (by omega) (by omega)) O (Lo O (AI O) (Lt ?_)))))
  generalize distOf wd dc=d at *
  refine Cy (Lo O (YI (by assumption)) (Lo O (YI O) (Lo O (Y.cv int_36_3 O (w64 (by omega))) (Lo O (Y.mul O O (m64 (a:=4) (by omega))) (Lo O (Y.add O O (n64 (by omega))) (Lo O (AI O) (Lt ?_)))))))
  by_cases hA:n<acc.length+ln
  case pos =>
   rw [if_pos (.inr hA),pb_no (show no Rm=none from rfl)] at hdec
   refine Cy (Lo O (YI (by assumption)) (Lo O (YI O) (Lo O (Y.cv int_21_3 O (w64 (by omega))) (Lo O (Y.mul O O (m64 (a:=4) (by omega))) (Lo O (Y.sub O O (w64 (by omega))) (Lo O (AI O) (Lt (Cy (Lo O (YI O) (Lo O (YI O) (Lo O (Y.cv int_21_3 O (w64 (by omega))) (Lo O (Y.mul O O (m64 (a:=4) (by omega))) (Lo O (Y.sub O O (w64 (by omega))) (Lo O (AI O) (Lt ?_)))))))))))))))
   refine Cs (Cy (Lo O (YI (by assumption)) (Lo O (Y.lssD O O (decide_eq_false (by omega))) (Lo O (Y.movB O) (LG O O O O (YS (by assumption)) (LG O O O O (Y.len sl_24 O) (LG O O O O (YI O) (LG O O O O (Y.lssD O O (decide_eq_true (by omega))) (Lo O (Y.pick O O) (Lo O (Y.movB O) (VL.skipG O O O O O (VL.skipG O O O O O (Lo O (Y.pick O O) (Lo O (Y.movB O) (VL.skipG O O O O O (VL.skipG O O O O O (VL.skipG O O O O O (VL.skipG O O O O O (Lo O (Y.pick O O) ?_)))))))))))))))))))
   refine Lt ?_
   refine CB O (fun _ => ?_) (fun h => nomatch h)
   refine Cy (VL.errNew H O O ?_)
   intro w a H
   refine Lo O (Y.asg O) (Lo O (Y.asg O) (Lt (Ct (thn_r (blk_r (blk_r (thn_r (blk_r (thn_r ?_)))))))))
   exact Done.ret2 O O O (.inr ⟨hdec,⟨_,rfl⟩,hFF _ H.frm⟩)
  case neg =>
  by_cases hB:acc.length<d
  case pos =>
   rw [if_pos (.inl hB),pb_no (show no Rm=none from rfl)] at hdec
   refine Cy (Lo O (YI (by assumption)) (Lo O (YI O) (Lo O (Y.cv int_21_3 O (w64 (by omega))) (Lo O (Y.mul O O (m64 (a:=4) (by omega))) (Lo O (Y.sub O O (w64 (by omega))) (Lo O (AI O) (Lt (Cy (Lo O (YI O) (Lo O (YI O) (Lo O (Y.cv int_21_3 O (w64 (by omega))) (Lo O (Y.mul O O (m64 (a:=4) (by omega))) (Lo O (Y.sub O O (w64 (by omega))) (Lo O (AI O) (Lt ?_)))))))))))))))
   refine Cs (Cy (Lo O (YI (by assumption)) (Lo O (Y.lssD O O (decide_eq_false (by omega))) (Lo O (Y.movB O) (LG O O O O (YS (by assumption)) (LG O O O O (Y.len sl_24 O) (LG O O O O (YI O) (LG O O O O (Y.lssD O O (decide_eq_false (by omega))) (Lo O (Y.pick O O) (Lo O (Y.movB O) (LG O O O O (YI O) (LG O O O O (Y.lssD O O (decide_eq_true (by omega))) (Lo O (Y.pick O O) (Lo O (Y.movB O) (VL.skipG O O O O O (VL.skipG O O O O O (VL.skipG O O O O O (VL.skipG O O O O O (Lo O (Y.pick O O) ?_)))))))))))))))))))
   refine Lt ?_
   refine CB O (fun _ => ?_) (fun h => nomatch h)
   refine Cy (VL.errNew H O O ?_)
   intro w a H
   refine Lo O (Y.asg O) (Lo O (Y.asg O) (Lt (Ct (thn_r (blk_r (blk_r (thn_r (blk_r (thn_r ?_)))))))))
   exact Done.ret2 O O O (.inr ⟨hdec,⟨_,rfl⟩,hFF _ H.frm⟩)
  case neg =>
  rw [if_neg (by omega),pb_ok (show ret (copyPx d ln acc) Rm=some (copyPx d ln acc,Rm) from rfl)] at hdec
  refine Cy (Lo O (YI (by assumption)) (Lo O (YI O) (Lo O (Y.cv int_21_3 O (w64 (by omega))) (Lo O (Y.mul O O (m64 (a:=4) (by omega))) (Lo O (Y.sub O O (s64 (by omega))) (Lo O (AI O) (Lt (Cy (Lo O (YI O) (Lo O (YI O) (Lo O (Y.cv int_21_3 O (w64 (by omega))) (Lo O (Y.mul O O (m64 (a:=4) (by omega))) (Lo O (Y.sub O O (s64 (by omega))) (Lo O (AI O) (Lt ?_)))))))))))))))
  refine Cs (Cy (Lo O (YI (by assumption)) (Lo O (Y.lssD O O (decide_eq_false (by omega))) (Lo O (Y.movB O) (LG O O O O (YS (by assumption)) (LG O O O O (Y.len sl_24 O) (LG O O O O (YI O) (LG O O O O (Y.lssD O O (decide_eq_false (by omega))) (Lo O (Y.pick O O) (Lo O (Y.movB O) (LG O O O O (YI O) (LG O O O O (Y.lssD O O (decide_eq_false (by omega))) (Lo O (Y.pick O O) (Lo O (Y.movB O) (LG O O O O (YS (by assumption)) (LG O O O O (Y.len sl_24 O) (LG O O O O (YI O) (LG O O O O (Y.lssD O O (decide_eq_false (by omega))) (Lo O (Y.pick O O) ?_)))))))))))))))))))
  refine Lt (CB O (fun h => nomatch h) (fun _ => (Ck (tn ?_))))
  obtain ⟨fl,hfl⟩:∃ fl,fl=copyPx d ln acc:=⟨_,rfl⟩
  have hfll:fl.length=acc.length+ln:=by rw [hfl,copyPx_length]
  have hflb:∀ k,k<4 * ln→byteAt fl (P+k)=byteAt fl (P+k - 4 * d):=fun k hk => by rw [hP,hfl];exact copy_byte hdp (by omega) hk
  have hfla:∀ j,j<P→byteAt fl j=byteAt acc j:=fun j hj => by rw [hfl];exact copy_byte_lt hdp (by omega) (by omega)
  have hfl32:∀ p ∈ fl,p<2 ^ 32:=by rw [hfl];exact copyPx_lt hdp ln acc (by omega) hp32
  have hflt:fl.take cp=acc.take cp:=by
   obtain ⟨r,hr⟩:=copyPx_prefix d ln acc
   rw [hfl,hr,List.take_append_of_le_length (by omega)]
  rw [← hfl] at hdec
  clear hfl
  refine Cs ?_
  refine VC.join (fun ρ w' => PSl σ wd cc bg (maxGroup hpx+1) hb bp n cap cv hv (P+4 * ln) C ux uy gi lk ρ∧ρ 36=.int .u32 (ln:Nat)∧St w2 [σ.d,σ.rd,be'] [blkR bp (rowK .u8 (byteAt fl) cap) 5,cacheR cc be' (cached cc (acc.take cp)),decR σ Rm] w') ?_ ?_
  case refine_1 =>
   refine Cb ?_
   refine Cl (fun mm ρ w' => ∃ kk,mm=4 * ln - kk∧kk≤4 * ln∧PSl σ wd cc bg (maxGroup hpx+1) hb bp n cap cv hv (P+kk) C ux uy gi lk ρ∧ρ 36=.int .u32 (ln:Nat)∧ρ 41=.int .i64 ((P+4 * ln:Nat):Int)∧ρ 42=.int .i64 ((P+kk - 4 * d:Nat):Int) ∧
    St w2 [σ.d,σ.rd,be'] [blkR bp (rowK .u8 (fun j => if j<P+kk then byteAt fl j else byteAt acc j) cap) 5,cacheR cc be' (cached cc (acc.take cp)),decR σ Rm] w') (4 * ln)
    ⟨0,rfl,by omega,by constructor <;> first | exact rfl | assumption,rfl,rfl,rfl,by
     rw [rowK_congr (f:=fun j => if j<P+0 then byteAt fl j else byteAt acc j) (g:=byteAt acc) (fun j _ => by
      by_cases h:j<P+0
      ·rw [if_pos h,hfla j (by omega)]
      ·rw [if_neg h])]
     exact H⟩ ?_
   clear s0 s1 s13 s14 s17 s18 s19 s20 s21 s22 s23 s24 s25 s26 s27 s28 H
   clear ρ
   rintro mm ρ w5 ⟨kk,rfl,hkk,⟨s0,s1,s13,s14,s17,s18,s19,s20,s21,s22,s23,s24,s25,s26,s27,s28⟩,h36,h41,h42,H⟩
   refine Cs (Cy (Lo O (YI (by assumption)) (Lo O (YI (by assumption)) (Lo O (Y.lss O O) (Lt ?_)))))
   by_cases hkl:kk<4 * ln
   case pos =>
    have hbk:=hflb kk hkl
    refine CT O (by omega) (Ck (tn (Cs (Cb (Cr (Lo O (YS (by assumption)) (Lo O (YI (by assumption)) (Lo O (YS (by assumption)) (Lo O (YI (by assumption)) (Lo O (Y.ixS0 _ sl_24 O O O (by omega)) (Lo O (Y.ld (v:=.int .u8 (byteAt fl (P+kk - 4 * d):Nat)) ld_5 O (H.cell 0 O (by rw [rowK_get (by omega),if_pos (by omega)]))) (Lo O (Y.ixS0 _ sl_24 O O O (by omega)) (VL.putR H 0 st_5 O O O (by omega) ?_)))))))))))))
    intro w H
    try simp only [List.set,List.eraseIdx] at H
    refine Ln (blk_n (tn (Cr (Lo O (YI (by assumption)) (Lo O (Y.add O O (n64 (b:=1) (by omega))) (Lo O (YI (by assumption)) (Lo O (Y.add (r:=((P+(kk+1) - 4 * d:Nat):Int)) O O (by rw [w64 (by omega)];omega)) (Lo O (AI O) (Lo O (AI O) (Lt ?_))))))))))
    exact ⟨4 * ln - (kk+1),by omega,kk+1,rfl,by omega,by constructor <;> first | exact rfl | assumption,h36,h41,rfl,by
     rw [rowK_congr (f:=fun j => if j<P+(kk+1) then byteAt fl j else byteAt acc j) (g:=fun j => if j=P+kk then byteAt fl (P+kk - 4 * d) else if j<P+kk then byteAt fl j else byteAt acc j) (fun j _ => by
      by_cases h1:j=P+kk
      ·rw [if_pos h1,if_pos (by omega),h1,hbk]
      ·rw [if_neg h1]
       by_cases h2:j<P+kk
       ·rw [if_pos h2,if_pos (by omega)]
       ·rw [if_neg h2,if_neg (by omega)])]
     exact H⟩
   case neg =>
    obtain rfl:kk=4 * ln:=by omega
    refine CF O (by omega) (Cx (thn_x (thn_x (blk_x (tn ?_)))))
    rw [rowK_congr (g:=byteAt fl) (fun j _ => by
     by_cases h:j<P+4 * ln
     ·rw [if_pos h]
     ·rw [if_neg h,byteAt_out (l:=acc) (by omega),byteAt_out (by omega)])] at H
    exact ⟨by constructor <;> first | exact rfl | assumption,h36,H⟩
  case refine_2 =>
  clear s0 s1 s13 s14 s17 s18 s19 s20 s21 s22 s23 s24 s25 s26 s27 s28 H
  clear ρ
  rintro ρ w5 ⟨⟨s0,s1,s13,s14,s17,s18,s19,s20,s21,s22,s23,s24,s25,s26,s27,s28⟩,h36,H⟩
  refine Cy (Lo O (YI (by assumption)) (Lo O (YI (by assumption)) (Lo O (Y.cv int_36_21 O (w32 (by omega))) (Lo O (Y.add O O (n32 (by omega))) (Lo O (AI O) (Lt (Cs ?_)))))))
  have hu1:uy≤uy * wd:=Nat.le_mul_of_pos_right _ hw
  refine VC.join (fun ρ w' => ∃ ux' uy',uy' * wd+ux'=acc.length+ln∧ux'<wd∧PSl σ wd cc bg (maxGroup hpx+1) hb bp n cap cv hv (P+4 * ln) C ux' uy' gi lk ρ∧w5=w') ?_ ?_
  case refine_1 =>
   refine Cb ?_
   refine Cl (fun mm ρ w' => ∃ ux' uy',ux'=mm∧uy' * wd+ux'=acc.length+ln∧ux'≤20480∧PSl σ wd cc bg (maxGroup hpx+1) hb bp n cap cv hv (P+4 * ln) C ux' uy' gi lk ρ∧w5=w') (ux+ln)
    ⟨ux+ln,uy,rfl,by omega,by omega,by constructor <;> first | exact rfl | assumption,rfl⟩ ?_
   clear h36 s0 s1 s13 s14 s17 s18 s19 s20 s21 s22 s23 s24 s25 s26 s27 s28
   clear ρ
   rintro mm ρ w' ⟨ux',uy',rfl,hXY',hX',⟨s0,s1,s13,s14,s17,s18,s19,s20,s21,s22,s23,s24,s25,s26,s27,s28⟩,rfl⟩
   have hu2:uy'≤uy' * wd:=Nat.le_mul_of_pos_right _ hw
   refine Cs (Cy (Lo O (YI (by assumption)) (Lo O (YI (by assumption)) (Lo O (Y.geq O O) (Lt ?_)))))
   by_cases hge:wd≤ux'
   case pos =>
    refine CT O (by omega) (Ck (tn (Cb (Cr (Lo O (YI (by assumption)) (Lo O (YI (by assumption)) (Lo O (Y.sub O O (s32 (by omega))) (Lo O (YI (by assumption)) (Lo O (Y.add O O (n32 (b:=1) (by omega))) (Lo O (AI O) (Lo O (AI O) (Ln (blk_n (tn ?_))))))))))))))
    exact ⟨ux' - wd,by omega,ux' - wd,uy'+1,rfl,by rw [Nat.succ_mul];omega,by omega,by constructor <;> first | exact rfl | assumption,rfl⟩
   case neg =>
    refine CF O (by omega) (Cx (thn_x (thn_x (blk_x (tn ?_)))))
    exact ⟨ux',uy',hXY',by omega,by constructor <;> first | exact rfl | assumption,rfl⟩
  case refine_2 =>
  clear h36 s0 s1 s13 s14 s17 s18 s19 s20 s21 s22 s23 s24 s25 s26 s27 s28
  clear ρ
  rintro ρ w' ⟨ux',uy',hXY',hX',⟨s0,s1,s13,s14,s17,s18,s19,s20,s21,s22,s23,s24,s25,s26,s27,s28⟩,rfl⟩
  refine Cr (Lo O (YI (by assumption)) (Lo O (Y.neq O O) (Lo O (Y.asgB O) (Ln (blk_n (blk_n (tn ?_)))))))
  exact ⟨n - fl.length,by omega,k,fl,P+4 * ln,C,ux',uy',cp,gi,decide ((maskOf hb:Int)≠0),Rm,rfl,by omega,by omega,by omega,hC,by omega,by omega,hX',hgi2,fun h => by
   have:=hmask.2 h
   simp [this],fun h _ => by
   have h0:hb=0:=hmask.1 (by simpa using h)
   rw [hgi']
   unfold groupAt
   rw [if_pos h0,if_pos h0],hfl32,hdec,by constructor <;> first | exact rfl | assumption,by rw [hflt];exact H⟩
 case neg =>
 rw [if_neg h280] at hdec
 have hcc0:0<cc:=by
  refine Nat.pos_of_ne_zero fun h => ?_
  rw [ha0,if_pos h] at hs
  omega
 have hs2:s - 280<2 ^ cc:=by
  rw [ha0,if_neg (by omega)] at hs
  omega
 have hp11:2 ^ cc≤2 ^ 11:=Nat.pow_le_pow_right (by omega) hcc
 rw [if_neg (by omega),pb_ok (show ret (acc++[cached cc acc (s - 280)]) Rj=some (acc++[cached cc acc (s - 280)],Rj) from rfl)] at hdec
 have hcv:cv=.slice (some ⟨be',0,none⟩) (2 ^ cc) (2 ^ cc):=by
  rcases hCV with ⟨h,_⟩ | ⟨_,h⟩
  ·omega
  ·exact h
 rw [cacheR_pos hcc0] at H
 refine CF O (by omega) (Cs ?_)
 refine VC.join (fun ρ w' => PSl σ wd cc bg (maxGroup hpx+1) hb bp n cap cv hv P P ux uy gi lk ρ∧ρ 30=.int .u32 (s:Nat)∧St w2 [σ.d,σ.rd,be'] [blkR bp (rowK .u8 (byteAt acc) cap) 5,blkR be' (rowK .u32 (cached cc acc) (2 ^ cc)) 36,decR σ Rj] w') ?_ ?_
 case refine_1 =>
  refine Cb ?_
  refine Cl (fun mm ρ w' => ∃ cq Cq,mm=acc.length - cq∧cq≤acc.length∧Cq=4 * cq∧PSl σ wd cc bg (maxGroup hpx+1) hb bp n cap cv hv P Cq ux uy gi lk ρ∧ρ 30=.int .u32 (s:Nat) ∧
   St w2 [σ.d,σ.rd,be'] [blkR bp (rowK .u8 (byteAt acc) cap) 5,blkR be' (rowK .u32 (cached cc (acc.take cq)) (2 ^ cc)) 36,decR σ Rj] w') (acc.length - cp)
   ⟨cp,C,rfl,hcp,hC,by constructor <;> first | exact rfl | assumption,rfl,H⟩ ?_
  clear s0 s1 s13 s14 s17 s18 s19 s20 s21 s22 s23 s24 s25 s26 s27 s28 H hC hcp
  clear ρ
  rintro mm ρ w5 ⟨cq,Cq,rfl,hcq,hCq,⟨s0,s1,s13,s14,s17,s18,s19,s20,s21,s22,s23,s24,s25,s26,s27,s28⟩,h30,H⟩
  refine Cs (Cy (Lo O (YI (by assumption)) (Lo O (YI (by assumption)) (Lo O (Y.lss O O) (Lt ?_)))))
  by_cases hcl:cq<acc.length
  case neg =>
   obtain hcl2:cq=acc.length:=by omega
   rw [hcl2,List.take_length] at H
   obtain rfl:Cq=P:=by omega
   refine CF O (by omega) (Cx (thn_x (thn_x (blk_x (tn ?_)))))
   exact ⟨by constructor <;> first | exact rfl | assumption,h30,H⟩
  case pos =>
  obtain ⟨p,hp⟩:∃ p,p=acc.getD cq 0:=⟨_,rfl⟩
  have hpl:p<2 ^ 32:=by
   have:acc.getD cq 0=acc[cq]:=by simp [hcl]
   rw [hp,this]
   exact hp32 _ (List.getElem_mem hcl)
  have hb0:byteAt acc (Cq+0)=pR p:=by unfold byteAt;rw [hCq,show (4 * cq+0) / 4=cq by omega,show (4 * cq+0) % 4=0 by omega,← hp];rfl
  have hb1:byteAt acc (Cq+1)=pG p:=by unfold byteAt;rw [hCq,show (4 * cq+1) / 4=cq by omega,show (4 * cq+1) % 4=1 by omega,← hp];rfl
  have hb2:byteAt acc (Cq+2)=pB p:=by unfold byteAt;rw [hCq,show (4 * cq+2) / 4=cq by omega,show (4 * cq+2) % 4=2 by omega,← hp];rfl
  have hb3:byteAt acc (Cq+3)=pA p:=by unfold byteAt;rw [hCq,show (4 * cq+3) / 4=cq by omega,show (4 * cq+3) % 4=3 by omega,← hp];rfl
  have hor:=or_argb hpl
  have hA8:pA p<256:=Nat.mod_lt _ (by omega)
  have hR8:pR p<256:=Nat.mod_lt _ (by omega)
  have hG8:pG p<256:=Nat.mod_lt _ (by omega)
  have hB8:pB p<256:=Nat.mod_lt _ (by omega)
  obtain ⟨o1,ho1⟩:∃ o,o=pR p * 2 ^ 16 ||| pG p * 2 ^ 8:=⟨_,rfl⟩
  obtain ⟨o2,ho2⟩:∃ o,o=o1 ||| pB p * 2 ^ 0:=⟨_,rfl⟩
  have ho1l:o1<2 ^ 32:=by rw [ho1];exact Nat.or_lt_two_pow (by omega) (by omega)
  have ho2l:o2<2 ^ 32:=by rw [ho2];exact Nat.or_lt_two_pow (by omega) (by omega)
  rw [← ho1,← ho2] at hor
  have hta:=fun i => cached_take (cc:=cc) hcl i
  rw [← hp] at hta
  have hhl:=hashOf_lt (cc:=cc) (p:=p) hcc0 hcc
  have hhd:hashOf cc p=p * 506832829 % 4294967296 / 2 ^ (32 - cc):=rfl
  have s13':=s13
  rw [if_neg (by omega)] at s13'
  have s14':=s14
  rw [hcv] at s14'
  clear hp
  generalize pR p=cR at *
  generalize pG p=cG at *
  generalize pB p=cB at *
  generalize pA p=cA at *
  refine CT O (by omega) (Ck (tn (Cs (Cb (Cs (Cd mixedP (by kernel_rfl) ?_))))))
  intro w hsame
  replace H:=H.same hsame
  refine So O (YS (by assumption)) (So O (YI (by assumption)) (So O (Y.add O O (n64 (b:=0) (by omega))) (So O (Y.ixS0 _ sl_24 O O O (by omega)) (So O (Y.ld (v:=.int .u8 (cR:Nat)) ld_5 O (H.cell 0 O ((rowK_get (by omega)).trans (by rw [hb0])))) (So O (Y.cv int_5_36 O (wu32 (by omega))) (So O (Y.shl O O (by omega) (lu32 (b:=16) (by omega))) (So O (YS (by assumption)) (So O (YI (by assumption)) (So O (Y.add O O (n64 (b:=1) (by omega))) (So O (Y.ixS0 _ sl_24 O O O (by omega)) (So O (Y.ld (v:=.int .u8 (cG:Nat)) ld_5 O (H.cell 0 O ((rowK_get (by omega)).trans (by rw [hb1])))) (So O (Y.cv int_5_36 O (wu32 (by omega))) (So O (Y.shl O O (by omega) (lu32 (b:=8) (by omega))) (So O (Y.or (r:=(o1:Int)) O O (by rw [ho1];exact ou32 (by omega))) (So O (YS (by assumption)) (So O (YI (by assumption)) (So O (Y.add O O (n64 (b:=2) (by omega))) (So O (Y.ixS0 _ sl_24 O O O (by omega)) (So O (Y.ld (v:=.int .u8 (cB:Nat)) ld_5 O (H.cell 0 O ((rowK_get (by omega)).trans (by rw [hb2])))) ?_)))))))))))))))))))
  refine So O (Y.cv int_5_36 O (wu32 (by omega))) (So O (Y.shl O O (by omega) (lu32 (b:=0) (by omega))) (So O (Y.or (r:=(o2:Int)) O O (by rw [ho2];exact ou32 (by omega))) (So O (YS (by assumption)) (So O (YI (by assumption)) (So O (Y.add O O (n64 (b:=3) (by omega))) (So O (Y.ixS0 _ sl_24 O O O (by omega)) (So O (Y.ld (v:=.int .u8 (cA:Nat)) ld_5 O (H.cell 0 O ((rowK_get (by omega)).trans (by rw [hb3])))) (So O (Y.cv int_5_36 O (wu32 (by omega))) (So O (Y.shl O O (by omega) (lu32 (b:=24) (by omega))) (So O (Y.or (r:=(p:Int)) O O (by rw [← hor];exact ou32 (by omega))) (So O (AI O) (Sn (tn (Cr (Lo O (YS s14') (Lo O (YI O) (Lo O (Y.mul (r:=((p * 506832829 % 4294967296:Nat):Int)) O O (by rw [wu32m];omega)) (Lo O (YI s13') (Lo O (Y.shr (r:=(hashOf cc p:Nat)) O O (by omega) (by rw [hhd];exact shrK (k:=.u32) (b:=32 - cc) (by show 32 - cc≤32;omega))) ?_)))))))))))))))))))
  refine Lo O (YI O) (Lo O (Y.ixS0 (hashOf cc p) sl_22 O O O hhl) (VL.putR H 1 st_36 O O O hhl ?_))
  intro w H
  simp only [List.set] at H
  refine Ln (blk_n (tn ?_))
  rw [rowK_congr (f:=fun j => if j=hashOf cc p then p else cached cc (acc.take cq) j) (g:=cached cc (acc.take (cq+1))) (fun j _ => hta j)] at H
  refine Cr (Lo O (YI (by assumption)) (Lo O (Y.add O O (n64 (b:=4) (by omega))) (Lo O (AI O) (Lt ?_))))
  exact ⟨acc.length - (cq+1),by omega,cq+1,Cq+4,rfl,by omega,by omega,by constructor <;> first | exact rfl | assumption,h30,H⟩
 case refine_2 =>
 clear s0 s1 s13 s14 s17 s18 s19 s20 s21 s22 s23 s24 s25 s26 s27 s28 H
 clear ρ
 rintro ρ w5 ⟨⟨s0,s1,s13,s14,s17,s18,s19,s20,s21,s22,s23,s24,s25,s26,s27,s28⟩,h30,H⟩
 have s14':=s14
 rw [hcv] at s14'
 have hpx32:=cached_lt (cc:=cc) acc hp32 (s - 280)
 have hbn:=byteAt_new acc (cached cc acc (s - 280))
 rw [← hP] at hbn
 refine Cy (Lo O (YI (by assumption)) (Lo O (Y.sub O O (su32 (b:=280) (by omega))) (Lo O (AI O) (Lt (Cs (Cy (Lo O (YI O) (Lo O (Y.cv int_36_3 O (w64 (by omega))) (Lo O (YS s14') (Lo O (Y.len sl_22 O) (Lo O (Y.geq O O) (Lt (CF O (by omega) (Ck (tn (Cs ?_))))))))))))))))
 refine Cr (Lo O (YS s14') (Lo O (YI O) (Lo O (Y.ixS0 _ sl_22 O O O (by omega)) (Lo O (Y.ld ld_36 O (H.cell 1 O (rowK_get (j:=s - 280) hs2))) (Lo O (AI O) (Lt ?_))))))
 generalize cached cc acc (s - 280)=px0 at *
 refine Cy (Lo O (YS (by assumption)) (Lo O (YI (by assumption)) (Lo O (Y.add O O (n64 (b:=0) (by omega))) (Lo O (YI O) (Lo O (Y.shr O O (by omega) (shrK (k:=.u32) (b:=16) (by show _≤(32:Nat);omega))) (Lo O (Y.cv (r:=(pR px0:Nat)) int_36_5 O cu8) (Lo O (Y.ixS0 _ sl_24 O O O (by omega)) (VL.putR H 0 st_5 O O O (by omega) ?_))))))))
 intro w H
 try simp only [List.set,List.eraseIdx] at H
 refine Lt (Cy (Lo O (YS (by assumption)) (Lo O (YI (by assumption)) (Lo O (Y.add O O (n64 (b:=1) (by omega))) (Lo O (YI O) (Lo O (Y.shr O O (by omega) (shrK (k:=.u32) (b:=8) (by show _≤(32:Nat);omega))) (Lo O (Y.cv (r:=(pG px0:Nat)) int_36_5 O cu8) (Lo O (Y.ixS0 _ sl_24 O O O (by omega)) (VL.putR H 0 st_5 O O O (by omega) ?_)))))))))
 intro w H
 try simp only [List.set,List.eraseIdx] at H
 refine Lt (Cy (Lo O (YS (by assumption)) (Lo O (YI (by assumption)) (Lo O (Y.add O O (n64 (b:=2) (by omega))) (Lo O (YI O) (Lo O (Y.shr O O (by omega) (shrK (k:=.u32) (b:=0) (by show _≤(32:Nat);omega))) (Lo O (Y.cv (r:=(pB px0:Nat)) int_36_5 O (by rw [cu8,Nat.pow_zero,Nat.div_one];rfl)) (Lo O (Y.ixS0 _ sl_24 O O O (by omega)) (VL.putR H 0 st_5 O O O (by omega) ?_)))))))))
 intro w H
 try simp only [List.set,List.eraseIdx] at H
 refine Lt (Cy (Lo O (YS (by assumption)) (Lo O (YI (by assumption)) (Lo O (Y.add O O (n64 (b:=3) (by omega))) (Lo O (YI O) (Lo O (Y.shr O O (by omega) (shrK (k:=.u32) (b:=24) (by show _≤(32:Nat);omega))) (Lo O (Y.cv (r:=(pA px0:Nat)) int_36_5 O cu8) (Lo O (Y.ixS0 _ sl_24 O O O (by omega)) (VL.putR H 0 st_5 O O O (by omega) ?_)))))))))
 intro w H
 try simp only [List.set,List.eraseIdx] at H
 refine Lt ?_
 rw [rowK_congr (g:=byteAt (acc++[px0])) (fun j _ => hbn j),← cacheR_pos hcc0] at H
 obtain ⟨C1,hC1⟩:∃ C1,C1=P:=⟨_,rfl⟩
 obtain ⟨cp1,hcp1⟩:∃ cp1,cp1=acc.length:=⟨_,rfl⟩
 rw [← hC1] at s24
 rw [show cached cc acc=cached cc (acc.take cp1) by rw [hcp1,List.take_length]] at H
 refine Cy (Lo O (YI (by assumption)) (Lo O (Y.add O O (n64 (b:=4) (by omega))) (Lo O (AI O) (Lt (Cy (Lo O (YI (by assumption)) (Lo O (Y.add O O (n32 (b:=1) (by omega))) (Lo O (AI O) (Lt (Cs (Cy (Lo O (YI O) (Lo O (YI (by assumption)) (Lo O (Y.eql O O) (Ln ?_)))))))))))))))
 refine tn ?_
 refine VC.join (fun ρ w' => ∃ ux' uy',uy' * wd+ux'=acc.length+1∧ux'<wd∧(ux'=ux+1∨ux'=0)∧PSl σ wd cc bg (maxGroup hpx+1) hb bp n cap cv hv (P+4) C1 ux' uy' gi lk ρ∧w=w') ?_ ?_
 case refine_1 =>
  by_cases hwr:ux+1=wd
  case pos =>
   refine CT O (by omega) (Cr (Lo O (YI (by assumption)) (Lo O (Y.add O O (n32 (b:=1) (by omega))) (Lo O (AI O) (Lo O (AI O) (Lt ?_))))))
   exact ⟨0,uy+1,by rw [Nat.succ_mul];omega,by omega,.inr rfl,by constructor <;> first | exact rfl | assumption,rfl⟩
  case neg =>
   refine CF O (by omega) (Ck (tn ?_))
   exact ⟨ux+1,uy,by omega,by omega,.inl rfl,by constructor <;> first | exact rfl | assumption,rfl⟩
 case refine_2 =>
 clear h30 s14' s0 s1 s13 s14 s17 s18 s19 s20 s21 s22 s23 s24 s25 s26 s27 s28 ρ
 rintro ρ w' ⟨ux',uy',hXY',hX',hX2,⟨s0,s1,s13,s14,s17,s18,s19,s20,s21,s22,s23,s24,s25,s26,s27,s28⟩,rfl⟩
 have hlen1:(acc++[px0]).length=acc.length+1:=by simp
 have hp32':∀ p ∈ acc++[px0],p<2 ^ 32:=fun p hp => by
  rw [List.mem_append,List.mem_singleton] at hp
  rcases hp with hp | rfl
  ·exact hp32 p hp
  ·exact hpx32
 have hgn:(hb=0∨ux' % 2 ^ hb≠0)→gi=groupAt hb (tilesN wd hb) hpx wd (acc.length+1):=fun h => by
  rw [hgi']
  rcases Nat.eq_zero_or_pos hb with h0 | h0
  ·unfold groupAt;rw [if_pos h0,if_pos h0]
  ·have hne:ux'≠0:=fun e => by
    rcases h with h | h
    ·omega
    ·rw [e,Nat.zero_mod] at h;exact h rfl
   obtain rfl:ux'=ux+1:=by omega
   exact (groupAt_same hXY hX' h).symm
 by_cases hb0:hb=0
 case pos =>
  have hm0:=hmask.2 hb0
  rw [hm0] at s20
  refine Cr (Lo O (YI (by assumption)) (Lo O (Y.neqD O O (decide_eq_false (by omega))) (Lo O (Y.movB O) (VL.skipG O O O O O (VL.skipG O O O O O (VL.skipG O O O O O (VL.skipG O O O O O (Lo O (Y.pick O O) (Lo O (Y.asgB O) (Ln (blk_n (blk_n (tn ?_)))))))))))))
  rw [← hm0] at s20
  exact ⟨n - (acc++[px0]).length,by omega,k,acc++[px0],P+4,C1,ux',uy',cp1,gi,false,_,rfl,by omega,by omega,by omega,by omega,by omega,by omega,hX',hgi2,fun _ => rfl,fun _ _ => by rw [hlen1];exact hgn (.inl hb0),hp32',hdec,by constructor <;> first | exact rfl | assumption,by rw [List.take_append_of_le_length (by omega)];exact H⟩
 case neg =>
 have hm0:maskOf hb≠0:=fun h => hb0 (hmask.1 h)
 have hmk:maskOf hb=2 ^ hb - 1:=if_neg hb0
 have hp9:2 ^ hb≤2 ^ 9:=Nat.pow_le_pow_right (by omega) (by omega)
 have hand:ux' &&& maskOf hb=ux' % 2 ^ hb:=by rw [hmk,Nat.and_two_pow_sub_one_eq_mod]
 refine Cr (Lo O (YI (by assumption)) (Lo O (Y.neqD O O (decide_eq_true (by omega))) (Lo O (Y.movB O) (LG O O O O (YI (by assumption)) (LG O O O O (YI (by assumption)) (LG O O O O (Y.and (r:=(ux' % 2 ^ hb:Nat)) O O (by rw [← hand];exact a32 (by omega))) (LG O O O O (Y.eql O O) (Lo O (Y.pick O O) (Lo O (Y.asgB O) (Ln (blk_n (blk_n (tn ?_)))))))))))))
 exact ⟨n - (acc++[px0]).length,by omega,k,acc++[px0],P+4,C1,ux',uy',cp1,gi,decide (((ux' % 2 ^ hb:Nat):Int)=0),_,rfl,by omega,by omega,by omega,by omega,by omega,by omega,hX',hgi2,fun h => absurd h hb0,fun h _ => by
  rw [hlen1]
  exact hgn (.inr (by intro e;rw [e] at h;simp at h)),hp32',hdec,by constructor <;> first | exact rfl | assumption,by rw [List.take_append_of_le_length (by omega)];exact H⟩
theorem St.toDec {w0 w:World} {S:List Nat} {σ:Src} {R:Bits} {i nb:Nat} {pr:Int} (H:St w0 S (rdL σ R i nb pr) w) (hn:nb≤14) (hr:Reg σ.s R i nb):St w0 S [decR σ R] w:=by
 refine ⟨H.frm,?_,?_,?_,List.pairwise_singleton _ _⟩
 ·intro r hr'
  rw [List.mem_singleton] at hr'
  subst hr'
  exact decR_close H hn hr
 ·intro r hr'
  rw [List.mem_singleton] at hr'
  subst hr'
  exact decR_local _ _
 ·intro r hr' b hb
  rw [List.mem_singleton] at hr'
  subst hr'
  simp only [decR,List.mem_cons,List.not_mem_nil,or_false] at hb
  rcases hb with rfl | rfl
  ·exact H.own _ (List.mem_of_getElem? (i:=0) O) _ (by simp [blkR])
  ·exact H.own _ (List.mem_of_getElem? (i:=1) O) _ (by simp [blkR])
structure RIn (rd sb so cap:Nat) (s:List Nat) (w:World):Prop where
 gl:Gl w
 blk:Blk w rd [.slice (some ⟨sb,so,none⟩) s.length cap,.int .i64 0,.int .i64 (-1)] 80
 bytes:∀ j (h:j<s.length),w.cell? ⟨sb,so+j,none⟩=some (.int .u8 (s[j]:Nat))
 small:∀ c ∈ s,c<256
 len:s.length≤4611686018427387904
 sbl:sb<w.heap.size
 ne:nG≤rd∧sb≠rd
theorem RIn.ro {rd sb so cap d:Nat} {s:List Nat} {w:World} (h:RIn rd sb so cap s w) (hd:w.heap.size≤d):RO ⟨d,rd,sb,so,cap,s⟩ w :=
 ⟨h.gl,h.bytes,h.small,h.len,h.sbl,by have:=h.blk.lt;show d≠rd;omega,Nat.le_trans h.gl.high hd,h.ne.1,by have:=h.sbl;show sb≠d;omega,h.ne.2⟩
theorem header_good {R R':Bits} {q:Nat × Nat} (h:header R=some (q,R')):1≤q.1∧q.1≤16384∧1≤q.2∧q.2≤16384:=by
 have hrd:∀ {n v:Nat} {R R':Bits},rd n R=some (v,R')→v<2 ^ n:=fun {n v R R'} h => by
  unfold rd at h
  split at h
  ·simp only [Option.some.injEq,Prod.mk.injEq] at h
   obtain ⟨rfl,_⟩:=h
   exact val_take_lt R n
  ·cases h
 obtain ⟨m,R1,_,h⟩:=pb_some h
 split at h
 ·cases h
 ·obtain ⟨w,R2,h1,h⟩:=pb_some h
  obtain ⟨ht,R3,h2,h⟩:=pb_some h
  obtain ⟨_,R4,_,h⟩:=pb_some h
  obtain ⟨v,R5,_,h⟩:=pb_some h
  split at h
  ·cases h
  ·obtain ⟨rfl,_⟩:=ret_some h
   have:=hrd h1
   have:=hrd h2
   simp only
   omega
def HdrPost (rd sb so cap:Nat) (s:List Nat) (r:Option ((Nat × Nat) × Bits)) (w:World) (e:Ending) (w':World):Prop :=
 (∃ d wd ht R',r=some ((wd,ht),R')∧e=.returned (.tuple #[.pointer (some ⟨d,0,none⟩),.int .i32 (wd:Nat),.int .i32 (ht:Nat),.nilIface])∧w.heap.size≤d∧(decR ⟨d,rd,sb,so,cap,s⟩ R').pred w'∧Frm [rd] w w') ∨
 (r=none∧(∃ a,e=.returned (.tuple #[.pointer none,.int .i32 0,.int .i32 0,.iface 132 (.pointer (some a))]))∧Frm [rd] w w')
theorem header_any (rd sb so cap:Nat) (s:List Nat) (W:World) (I:RIn rd sb so cap s W) :
  Calls Tryd.prog 36 #[.iface 42 (.pointer (some ⟨rd,0,none⟩))] W (HdrPost rd sb so cap s (header (bitsOf s)) W):=by
 have H:St W [rd] [blkR rd [.slice (some ⟨sb,so,none⟩) s.length cap,.int .i64 0,.int .i64 (-1)] 80] W:=St.ofBlk I.blk
 obtain ⟨R,hR⟩:∃ R,R=bitsOf s:=⟨_,rfl⟩
 rw [← hR]
 have hdec:header R=pb (Go.Proofs.YtinkhckpckfajaaDoor.rd 8) (fun m => if m≠47 then no else pb (Go.Proofs.YtinkhckpckfajaaDoor.rd 14) fun w => pb (Go.Proofs.YtinkhckpckfajaaDoor.rd 14) fun h => pb (Go.Proofs.YtinkhckpckfajaaDoor.rd 1) fun _ => pb (Go.Proofs.YtinkhckpckfajaaDoor.rd 3) fun v => if v≠0 then no else ret (w+1,h+1)) R:=rfl
 refine enter (m:=80) Tryd.func36 O Tryd.ntmps36 O (Cy (Lo O (Y.asg O) (Lo O (AI O) (Lo O (AI O) (Lo O (Y.asg O) (Lt (Cy (Lo O (Y.mov O) (Lo O (Y.tas tas_123_42 O) (Lo O (Y.movT O) (Lo O (Y.ext O O) (Lo O (Y.ext O O) (Lo O (Y.asg O) (Lo O (Y.asgB O) (Lt ?_)))))))))))))))
 refine Cs (Cy (Lo O (Y.movB O) (Lo O (Y.not O) (Lt (CB O (fun h => nomatch h) (fun _ => (Ck (tn (Cy (Lo O (Y.mov O) (Lo O (Y.bld [.iface 42 (.pointer (some ⟨rd,0,none⟩)),.int .u32 0,.int .u32 0] O (by kernel_rfl)) (VL.box H (cs:=[.iface 42 (.pointer (some ⟨rd,0,none⟩)),.int .u32 0,.int .u32 0]) O O O ?_))))))))))))
 intro w d hd1 hd2 H
 refine Lo O (Y.asgP O) (Lt ?_)
 have ro:RO ⟨d,rd,sb,so,cap,s⟩ W:=I.ro hd2
 have hS:OkS ⟨d,rd,sb,so,cap,s⟩ [rd]:=⟨fun b hb => by simp at hb;subst hb;exact I.ne.1,by simpa using I.ne.2⟩
 replace H:St W [rd] (rdL ⟨d,rd,sb,so,cap,s⟩ R 0 0 (-1)) w:=H
 replace H:=H.toDec (by omega) ⟨Nat.zero_le _,Nat.zero_le _,by rw [hR];rfl⟩
 clear hR
 by_cases hR_:8≤R.length
 case neg =>
  rw [pb_no (rd_no (by omega))] at hdec
  refine Cy (Lo O (YP O) (VL.readNoS (k:=8) H 0 O ro hS (by omega) (by omega) O O O ?_))
  intro w a H
  refine Lo O (Y.movT O) (Lo O (Y.ext O O) (Lo O (Y.ext O O) (Lo O (AI O) (Lo O (Y.asg O) (Lt (Cs (Cy (Lo O (Y.mov O) (Lo O (Y.neqNilT ifc_47 O O) (Lt ?_))))))))))
  refine CB O (fun _ => ?_) (fun h => nomatch h)
  refine Cy (Lo O (Y.mov O) (Lo O (Y.asg O) (Lo O (AI O) (Lo O (AI O) (Lo O (Y.asg O) (Lt (Ct (thn_r ?_))))))))
  have hF:=H.frm
  exact Done.ret4 O O O O O (.inr ⟨hdec,⟨_,rfl⟩,hF⟩)
 case pos =>
 rw [pb_ok (rd_ok hR_)] at hdec
 have hm:val (R.take (8))<2 ^ (8):=val_take_lt R (8)
 refine Cy (Lo O (YP O) (VL.readOk (k:=8) H 0 O ro hS (by omega) hR_ O O O ?_))
 intro w H
 simp only [List.set] at H
 refine Lo O (Y.movT O) (Lo O (Y.ext O O) (Lo O (Y.ext O O) (Lo O (AI O) (Lo O (Y.asg O) (Lt ?_)))))
 generalize val (R.take (8))=m at *
 generalize R.drop (8)=R1 at *
 clear hR_
 refine Cs (Cy (Lo O (Y.mov O) (Lo O (Y.neqNilF ifc_47 O O) (Lt (CB O (fun h => nomatch h) (fun _ => (Ck (tn (Cs (Cy (Lo O (YI O) (Lo O (Y.neq O O) (Lt ?_)))))))))))))
 by_cases hm47:m=47
 case neg =>
  rw [if_pos hm47] at hdec
  refine CT O (by omega) (Cy (VL.errNew H O O ?_))
  intro w a H
  refine Lo O (Y.asg O) (Lo O (AI O) (Lo O (AI O) (Lo O (Y.asg O) (Lt (Ct (thn_r ?_))))))
  exact Done.ret4 O O O O O (.inr ⟨hdec,⟨_,rfl⟩,H.frm⟩)
 case pos =>
 rw [if_neg (by omega)] at hdec
 refine CF O (by omega) (Ck (tn ?_))
 by_cases hR_:14≤R1.length
 case neg =>
  rw [pb_no (rd_no (by omega))] at hdec
  refine Cy (Lo O (YP O) (VL.readNoS (k:=14) H 0 O ro hS (by omega) (by omega) O O O ?_))
  intro w a H
  refine Lo O (Y.movT O) (Lo O (Y.ext O O) (Lo O (Y.ext O O) (Lo O (AI O) (Lo O (Y.asg O) (Lt (Cs (Cy (Lo O (Y.mov O) (Lo O (Y.neqNilT ifc_47 O O) (Lt ?_))))))))))
  refine CB O (fun _ => ?_) (fun h => nomatch h)
  refine Cy (Lo O (Y.mov O) (Lo O (Y.asg O) (Lo O (AI O) (Lo O (AI O) (Lo O (Y.asg O) (Lt (Ct (thn_r ?_))))))))
  have hF:=H.frm
  exact Done.ret4 O O O O O (.inr ⟨hdec,⟨_,rfl⟩,hF⟩)
 case pos =>
 rw [pb_ok (rd_ok hR_)] at hdec
 have hwd:val (R1.take (14))<2 ^ (14):=val_take_lt R1 (14)
 refine Cy (Lo O (YP O) (VL.readOk (k:=14) H 0 O ro hS (by omega) hR_ O O O ?_))
 intro w H
 simp only [List.set] at H
 refine Lo O (Y.movT O) (Lo O (Y.ext O O) (Lo O (Y.ext O O) (Lo O (AI O) (Lo O (Y.asg O) (Lt ?_)))))
 generalize val (R1.take (14))=wd at *
 generalize R1.drop (14)=R2 at *
 clear hR_
 refine Cs (Cy (Lo O (Y.mov O) (Lo O (Y.neqNilF ifc_47 O O) (Lt (CB O (fun h => nomatch h) (fun _ => (Ck (tn (Cy (Lo O (YI O) (Lo O (Y.add O O (nu32 (b:=1) (by omega))) (Lo O (AI O) (Lt ?_)))))))))))))
 by_cases hR_:14≤R2.length
 case neg =>
  rw [pb_no (rd_no (by omega))] at hdec
  refine Cy (Lo O (YP O) (VL.readNoS (k:=14) H 0 O ro hS (by omega) (by omega) O O O ?_))
  intro w a H
  refine Lo O (Y.movT O) (Lo O (Y.ext O O) (Lo O (Y.ext O O) (Lo O (AI O) (Lo O (Y.asg O) (Lt (Cs (Cy (Lo O (Y.mov O) (Lo O (Y.neqNilT ifc_47 O O) (Lt ?_))))))))))
  refine CB O (fun _ => ?_) (fun h => nomatch h)
  refine Cy (Lo O (Y.mov O) (Lo O (Y.asg O) (Lo O (AI O) (Lo O (AI O) (Lo O (Y.asg O) (Lt (Ct (thn_r ?_))))))))
  have hF:=H.frm
  exact Done.ret4 O O O O O (.inr ⟨hdec,⟨_,rfl⟩,hF⟩)
 case pos =>
 rw [pb_ok (rd_ok hR_)] at hdec
 have hht:val (R2.take (14))<2 ^ (14):=val_take_lt R2 (14)
 refine Cy (Lo O (YP O) (VL.readOk (k:=14) H 0 O ro hS (by omega) hR_ O O O ?_))
 intro w H
 simp only [List.set] at H
 refine Lo O (Y.movT O) (Lo O (Y.ext O O) (Lo O (Y.ext O O) (Lo O (AI O) (Lo O (Y.asg O) (Lt ?_)))))
 generalize val (R2.take (14))=ht at *
 generalize R2.drop (14)=R3 at *
 clear hR_
 refine Cs (Cy (Lo O (Y.mov O) (Lo O (Y.neqNilF ifc_47 O O) (Lt (CB O (fun h => nomatch h) (fun _ => (Ck (tn (Cy (Lo O (YI O) (Lo O (Y.add O O (nu32 (b:=1) (by omega))) (Lo O (AI O) (Lt ?_)))))))))))))
 by_cases hR_:1≤R3.length
 case neg =>
  rw [pb_no (rd_no (by omega))] at hdec
  refine Cy (Lo O (YP O) (VL.readNoS (k:=1) H 0 O ro hS (by omega) (by omega) O O O ?_))
  intro w a H
  refine Lo O (Y.movT O) (Lo O (Y.ext O O) (Lo O (Y.ext O O) (Lo O (Y.asg O) (Lt (Cs (Cy (Lo O (Y.mov O) (Lo O (Y.neqNilT ifc_47 O O) (Lt ?_)))))))))
  refine CB O (fun _ => ?_) (fun h => nomatch h)
  refine Cy (Lo O (Y.mov O) (Lo O (Y.asg O) (Lo O (AI O) (Lo O (AI O) (Lo O (Y.asg O) (Lt (Ct (thn_r ?_))))))))
  have hF:=H.frm
  exact Done.ret4 O O O O O (.inr ⟨hdec,⟨_,rfl⟩,hF⟩)
 case pos =>
 rw [pb_ok (rd_ok hR_)] at hdec
 have hal:val (R3.take (1))<2 ^ (1):=val_take_lt R3 (1)
 refine Cy (Lo O (YP O) (VL.readOk (k:=1) H 0 O ro hS (by omega) hR_ O O O ?_))
 intro w H
 simp only [List.set] at H
 refine Lo O (Y.movT O) (Lo O (Y.ext O O) (Lo O (Y.ext O O) (Lo O (Y.asg O) (Lt ?_))))
 generalize val (R3.take (1))=al at *
 generalize R3.drop (1)=R4 at *
 clear hR_
 refine Cs (Cy (Lo O (Y.mov O) (Lo O (Y.neqNilF ifc_47 O O) (Lt (CB O (fun h => nomatch h) (fun _ => (Ck (tn ?_))))))))
 by_cases hR_:3≤R4.length
 case neg =>
  rw [pb_no (rd_no (by omega))] at hdec
  refine Cy (Lo O (YP O) (VL.readNoS (k:=3) H 0 O ro hS (by omega) (by omega) O O O ?_))
  intro w a H
  refine Lo O (Y.movT O) (Lo O (Y.ext O O) (Lo O (Y.ext O O) (Lo O (AI O) (Lo O (Y.asg O) (Lt (Cs (Cy (Lo O (Y.mov O) (Lo O (Y.neqNilT ifc_47 O O) (Lt ?_))))))))))
  refine CB O (fun _ => ?_) (fun h => nomatch h)
  refine Cy (Lo O (Y.mov O) (Lo O (Y.asg O) (Lo O (AI O) (Lo O (AI O) (Lo O (Y.asg O) (Lt (Ct (thn_r ?_))))))))
  have hF:=H.frm
  exact Done.ret4 O O O O O (.inr ⟨hdec,⟨_,rfl⟩,hF⟩)
 case pos =>
 rw [pb_ok (rd_ok hR_)] at hdec
 have hve:val (R4.take (3))<2 ^ (3):=val_take_lt R4 (3)
 refine Cy (Lo O (YP O) (VL.readOk (k:=3) H 0 O ro hS (by omega) hR_ O O O ?_))
 intro w H
 simp only [List.set] at H
 refine Lo O (Y.movT O) (Lo O (Y.ext O O) (Lo O (Y.ext O O) (Lo O (AI O) (Lo O (Y.asg O) (Lt ?_)))))
 generalize val (R4.take (3))=ve at *
 generalize R4.drop (3)=R5 at *
 clear hR_
 refine Cs (Cy (Lo O (Y.mov O) (Lo O (Y.neqNilF ifc_47 O O) (Lt (CB O (fun h => nomatch h) (fun _ => (Ck (tn (Cs (Cy (Lo O (YI O) (Lo O (Y.neq O O) (Lt ?_)))))))))))))
 by_cases hv0:ve=0
 case neg =>
  rw [if_pos hv0] at hdec
  refine CT O (by omega) (Cy (VL.errNew H O O ?_))
  intro w a H
  refine Lo O (Y.asg O) (Lo O (AI O) (Lo O (AI O) (Lo O (Y.asg O) (Lt (Ct (thn_r ?_))))))
  exact Done.ret4 O O O O O (.inr ⟨hdec,⟨_,rfl⟩,H.frm⟩)
 case pos =>
 rw [if_neg (by omega)] at hdec
 refine CF O (by omega) (Ck (tn (Cy (Lo O (YP O) (Lo O (YI O) (Lo O (Y.cv int_36_21 O (w32 (by omega))) (Lo O (YI O) (Lo O (Y.cv int_36_21 O (w32 (by omega))) (Lo O (Y.asgP O) (Lo O (AI O) (Lo O (AI O) (Lo O (Y.asg O) (Lt (Ct ?_))))))))))))))
 exact Done.ret4 O O O O O (.inl ⟨d,wd+1,ht+1,R5,hdec,rfl,hd2,H.get (i:=0) rfl,H.frm⟩)
end Go.Proofs.YtinkhckpckfajaaDoor
namespace Go.Proofs.YtinkhckpckfajaaDoor
section
variable {f:List Nat→Nat→Nat}
theorem scan_append (f:List Nat→Nat→Nat):∀ (l m acc:List Nat),scan f acc (l++m)=scan f (scan f acc l) m
 | [],m,acc => rfl
 | p :: l,m,acc => scan_append f l m _
theorem scan_length (f:List Nat→Nat→Nat):∀ (l acc:List Nat),(scan f acc l).length=acc.length+l.length
 | [],acc => rfl
 | p :: l,acc => by rw [scan,scan_length f l];simp;omega
theorem scan_all {P:Nat→Prop} (hf:∀ acc p,P p→P (f acc p)):∀ (l acc:List Nat),(∀ p ∈ l,P p)→(∀ p ∈ acc,P p)→∀ p ∈ scan f acc l,P p
 | [],acc,hl,ha => ha
 | q :: l,acc,hl,ha => scan_all hf l _ (fun p hp => hl p (List.mem_cons_of_mem _ hp)) fun p hp => by
  rw [List.mem_append,List.mem_singleton] at hp
  rcases hp with hp | rfl
  ·exact ha p hp
  ·exact hf acc q (hl q (by simp))
def made (f:List Nat→Nat→Nat) (l:List Nat) (i:Nat):List Nat:=scan f [] (l.take i)
def mix (f:List Nat→Nat→Nat) (l:List Nat) (i:Nat):List Nat:=made f l i++l.drop i
theorem made_length {l:List Nat} {i:Nat} (h:i≤l.length):(made f l i).length=i:=by unfold made;rw [scan_length];simp;omega
theorem made_succ {l:List Nat} {i:Nat} (h:i<l.length):made f l (i+1)=made f l i++[f (made f l i) (l.getD i 0)]:=by
 unfold made
 rw [List.take_succ_eq_append_getElem h,scan_append]
 simp [scan,h]
theorem made_zero (l:List Nat):made f l 0=[]:=rfl
theorem made_all (l:List Nat):made f l l.length=scan f [] l:=by unfold made;rw [List.take_length]
theorem mix_length {l:List Nat} {i:Nat} (h:i≤l.length):(mix f l i).length=l.length:=by
 unfold mix;rw [List.length_append,made_length h,List.length_drop];omega
theorem mix_zero (l:List Nat):mix f l 0=l:=by simp [mix,made,scan]
theorem mix_all (l:List Nat):mix f l l.length=scan f [] l:=by simp [mix,made_all]
theorem mix_lt {l:List Nat} {i j:Nat} (h:i≤l.length) (hj:j<i):(mix f l i).getD j 0=(made f l i).getD j 0:=by
 unfold mix
 rw [List.getD_eq_getElem?_getD,List.getElem?_append_left (by rw [made_length h];exact hj),← List.getD_eq_getElem?_getD]
theorem mix_ge {l:List Nat} {i j:Nat} (h:i≤l.length) (hj:i≤j):(mix f l i).getD j 0=l.getD j 0:=by
 unfold mix
 rw [List.getD_eq_getElem?_getD,List.getElem?_append_right (by rw [made_length h];exact hj),made_length h,List.getElem?_drop,show i+(j - i)=j by omega,← List.getD_eq_getElem?_getD]
theorem mix_step {l:List Nat} {i:Nat} (h:i<l.length):(mix f l i).set i (f (made f l i) (l.getD i 0))=mix f l (i+1):=by
 unfold mix
 have hl:(made f l i).length=i:=made_length (by omega)
 rw [List.set_append_right _ _ (by omega),hl,Nat.sub_self,made_succ h,List.drop_eq_getElem_cons h,List.set_cons_zero,List.append_assoc]
 rfl
end
theorem mix_one {f:List Nat→Nat→Nat} (h:∀ p,f [] p=p) {l:List Nat} (hl:0<l.length):mix f l 1=l:=by
 have:=mix_step (f:=f) hl
 rw [mix_zero,made_zero,h] at this
 rw [← this]
 cases l with
 | nil => simp at hl
 | cons a r => simp
theorem byteAt_set {l:List Nat} {i:Nat} (h:i<l.length) (p j:Nat):byteAt (l.set i p) j=if j=4 * i+3 then pA p else if j=4 * i+2 then pB p else if j=4 * i+1 then pG p else if j=4 * i+0 then pR p else byteAt l j:=by
 by_cases hi:j / 4=i
 ·have e:byteAt (l.set i p) j=chan p (j % 4):=by
   unfold byteAt
   rw [hi]
   simp [h]
  rw [e]
  have:j=4 * i+0∨j=4 * i+1∨j=4 * i+2∨j=4 * i+3:=by omega
  rcases this with h | h | h | h
  ·rw [if_neg (by omega),if_neg (by omega),if_neg (by omega),if_pos h,show j % 4=0 by omega];rfl
  ·rw [if_neg (by omega),if_neg (by omega),if_pos h,show j % 4=1 by omega];rfl
  ·rw [if_neg (by omega),if_pos h,show j % 4=2 by omega];rfl
  ·rw [if_pos h,show j % 4=3 by omega];rfl
 ·rw [if_neg (by omega),if_neg (by omega),if_neg (by omega),if_neg (by omega)]
  unfold byteAt
  simp [List.getD_eq_getElem?_getD,List.getElem?_set_ne (Ne.symm hi)]
theorem byteAt_0 (l:List Nat) (i:Nat):byteAt l (4 * i+0)=pR (l.getD i 0):=by
 unfold byteAt;rw [show (4 * i+0) / 4=i by omega,show (4 * i+0) % 4=0 by omega];rfl
theorem byteAt_1 (l:List Nat) (i:Nat):byteAt l (4 * i+1)=pG (l.getD i 0):=by
 unfold byteAt;rw [show (4 * i+1) / 4=i by omega,show (4 * i+1) % 4=1 by omega];rfl
theorem byteAt_2 (l:List Nat) (i:Nat):byteAt l (4 * i+2)=pB (l.getD i 0):=by
 unfold byteAt;rw [show (4 * i+2) / 4=i by omega,show (4 * i+2) % 4=2 by omega];rfl
theorem byteAt_3 (l:List Nat) (i:Nat):byteAt l (4 * i+3)=pA (l.getD i 0):=by
 unfold byteAt;rw [show (4 * i+3) / 4=i by omega,show (4 * i+3) % 4=3 by omega];rfl
theorem parts_lt (p:Nat):pA p<256∧pR p<256∧pG p<256∧pB p<256:=⟨Nat.mod_lt _ (by omega),Nat.mod_lt _ (by omega),Nat.mod_lt _ (by omega),Nat.mod_lt _ (by omega)⟩
theorem addPx_parts (p q:Nat):pA (addPx p q)=(pA p+pA q) % 256∧pR (addPx p q)=(pR p+pR q) % 256∧pG (addPx p q)=(pG p+pG q) % 256∧pB (addPx p q)=(pB p+pB q) % 256∧addPx p q<2 ^ 32 :=
 argb_parts (Nat.mod_lt _ (by omega)) (Nat.mod_lt _ (by omega)) (Nat.mod_lt _ (by omega)) (Nat.mod_lt _ (by omega))
end Go.Proofs.YtinkhckpckfajaaDoor
set_option maxHeartbeats 4000000
namespace Go.Proofs.YtinkhckpckfajaaDoor
open Go
def TrV (B:Nat) (w:World) (t:Tr) (pv:Value):Prop :=
 (t.kind=2∧pv=.slice none 0 0)∨(t.kind≠2∧∃ b len cap,pv=.slice (some ⟨b,0,none⟩) len cap∧len≤cap∧B≤b∧Blk w b (rowK .u8 (byteAt t.px) cap) 5∧4 * t.px.length≤len∧(t.kind=3→len=1024))
theorem TrV.keep {B:Nat} {w w':World} {t:Tr} {pv:Value} {S:List Nat} (h:TrV B w t pv) (hf:Frm S w w') (hS:∀ s ∈ S,s<B):TrV B w' t pv:=by
 rcases h with h | ⟨h0,b,len,cap,h1,h2,h3,h4,h5⟩
 ·exact .inl h
 ·exact .inr ⟨h0,b,len,cap,h1,h2,h3,hf.blk h4 fun hm => by have:=hS _ hm;omega,h5⟩
theorem TrV.low {B B':Nat} {w:World} {t:Tr} {pv:Value} (h:TrV B w t pv) (hB:B'≤B):TrV B' w t pv:=by
 rcases h with h | ⟨h0,b,len,cap,h1,h2,h3,h4,h5⟩
 ·exact .inl h
 ·exact .inr ⟨h0,b,len,cap,h1,h2,Nat.le_trans hB h3,h4,h5⟩
structure TrOk (ht:Nat) (t:Tr):Prop where
 kind:t.kind≤3
 wd:1≤t.wd∧t.wd≤16384
 tile:t.kind≤1→2≤t.bits∧t.bits≤9∧t.px.length=tilesN t.wd t.bits * tilesN ht t.bits
 index:t.kind=3→t.bits≤3∧t.px.length≤256
 px:∀ p ∈ t.px,p<2 ^ 32
def TrPost (σ:Src) (ht:Nat) (r:Option ((Tr × Nat) × Bits)) (w:World) (e:Ending) (w':World):Prop :=
 (∃ t nw R' pv,r=some ((t,nw),R')∧e=.returned (.tuple #[.agg #[.int .u32 (t.kind:Nat),.int .i32 (t.wd:Nat),.int .u32 (t.bits:Nat),pv],.int .i32 (nw:Nat),.nilIface])∧TrV w.heap.size w' t pv∧TrOk ht t∧1≤nw∧nw≤16384∧(decR σ R').pred w'∧Frm [σ.d,σ.rd] w w') ∨
 (r=none∧(∃ a,e=.returned (.tuple #[.agg #[.int .u32 0,.int .i32 0,.int .u32 0,.slice none 0 0],.int .i32 0,.iface 132 (.pointer (some a))]))∧Frm [σ.d,σ.rd] w w')
def sumF (acc:List Nat) (p:Nat):Nat:=if acc.length=0 then p else addPx p (acc.getD (acc.length - 1) 0)
theorem sums_eq (l:List Nat):sums l=scan sumF [] l:=rfl
theorem shorterN_le (n:Nat):shorterN n≤3:=by
 unfold shorterN
 split
 ·omega
 ·split
  ·omega
  ·split <;> omega
theorem trans_any (OK:PixOK false) (σ:Src) (R:Bits) (W:World) (wd ht:Nat) (D:(decR σ R).pred W) (ro:RO σ W) (hw:1≤wd) (hw2:wd≤16384) (hh:1≤ht) (hh2:ht≤16384) :
  Calls Tryd.prog 38 #[.pointer (some ⟨σ.d,0,none⟩),.int .i32 (wd:Nat),.int .i32 (ht:Nat)] W (TrPost σ ht (decTr wd ht R) W):=by
 have hS:=ro.okS
 have H:St W [σ.d,σ.rd] [decR σ R] W:=St.one D (decR_local σ R) (by simp [decR])
 have hdW:∀ s ∈ [σ.d,σ.rd],s<W.heap.size:=fun s hs => (decR_local σ R).2 W D s hs
 have hdec:decTr wd ht R=pb (rd 2) (fun k => if k≤1 then pb (rd 3) fun b => pb (decSub (tilesN wd (b+2)) (tilesN ht (b+2))) fun px => ret (⟨k,wd,b+2,px⟩,wd)
  else if k=2 then ret (⟨2,wd,0,[]⟩,wd)
  else pb (rd 8) fun n => pb (decSub (n+1) 1) fun px => ret (⟨3,wd,shorterN (n+1),sums px⟩,tilesN wd (shorterN (n+1)))) R:=rfl
 refine enter (m:=164) Tryd.func38 O Tryd.ntmps38 O (Cy (VL.alloc H zer_87 O ?_))
 intro w b6 hn6 hb6 H
 refine Lo O (AI O) (Lo O (Y.asg O) (Lt (Cy (Lo O (YI O) (Lo O (Y.fa fa_87_1 O) (VL.putI H 0 st_21 O O O O ?_))))))
 intro w H
 try simp only [List.set,List.eraseIdx] at H
 refine Lt ?_
 by_cases hR_:2≤R.length
 case neg =>
  rw [pb_no (rd_no (by omega))] at hdec
  refine Cy (Lo O (YP O) (VL.readNoS (k:=2) H 1 O ro hS (by omega) (by omega) O O O ?_))
  intro w a H
  refine Lo O (Y.movT O) (Lo O (Y.ext O O) (Lo O (Y.ext O O) (Lo O (Y.fa fa_87_0 O) (VL.putI H 0 st_36 O O O O ?_))))
  intro w H
  try simp only [List.set,List.eraseIdx] at H
  refine Lo O (Y.asg O) (Lt (Cs (Cy (Lo O (Y.mov O) (Lo O (Y.neqNilT ifc_47 O O) (Lt ?_))))))
  refine CB O (fun _ => ?_) (fun h => nomatch h)
  refine Cy (Lo O (Y.zeroS bz_87) (Lo O (Y.mov O) (VL.putW H 0 stn_87 O O O O O (by decide) ?_)))
  intro w H
  try simp only [List.set,List.eraseIdx] at H
  refine Lo O (AI O) (Lo O (Y.asg O) (Lt (Ct (thn_r ?_))))
  have hF:=H.frm
  exact Done.retC3 (cs:=[.int .u32 0,.int .i32 0,.int .u32 0,.slice none 0 0]) O ldn_87 O O (fun j hj => by rw [Nat.zero_add];exact (H.blk (i:=0) O).cell j) O O (.inr ⟨hdec,⟨_,rfl⟩,hF⟩)
 case pos =>
 rw [pb_ok (rd_ok hR_)] at hdec
 have hk:val (R.take (2))<2 ^ (2):=val_take_lt R (2)
 refine Cy (Lo O (YP O) (VL.readOk (k:=2) H 1 O ro hS (by omega) hR_ O O O ?_))
 intro w H
 simp only [List.set] at H
 refine Lo O (Y.movT O) (Lo O (Y.ext O O) (Lo O (Y.ext O O) (Lo O (Y.fa fa_87_0 O) (VL.putI H 0 st_36 O O O O ?_))))
 intro w H
 try simp only [List.set,List.eraseIdx] at H
 refine Lo O (Y.asg O) (Lt ?_)
 generalize val (R.take (2))=k at *
 generalize R.drop (2)=R1 at *
 clear hR_
 refine Cs (Cy (Lo O (Y.mov O) (Lo O (Y.neqNilF ifc_47 O O) (Lt (CB O (fun h => nomatch h) (fun _ => (Ck (tn (Cs (Cy (Lo O (Y.fa fa_87_0 O) (Lo O (Y.ld ld_36 O (H.cell 0 O O)) (Lt (Cb (Cs (Cy (Lo O (Y.eqlD (b:=decide (k=0)) O O (decide_eq_decide.2 (by omega))) (Lo O (Y.asgB O) ?_))))))))))))))))))
 refine Lt ?_
 refine VC.join (fun ρ w' => ρ 0=.pointer (some ⟨σ.d,0,none⟩)∧ρ 1=.int .i32 (wd:Nat)∧ρ 2=.int .i32 (ht:Nat)∧ρ 6=.pointer (some ⟨b6,0,none⟩)∧ρ 26=.int .u32 (k:Nat)∧ρ 27=.bool (decide (k≤1))∧w=w') ?_ ?_
 case refine_1 =>
  by_cases h0:k=0
  case pos =>
   refine CT O (by omega) (Ck (tn ?_))
   exact ⟨rfl,rfl,rfl,rfl,rfl,congrArg Value.bool (decide_eq_decide.2 (by omega)),rfl⟩
  case neg =>
   refine CF O (by omega) (Cr (Lo O (Y.eqlD (b:=decide (k=1)) O O (decide_eq_decide.2 (by omega))) (Lo O (Y.asgB O) (Lt ?_))))
   exact ⟨rfl,rfl,rfl,rfl,rfl,congrArg Value.bool (decide_eq_decide.2 (by omega)),rfl⟩
 case refine_2 =>
 rintro ρ w' ⟨h0,h1,h2,h6,h26,h27,rfl⟩
 by_cases hk1:k≤1
 case pos =>
  rw [if_pos hk1] at hdec
  refine CT h27 hk1 ?_
  by_cases hR_:3≤R1.length
  case neg =>
   rw [pb_no (rd_no (by omega))] at hdec
   refine Cy (Lo O (YP (by assumption)) (VL.readNoS (k:=3) H 1 O ro hS (by omega) (by omega) O O O ?_))
   intro w a H
   refine Lo O (Y.movT O) (Lo O (Y.ext O O) (Lo O (Y.ext O O) (Lo O (Y.fa fa_87_2 (by assumption)) (VL.putI H 0 st_36 O O O O ?_))))
   intro w H
   try simp only [List.set,List.eraseIdx] at H
   refine Lo O (Y.asg O) (Lt (Cs (Cy (Lo O (Y.mov O) (Lo O (Y.neqNilT ifc_47 O O) (Lt ?_))))))
   refine CB O (fun _ => ?_) (fun h => nomatch h)
   refine Cy (Lo O (Y.zeroS bz_87) (Lo O (Y.mov O) (VL.putW H 0 stn_87 (by assumption) O O O O (by decide) ?_)))
   intro w H
   try simp only [List.set,List.eraseIdx] at H
   refine Lo O (AI O) (Lo O (Y.asg O) (Lt (Ct (thn_r (blk_r (thn_r ?_))))))
   have hF:=H.frm
   exact Done.retC3 (cs:=[.int .u32 0,.int .i32 0,.int .u32 0,.slice none 0 0]) O ldn_87 h6 O (fun j hj => by rw [Nat.zero_add];exact (H.blk (i:=0) O).cell j) O O (.inr ⟨hdec,⟨_,rfl⟩,hF⟩)
  case pos =>
  rw [pb_ok (rd_ok hR_)] at hdec
  have hb:val (R1.take (3))<2 ^ (3):=val_take_lt R1 (3)
  refine Cy (Lo O (YP (by assumption)) (VL.readOk (k:=3) H 1 O ro hS (by omega) hR_ O O O ?_))
  intro w H
  simp only [List.set] at H
  refine Lo O (Y.movT O) (Lo O (Y.ext O O) (Lo O (Y.ext O O) (Lo O (Y.fa fa_87_2 (by assumption)) (VL.putI H 0 st_36 O O O O ?_))))
  intro w H
  try simp only [List.set,List.eraseIdx] at H
  refine Lo O (Y.asg O) (Lt ?_)
  generalize val (R1.take (3))=b at *
  generalize R1.drop (3)=R2 at *
  clear hR_
  refine Cs (Cy (Lo O (Y.mov O) (Lo O (Y.neqNilF ifc_47 O O) (Lt (CB O (fun h => nomatch h) (fun _ => (Ck (tn (Cy (Lo O (Y.fa fa_87_2 (by assumption)) (Lo O (Y.ld ld_36 O (H.cell 0 O O)) (Lo O (Y.add O O (nu32 (b:=2) (by omega))) (Lo O (Y.fa fa_87_2 (by assumption)) (VL.putI H 0 st_36 O O O O ?_))))))))))))))
  intro w H
  try simp only [List.set,List.eraseIdx] at H
  refine Lt ?_
  obtain ⟨ht1,ht2⟩:=tilesN_le (b:=b+2) hw
  obtain ⟨hu1,hu2⟩:=tilesN_le (b:=b+2) hh
  replace H:St W [σ.d,σ.rd] [blkR b6 [.int .u32 (k:Nat),.int .i32 (wd:Nat),.int .u32 ((b+2:Nat):Int),.slice none 0 0] 87,decR σ R2] _:=H
  cases hds:decSub (tilesN wd (b+2)) (tilesN ht (b+2)) R2
  case none =>
   rw [pb_no hds] at hdec
   refine Cs ?_
   refine VC.held ((fun w => w.cell? ⟨b6,0+2,none⟩=some (.int .u32 ((b+2:Nat):Int)))) mixedP (by with_reducible repeat (first | refine NoP.thn ?_ | refine NoP.blk ?_ | refine NoP.jmp ?_ | refine NoP.nojmp ?_ | exact NoP.done)) ?_
   intro w hsame
   replace H:=H.same hsame
   refine Ht 0 O (by kernel_rfl) (by kernel_rfl) (by kernel_rfl) O (H.cell 0 O O) (fun w hI => YP (by assumption)) (Ht 1 O (by kernel_rfl) (by kernel_rfl) (by kernel_rfl) O (H.cell 0 O O) (fun w hI => YI (by assumption)) (Ht 2 O (by kernel_rfl) (by kernel_rfl) (by kernel_rfl) O (H.cell 0 O O) (fun w hI => Y.fa fa_87_2 (by assumption)) (Ht 3 O (by kernel_rfl) (by kernel_rfl) (by kernel_rfl) O (H.cell 0 O O) (fun w hI => Y.ld ld_36 O hI) (Ht 5 O (by kernel_rfl) (by kernel_rfl) (by kernel_rfl) O (H.cell 0 O O) (fun w hI => YI (by assumption)) (Ht 6 O (by kernel_rfl) (by kernel_rfl) (by kernel_rfl) O (H.cell 0 O O) (fun w hI => Y.fa fa_87_2 (by assumption)) (Ht 7 O (by kernel_rfl) (by kernel_rfl) (by kernel_rfl) O (H.cell 0 O O) (fun w hI => Y.ld ld_36 O hI) (VH.callP 4 O (by kernel_rfl) O ent_55 (nTiles_any _ wd (b+2) hw (by omega) (by omega)) O (H.cell 0 O O) (VH.callP 8 O (by kernel_rfl) O ent_55 (nTiles_any _ ht (b+2) hh (by omega) (by omega)) O (H.cell 0 O O) ?_))))))))
   have hcl:=True.intro
   refine VH.call 9 O (by kernel_rfl) O ent_40 (OK σ R2 _ (tilesN wd (b+2)) (tilesN ht (b+2)) 0 (H.get (i:=1) O) (ro.frm H hS) ht1 (by omega) hu1 (by omega) (by omega)) O ?_
   intro e w2 hP
   rcases hP with ⟨px',R3',bp,hr,_⟩ | ⟨hr,⟨a,rfl⟩,hf⟩
   ·rw [show decPix false (tilesN wd (b+2)) (tilesN ht (b+2)) R2=decSub (tilesN wd (b+2)) (tilesN ht (b+2)) R2 from rfl,hds] at hr;cases hr
   replace H:=H.lost (i:=1) rfl hf
   simp only [List.eraseIdx] at H
   refine ⟨_,rfl,H.cell 0 O rfl,?_⟩
   refine Ht 10 O (by kernel_rfl) (by kernel_rfl) (by kernel_rfl) O (H.cell 0 O O) (fun w hI => Y.movT O) (Ht 11 O (by kernel_rfl) (by kernel_rfl) (by kernel_rfl) O (H.cell 0 O O) (fun w hI => Y.ext O O) (Ht 12 O (by kernel_rfl) (by kernel_rfl) (by kernel_rfl) O (H.cell 0 O O) (fun w hI => Y.ext O O) (Ht 13 O (by kernel_rfl) (by kernel_rfl) (by kernel_rfl) O (H.cell 0 O O) (fun w hI => Y.fa fa_87_3 (by assumption)) (VH.putG 14 O (by kernel_rfl) H 0 st_24 O O O O O ?_))))
   intro w3 hf3 H
   simp only [List.set] at H
   refine ⟨H.cell 0 O rfl,?_⟩
   refine Ht 15 O (by kernel_rfl) (by kernel_rfl) (by kernel_rfl) O (H.cell 0 O O) (fun w hI => Y.asg O) (VH.nil (by kernel_rfl) (tn (Cy (Lo O (Y.mov O) (Lo O (Y.neqNilT ifc_47 O O) (Lt ?_))))))
   refine CB O (fun _ => ?_) (fun h => nomatch h)
   refine Cy (Lo O (Y.zeroS bz_87) (Lo O (Y.mov O) (VL.putW H 0 stn_87 (by assumption) O O O O (by decide) ?_)))
   intro w H
   try simp only [List.set,List.eraseIdx] at H
   refine Lo O (AI O) (Lo O (Y.asg O) (Lt (Ct (blk_r (thn_r ?_)))))
   exact Done.retC3 (cs:=[.int .u32 0,.int .i32 0,.int .u32 0,.slice none 0 0]) O ldn_87 h6 O (fun j hj => by rw [Nat.zero_add];exact (H.blk (i:=0) O).cell j) O O (.inr ⟨hdec,⟨_,rfl⟩,H.frm⟩)
  case some q =>
  obtain ⟨px,R3⟩:=q
  rw [pb_ok hds] at hdec
  refine Cs ?_
  refine VC.held ((fun w => w.cell? ⟨b6,0+2,none⟩=some (.int .u32 ((b+2:Nat):Int)))) mixedP (by with_reducible repeat (first | refine NoP.thn ?_ | refine NoP.blk ?_ | refine NoP.jmp ?_ | refine NoP.nojmp ?_ | exact NoP.done)) ?_
  intro w hsame
  replace H:=H.same hsame
  refine Ht 0 O (by kernel_rfl) (by kernel_rfl) (by kernel_rfl) O (H.cell 0 O O) (fun w hI => YP (by assumption)) (Ht 1 O (by kernel_rfl) (by kernel_rfl) (by kernel_rfl) O (H.cell 0 O O) (fun w hI => YI (by assumption)) (Ht 2 O (by kernel_rfl) (by kernel_rfl) (by kernel_rfl) O (H.cell 0 O O) (fun w hI => Y.fa fa_87_2 (by assumption)) (Ht 3 O (by kernel_rfl) (by kernel_rfl) (by kernel_rfl) O (H.cell 0 O O) (fun w hI => Y.ld ld_36 O hI) (Ht 5 O (by kernel_rfl) (by kernel_rfl) (by kernel_rfl) O (H.cell 0 O O) (fun w hI => YI (by assumption)) (Ht 6 O (by kernel_rfl) (by kernel_rfl) (by kernel_rfl) O (H.cell 0 O O) (fun w hI => Y.fa fa_87_2 (by assumption)) (Ht 7 O (by kernel_rfl) (by kernel_rfl) (by kernel_rfl) O (H.cell 0 O O) (fun w hI => Y.ld ld_36 O hI) (VH.callP 4 O (by kernel_rfl) O ent_55 (nTiles_any _ wd (b+2) hw (by omega) (by omega)) O (H.cell 0 O O) (VH.callP 8 O (by kernel_rfl) O ent_55 (nTiles_any _ ht (b+2) hh (by omega) (by omega)) O (H.cell 0 O O) ?_))))))))
  have hcl:=True.intro
  refine VH.call 9 O (by kernel_rfl) O ent_40 (OK σ R2 _ (tilesN wd (b+2)) (tilesN ht (b+2)) 0 (H.get (i:=1) O) (ro.frm H hS) ht1 (by omega) hu1 (by omega) (by omega)) O ?_
  intro e w2 hP
  rcases hP with ⟨px',R3',bp,hr,rfl,hlen,hp32,hd2,hnew,hbp,hf⟩ | ⟨hr,_⟩
  rotate_left
  ·rw [show decPix false (tilesN wd (b+2)) (tilesN ht (b+2)) R2=decSub (tilesN wd (b+2)) (tilesN ht (b+2)) R2 from rfl,hds] at hr;cases hr
  rw [show decPix false (tilesN wd (b+2)) (tilesN ht (b+2)) R2=decSub (tilesN wd (b+2)) (tilesN ht (b+2)) R2 from rfl,hds] at hr
  obtain ⟨rfl,rfl⟩:=Prod.mk.inj (Option.some.inj hr)
  have hnewW:W.heap.size≤bp:=Nat.le_trans H.high hnew
  replace H:=H.grow (i:=1) rfl hf hd2 (decR_local σ R3) rfl hbp hnew
  simp only [List.set] at H
  refine ⟨_,rfl,H.cell 1 O rfl,?_⟩
  refine Ht 10 O (by kernel_rfl) (by kernel_rfl) (by kernel_rfl) O (H.cell 1 O O) (fun w hI => Y.movT O) (Ht 11 O (by kernel_rfl) (by kernel_rfl) (by kernel_rfl) O (H.cell 1 O O) (fun w hI => Y.ext O O) (Ht 12 O (by kernel_rfl) (by kernel_rfl) (by kernel_rfl) O (H.cell 1 O O) (fun w hI => Y.ext O O) (Ht 13 O (by kernel_rfl) (by kernel_rfl) (by kernel_rfl) O (H.cell 1 O O) (fun w hI => Y.fa fa_87_3 (by assumption)) (VH.putG 14 O (by kernel_rfl) H 1 st_24 O O O O O ?_))))
  intro w3 hf3 H
  simp only [List.set] at H
  refine ⟨H.cell 1 O rfl,?_⟩
  refine Ht 15 O (by kernel_rfl) (by kernel_rfl) (by kernel_rfl) O (H.cell 1 O O) (fun w hI => Y.asg O) (VH.nil (by kernel_rfl) (tn (Cy (Lo O (Y.mov O) (Lo O (Y.neqNilF ifc_47 O O) (Lt (CB O (fun h => nomatch h) (fun _ => (Ck (blk_n (tn ?_)))))))))))
  rw [Nat.zero_max,← hlen] at H
  refine Cy (Lo O (Y.ldn (cs:=[.int .u32 (k:Nat),.int .i32 (wd:Nat),.int .u32 ((b+2:Nat):Int),.slice (some ⟨bp,0,none⟩) (4 * px.length) (4 * px.length)]) ldn_87 h6 O (fun j hj => by rw [Nat.zero_add];exact (H.blk (i:=1) O).cell j)) (Lo O (YI (by assumption)) (VL.putW H 1 stn_87 (by assumption) O O O O (by simp [Value.oneCell']) ?_)))
  intro w H
  try simp only [List.set,List.eraseIdx] at H
  refine Lo O (AI O) (Lo O (Y.asg O) (Lt (Ct ?_)))
  exact Done.retC3 (cs:=[.int .u32 (k:Nat),.int .i32 (wd:Nat),.int .u32 ((b+2:Nat):Int),.slice (some ⟨bp,0,none⟩) (4 * px.length) (4 * px.length)]) O ldn_87 h6 O (fun j hj => by rw [Nat.zero_add];exact (H.blk (i:=1) O).cell j) O O
   (.inl ⟨⟨k,wd,b+2,px⟩,wd,R3,_,hdec,rfl,.inr ⟨by show k≠2;omega,bp,_,_,rfl,Nat.le_refl _,hnewW,H.blk (i:=0) rfl,Nat.le_refl _,fun h => absurd h (by show k≠3;omega)⟩,⟨by show k≤3;omega,⟨hw,hw2⟩,fun _ => ⟨by show 2≤b+2;omega,by show b+2≤9;omega,hlen⟩,fun h => absurd h (by show k≠3;omega),hp32⟩,hw,hw2,H.get (i:=2) rfl,H.frm⟩)
 case neg =>
 rw [if_neg hk1] at hdec
 refine CF h27 hk1 ?_
 by_cases hk2:k=2
 case pos =>
  subst hk2
  rw [if_pos rfl] at hdec
  refine Cy (Lo O (Y.eql (by assumption) O) (Lo O (Y.asgB O) (Lt (CT O (by omega) (Ck (blk_n (tn (Cy (Lo O (Y.ldn (cs:=[.int .u32 (2:Nat),.int .i32 (wd:Nat),.int .u32 (0:Nat),.slice none 0 0]) ldn_87 h6 O (fun j hj => by rw [Nat.zero_add];exact (H.blk (i:=0) O).cell j)) (Lo O (YI (by assumption)) (VL.putW H 0 stn_87 (by assumption) O O O O (by simp [Value.oneCell']) ?_)))))))))))
  intro w H
  try simp only [List.set,List.eraseIdx] at H
  refine Lo O (AI O) (Lo O (Y.asg O) (Lt (Ct ?_)))
  exact Done.retC3 (cs:=[.int .u32 (2:Nat),.int .i32 (wd:Nat),.int .u32 (0:Nat),.slice none 0 0]) O ldn_87 h6 O (fun j hj => by rw [Nat.zero_add];exact (H.blk (i:=0) O).cell j) O O
   (.inl ⟨⟨2,wd,0,[]⟩,wd,R1,_,hdec,rfl,.inl ⟨rfl,rfl⟩,⟨by show 2≤3;omega,⟨hw,hw2⟩,fun h => absurd h (by show ¬ 2≤1;omega),fun h => absurd h (by show 2≠3;omega),by simp⟩,hw,hw2,H.get (i:=1) rfl,H.frm⟩)
 case neg =>
 obtain rfl:k=3:=by omega
 rw [if_neg hk2] at hdec
 refine Cy (Lo O (Y.eql (by assumption) O) (Lo O (Y.asgB O) (Lt (CF O (by omega) (Cy (Lo O (Y.eql (by assumption) O) (Lo O (Y.asgB O) (Lt (CT O (by omega) ?_)))))))))
 by_cases hR_:8≤R1.length
 case neg =>
  rw [pb_no (rd_no (by omega))] at hdec
  refine Cy (Lo O (YP (by assumption)) (VL.readNoS (k:=8) H 1 O ro hS (by omega) (by omega) O O O ?_))
  intro w a H
  refine Lo O (Y.movT O) (Lo O (Y.ext O O) (Lo O (Y.ext O O) (Lo O (AI O) (Lo O (Y.asg O) (Lt (Cs (Cy (Lo O (Y.mov O) (Lo O (Y.neqNilT ifc_47 O O) (Lt ?_))))))))))
  refine CB O (fun _ => ?_) (fun h => nomatch h)
  refine Cy (Lo O (Y.zeroS bz_87) (Lo O (Y.mov O) (VL.putW H 0 stn_87 (by assumption) O O O O (by decide) ?_)))
  intro w H
  try simp only [List.set,List.eraseIdx] at H
  refine Lo O (AI O) (Lo O (Y.asg O) (Lt (Ct (thn_r (blk_r (thn_r ?_))))))
  have hF:=H.frm
  exact Done.retC3 (cs:=[.int .u32 0,.int .i32 0,.int .u32 0,.slice none 0 0]) O ldn_87 h6 O (fun j hj => by rw [Nat.zero_add];exact (H.blk (i:=0) O).cell j) O O (.inr ⟨hdec,⟨_,rfl⟩,hF⟩)
 case pos =>
 rw [pb_ok (rd_ok hR_)] at hdec
 have hnc:val (R1.take (8))<2 ^ (8):=val_take_lt R1 (8)
 refine Cy (Lo O (YP (by assumption)) (VL.readOk (k:=8) H 1 O ro hS (by omega) hR_ O O O ?_))
 intro w H
 simp only [List.set] at H
 refine Lo O (Y.movT O) (Lo O (Y.ext O O) (Lo O (Y.ext O O) (Lo O (AI O) (Lo O (Y.asg O) (Lt ?_)))))
 generalize val (R1.take (8))=nc at *
 generalize R1.drop (8)=R2 at *
 clear hR_
 refine Cs (Cy (Lo O (Y.mov O) (Lo O (Y.neqNilF ifc_47 O O) (Lt (CB O (fun h => nomatch h) (fun _ => (Ck (tn (Cy (Lo O (YI O) (Lo O (Y.add O O (nu32 (b:=1) (by omega))) (Lo O (AI O) (Lt (Cy (Lo O (Y.fa fa_87_2 (by assumption)) (VL.putI H 0 st_36 O O O O ?_))))))))))))))))
 intro w H
 try simp only [List.set,List.eraseIdx] at H
 refine Lt (Cs ?_)
 refine VC.join (fun ρ w' => ρ 0=.pointer (some ⟨σ.d,0,none⟩)∧ρ 1=.int .i32 (wd:Nat)∧ρ 2=.int .i32 (ht:Nat)∧ρ 6=.pointer (some ⟨b6,0,none⟩)∧ρ 9=.int .u32 ((nc+1:Nat):Int)∧St W [σ.d,σ.rd] [blkR b6 [.int .u32 (3:Nat),.int .i32 (wd:Nat),.int .u32 (shorterN (nc+1):Nat),.slice none 0 0] 87,decR σ R2] w') ?_ ?_
 case refine_1 =>
  refine Cb ?_
  have hsh:shorterN (nc+1)=if nc+1≤2 then 3 else if nc+1≤4 then 2 else if nc+1≤16 then 1 else 0:=rfl
  refine Cy (Lo O (YI O) (Lo O (Y.leq O O) (Lo O (Y.asgB O) (Lt ?_))))
  by_cases hc2:nc+1≤2
  case pos =>
   rw [if_pos hc2] at hsh
   rw [hsh]
   refine CT O (by omega) (Cr (Lo O (Y.fa fa_87_2 (by assumption)) (VL.putI H 0 st_36 O O O O ?_)))
   intro w H
   try simp only [List.set,List.eraseIdx] at H
   refine Ln (blk_n (tn ?_))
   exact ⟨h0,h1,h2,h6,rfl,H⟩
  case neg =>
  rw [if_neg hc2] at hsh
  refine CF O (by omega) (Cy (Lo O (YI O) (Lo O (Y.leq O O) (Lo O (Y.asgB O) (Lt ?_)))))
  by_cases hc4:nc+1≤4
  case pos =>
   rw [if_pos hc4] at hsh
   rw [hsh]
   refine CT O (by omega) (Cr (Lo O (Y.fa fa_87_2 (by assumption)) (VL.putI H 0 st_36 O O O O ?_)))
   intro w H
   try simp only [List.set,List.eraseIdx] at H
   refine Ln (blk_n (tn ?_))
   exact ⟨h0,h1,h2,h6,rfl,H⟩
  case neg =>
  rw [if_neg hc4] at hsh
  refine CF O (by omega) (Cy (Lo O (YI O) (Lo O (Y.leq O O) (Lo O (Y.asgB O) (Lt ?_)))))
  by_cases hc16:nc+1≤16
  case pos =>
   rw [if_pos hc16] at hsh
   rw [hsh]
   refine CT O (by omega) (Cr (Lo O (Y.fa fa_87_2 (by assumption)) (VL.putI H 0 st_36 O O O O ?_)))
   intro w H
   try simp only [List.set,List.eraseIdx] at H
   refine Ln (blk_n (tn ?_))
   exact ⟨h0,h1,h2,h6,rfl,H⟩
  case neg =>
   rw [if_neg hc16] at hsh
   rw [hsh]
   refine CF O (by omega) (Ck (blk_n (tn ?_)))
   exact ⟨h0,h1,h2,h6,rfl,H⟩
 case refine_2 =>
 have hsl:=shorterN_le (nc+1)
 clear h0 h1 h2 h6 h26 h27 H ρ
 rintro ρ w2 ⟨h0,h1,h2,h6,h9,H⟩
 generalize shorterN (nc+1)=sb at *
 obtain ⟨ht1,ht2⟩:=tilesN_le (b:=sb) hw
 refine Cy (Lo O (YI (by assumption)) (Lo O (Y.fa fa_87_2 (by assumption)) (Lo O (Y.ld ld_36 O (H.cell 0 O O)) (VL.callP O ent_55 (nTiles_any _ wd sb hw (by omega) (by omega)) O (Lo O (AI O) (Lt ?_))))))
 cases hds:decSub (nc+1) 1 R2
 case none =>
  rw [pb_no hds] at hdec
  refine Cy (Lo O (YP (by assumption)) (Lo O (YI (by assumption)) (Lo O (Y.cv int_36_21 O (w32 (by omega))) (VL.call O ent_40 (OK σ R2 _ (nc+1) 1 1024 (H.get (i:=1) O) (ro.frm H hS) (by omega) (by omega) (by omega) (by omega) (by omega)) O ?_))))
  intro e w3 hP
  rcases hP with ⟨px',R3',bp,hr,_⟩ | ⟨hr,⟨a,rfl⟩,hf⟩
  ·rw [show decPix false (nc+1) 1 R2=decSub (nc+1) 1 R2 from rfl,hds] at hr;cases hr
  replace H:=H.lost (i:=1) rfl hf
  simp only [List.eraseIdx] at H
  refine ⟨_,rfl,?_⟩
  refine Lo O (Y.movT O) (Lo O (Y.ext O O) (Lo O (Y.ext O O) (Lo O (AS O) (Lo O (Y.asg O) (Lt (Cs (Cy (Lo O (Y.mov O) (Lo O (Y.neqNilT ifc_47 O O) (Lt ?_))))))))))
  refine CB O (fun _ => ?_) (fun h => nomatch h)
  refine Cy (Lo O (Y.zeroS bz_87) (Lo O (Y.mov O) (VL.putW H 0 stn_87 (by assumption) O O O O (by decide) ?_)))
  intro w H
  try simp only [List.set,List.eraseIdx] at H
  refine Lo O (AI O) (Lo O (Y.asg O) (Lt (Ct (thn_r (blk_r (thn_r ?_))))))
  exact Done.retC3 (cs:=[.int .u32 0,.int .i32 0,.int .u32 0,.slice none 0 0]) O ldn_87 h6 O (fun j hj => by rw [Nat.zero_add];exact (H.blk (i:=0) O).cell j) O O (.inr ⟨hdec,⟨_,rfl⟩,H.frm⟩)
 case some q =>
 obtain ⟨px,R3⟩:=q
 rw [pb_ok hds] at hdec
 refine Cy (Lo O (YP (by assumption)) (Lo O (YI (by assumption)) (Lo O (Y.cv int_36_21 O (w32 (by omega))) (VL.call O ent_40 (OK σ R2 _ (nc+1) 1 1024 (H.get (i:=1) O) (ro.frm H hS) (by omega) (by omega) (by omega) (by omega) (by omega)) O ?_))))
 intro e w3 hP
 rcases hP with ⟨px',R3',bp,hr,rfl,hlen,hp32,hd2,hnew,hbp,hf⟩ | ⟨hr,_⟩
 rotate_left
 ·rw [show decPix false (nc+1) 1 R2=decSub (nc+1) 1 R2 from rfl,hds] at hr;cases hr
 rw [show decPix false (nc+1) 1 R2=decSub (nc+1) 1 R2 from rfl,hds] at hr
 obtain ⟨rfl,rfl⟩:=Prod.mk.inj (Option.some.inj hr)
 have hnewW:W.heap.size≤bp:=Nat.le_trans H.high hnew
 have hm1024:max 1024 (4 * ((nc+1) * 1))=1024:=by omega
 rw [hm1024] at hbp
 replace H:=H.grow (i:=1) rfl hf hd2 (decR_local σ R3) rfl hbp hnew
 simp only [List.set] at H
 rw [hm1024,← hlen]
 refine ⟨_,rfl,?_⟩
 refine Lo O (Y.movT O) (Lo O (Y.ext O O) (Lo O (Y.ext O O) (Lo O (AS O) (Lo O (Y.asg O) (Lt (Cs (Cy (Lo O (Y.mov O) (Lo O (Y.neqNilF ifc_47 O O) (Lt (CB O (fun h => nomatch h) (fun _ => (Ck (tn ?_))))))))))))))
 rw [Nat.mul_one] at hlen
 have hs1:=sums_eq px
 have hm1:mix sumF px 1=px:=mix_one (fun p => rfl) (by omega)
 rw [← hm1] at H
 refine Cs (Cy (Lo O (AI O) (Lt ?_)))
 refine VC.join (fun ρ w' => ρ 1=.int .i32 (tilesN wd sb:Nat)∧ρ 6=.pointer (some ⟨b6,0,none⟩)∧ρ 11=.slice (some ⟨bp,0,none⟩) (4 * px.length) 1024 ∧
  St W [σ.d,σ.rd] [blkR bp (rowK .u8 (byteAt (sums px)) 1024) 5,blkR b6 [.int .u32 (3:Nat),.int .i32 (wd:Nat),.int .u32 (sb:Nat),.slice none 0 0] 87,decR σ R3] w') ?_ ?_
 case refine_1 =>
  refine Cb ?_
  refine Cl (fun mm ρ w' => ∃ i,mm=px.length - i∧1≤i∧i≤px.length∧ρ 1=.int .i32 (tilesN wd sb:Nat)∧ρ 6=.pointer (some ⟨b6,0,none⟩)∧ρ 11=.slice (some ⟨bp,0,none⟩) (4 * px.length) 1024∧ρ 12=.int .i64 ((4 * i:Nat):Int) ∧
   St W [σ.d,σ.rd] [blkR bp (rowK .u8 (byteAt (mix sumF px i)) 1024) 5,blkR b6 [.int .u32 (3:Nat),.int .i32 (wd:Nat),.int .u32 (sb:Nat),.slice none 0 0] 87,decR σ R3] w') (px.length - 1)
   ⟨1,rfl,by omega,by omega,rfl,h6,rfl,rfl,H⟩ ?_
  clear h0 h1 h2 h6 h9 H ρ
  rintro mm ρ w4 ⟨i,rfl,hi1,hi,h1,h6,h11,h12,H⟩
  refine Cs (Cy (Lo O (YI (by assumption)) (Lo O (YS (by assumption)) (Lo O (Y.len sl_24 O) (Lo O (Y.lss O O) (Lt ?_))))))
  by_cases hlt:i<px.length
  case pos =>
   have hst:=mix_step (f:=sumF) hlt
   have hml:=mix_length (f:=sumF) hi
   have hge:=mix_ge (f:=sumF) hi (Nat.le_refl i)
   have hlt1:=mix_lt (f:=sumF) (j:=i - 1) hi (by omega)
   have hmd:=made_length (f:=sumF) hi
   have hF':∀ (m:List Nat) (p:Nat),m.length=i→sumF m p=addPx p (m.getD (i - 1) 0):=fun m p hm => by unfold sumF;rw [if_neg (by omega),hm]
   have hF:=hF' (made sumF px i) (px.getD i 0) hmd
   rw [hF,← hge,← hlt1] at hst
   generalize mix sumF px i=M at *
   have hA0:=byteAt_0 M i
   have hA1:=byteAt_1 M i
   have hA2:=byteAt_2 M i
   have hA3:=byteAt_3 M i
   have hB0:byteAt M (4 * i - 4)=pR (M.getD (i - 1) 0):=by rw [← byteAt_0,show 4 * (i - 1)+0=4 * i - 4 by omega]
   have hB1:byteAt M (4 * i - 3)=pG (M.getD (i - 1) 0):=by rw [← byteAt_1,show 4 * (i - 1)+1=4 * i - 3 by omega]
   have hB2:byteAt M (4 * i - 2)=pB (M.getD (i - 1) 0):=by rw [← byteAt_2,show 4 * (i - 1)+2=4 * i - 2 by omega]
   have hB3:byteAt M (4 * i - 1)=pA (M.getD (i - 1) 0):=by rw [← byteAt_3,show 4 * (i - 1)+3=4 * i - 1 by omega]
   clear hge hlt1 hF hF'
   generalize M.getD i 0=A at *
   generalize M.getD (i - 1) 0=B at *
   obtain ⟨hq1,hq2,hq3,hq4,_⟩:=addPx_parts A B
   have hset:=byteAt_set (l:=M) (i:=i) (by omega) (addPx A B)
   rw [hq1,hq2,hq3,hq4] at hset
   refine CT O (by omega) (Ck (tn (Cs (Cb (Cs (VC.drawTail 12 mixedP (by kernel_rfl) ?_))))))
   intro w hsame
   replace H:=H.same hsame
   refine So O (YS (by assumption)) (So O (YI (by assumption)) (So O (Y.add O O (n64 (b:=0) (by omega))) (So O (Y.ixS0 _ sl_24 O O O (by omega)) (So O (Y.ld (v:=.int .u8 (pR A:Nat)) ld_5 O (H.cell 0 O ((rowK_get (by omega)).trans (by rw [hA0])))) (So O (YS (by assumption)) (So O (YI (by assumption)) (So O (Y.sub O O (s64 (b:=4) (by omega))) (So O (Y.ixS0 _ sl_24 O O O (by omega)) (So O (Y.ld (v:=.int .u8 (pR B:Nat)) ld_5 O (H.cell 0 O ((rowK_get (by omega)).trans (by rw [hB0])))) (So O (Y.add O O (nu8)) (So O (Y.ixS0 _ sl_24 O O O (by omega)) (Sn (VL.putR H 0 st_5 O O O (by omega) ?_)))))))))))))
   intro w H
   try simp only [List.set,List.eraseIdx] at H
   refine Lt (Cs (VC.drawTail 12 mixedP (by kernel_rfl) ?_))
   intro w hsame
   replace H:=H.same hsame
   refine So O (YS (by assumption)) (So O (YI (by assumption)) (So O (Y.add O O (n64 (b:=1) (by omega))) (So O (Y.ixS0 _ sl_24 O O O (by omega)) (So O (Y.ld (v:=.int .u8 (pG A:Nat)) ld_5 O (H.cell 0 O ((rowK_get (by omega)).trans (by rw [if_neg (by omega),hA1])))) (So O (YS (by assumption)) (So O (YI (by assumption)) (So O (Y.sub O O (s64 (b:=3) (by omega))) (So O (Y.ixS0 _ sl_24 O O O (by omega)) (So O (Y.ld (v:=.int .u8 (pG B:Nat)) ld_5 O (H.cell 0 O ((rowK_get (by omega)).trans (by rw [if_neg (by omega),hB1])))) (So O (Y.add O O (nu8)) (So O (Y.ixS0 _ sl_24 O O O (by omega)) (Sn (VL.putR H 0 st_5 O O O (by omega) ?_)))))))))))))
   intro w H
   try simp only [List.set,List.eraseIdx] at H
   refine Lt (Cs (VC.drawTail 12 mixedP (by kernel_rfl) ?_))
   intro w hsame
   replace H:=H.same hsame
   refine So O (YS (by assumption)) (So O (YI (by assumption)) (So O (Y.add O O (n64 (b:=2) (by omega))) (So O (Y.ixS0 _ sl_24 O O O (by omega)) (So O (Y.ld (v:=.int .u8 (pB A:Nat)) ld_5 O (H.cell 0 O ((rowK_get (by omega)).trans (by rw [if_neg (by omega),if_neg (by omega),hA2])))) (So O (YS (by assumption)) (So O (YI (by assumption)) (So O (Y.sub O O (s64 (b:=2) (by omega))) (So O (Y.ixS0 _ sl_24 O O O (by omega)) (So O (Y.ld (v:=.int .u8 (pB B:Nat)) ld_5 O (H.cell 0 O ((rowK_get (by omega)).trans (by rw [if_neg (by omega),if_neg (by omega),hB2])))) (So O (Y.add O O (nu8)) (So O (Y.ixS0 _ sl_24 O O O (by omega)) (Sn (VL.putR H 0 st_5 O O O (by omega) ?_)))))))))))))
   intro w H
   try simp only [List.set,List.eraseIdx] at H
   refine Lt (VC.drawTail 12 mixedP (by kernel_rfl) ?_)
   intro w hsame
   replace H:=H.same hsame
   refine So O (YS (by assumption)) (So O (YI (by assumption)) (So O (Y.add O O (n64 (b:=3) (by omega))) (So O (Y.ixS0 _ sl_24 O O O (by omega)) (So O (Y.ld (v:=.int .u8 (pA A:Nat)) ld_5 O (H.cell 0 O ((rowK_get (by omega)).trans (by rw [if_neg (by omega),if_neg (by omega),if_neg (by omega),hA3])))) (So O (YS (by assumption)) (So O (YI (by assumption)) (So O (Y.sub O O (s64 (b:=1) (by omega))) (So O (Y.ixS0 _ sl_24 O O O (by omega)) (So O (Y.ld (v:=.int .u8 (pA B:Nat)) ld_5 O (H.cell 0 O ((rowK_get (by omega)).trans (by rw [if_neg (by omega),if_neg (by omega),if_neg (by omega),hB3])))) (So O (Y.add O O (nu8)) (So O (Y.ixS0 _ sl_24 O O O (by omega)) (Sn (VL.putR H 0 st_5 O O O (by omega) ?_)))))))))))))
   intro w H
   try simp only [List.set,List.eraseIdx] at H
   refine Ln (blk_n (tn ?_))
   rw [rowK_congr (g:=byteAt (M.set i (addPx A B))) (fun j _ => hset j),hst] at H
   refine Cr (Lo O (YI (by assumption)) (Lo O (Y.add O O (n64 (b:=4) (by omega))) (Lo O (AI O) (Lt ?_))))
   exact ⟨px.length - (i+1),by omega,i+1,rfl,by omega,by omega,h1,h6,h11,rfl,H⟩
  case neg =>
  obtain rfl:i=px.length:=by omega
  rw [mix_all,← hs1] at H
  refine CF O (by omega) (Cx (thn_x (thn_x (blk_x (tn ?_)))))
  exact ⟨h1,h6,h11,H⟩
 case refine_2 =>
 clear h0 h1 h2 h6 h9 H ρ
 rintro ρ w4 ⟨h1,h6,h11,H⟩
 have hs32:∀ p ∈ sums px,p<2 ^ 32:=by
  rw [hs1]
  refine scan_all (P:=fun p => p<2 ^ 32) (fun acc p hp => ?_) px [] hp32 (by simp)
  unfold sumF
  split
  ·exact hp
  ·exact (addPx_parts _ _).2.2.2.2
 have hsl2:(sums px).length=px.length:=by rw [hs1,scan_length];simp
 refine Cr (Lo O (YS (by assumption)) (Lo O (Y.sliceHi 1024 sl_24 O O O (Nat.le_refl _)) (Lo O (Y.fa fa_87_3 (by assumption)) (VL.putS H 1 st_24 O O O O ?_))))
 intro w H
 simp only [List.set] at H
 refine Ln (blk_n (tn (Cy (Lo O (Y.ldn (cs:=[.int .u32 (3:Nat),.int .i32 (wd:Nat),.int .u32 (sb:Nat),.slice (some ⟨bp,0,none⟩) 1024 1024]) ldn_87 h6 O (fun j hj => by rw [Nat.zero_add];exact (H.blk (i:=1) O).cell j)) (Lo O (YI (by assumption)) (VL.putW H 1 stn_87 (by assumption) O O O O (by simp [Value.oneCell']) ?_))))))
 intro w H
 try simp only [List.set,List.eraseIdx] at H
 refine Lo O (AI O) (Lo O (Y.asg O) (Lt (Ct ?_)))
 exact Done.retC3 (cs:=[.int .u32 (3:Nat),.int .i32 (wd:Nat),.int .u32 (sb:Nat),.slice (some ⟨bp,0,none⟩) 1024 1024]) O ldn_87 h6 O (fun j hj => by rw [Nat.zero_add];exact (H.blk (i:=1) O).cell j) O O
  (.inl ⟨⟨3,wd,sb,sums px⟩,tilesN wd sb,R3,_,hdec,rfl,.inr ⟨by show 3≠2;omega,bp,_,_,rfl,Nat.le_refl _,hnewW,H.blk (i:=0) rfl,by show 4 * (sums px).length≤1024;omega,fun _ => rfl⟩,⟨by show 3≤3;omega,⟨hw,hw2⟩,fun h => absurd h (by show ¬ 3≤1;omega),fun _ => ⟨hsl,by show (sums px).length≤256;omega⟩,hs32⟩,ht1,by omega,H.get (i:=2) rfl,H.frm⟩)
end Go.Proofs.YtinkhckpckfajaaDoor
