/-
  A picture is written and read: part 5 of 13 (Inv, Index, PredA, Pred).
-/
import Derived.Test.YtmgemcffhbnpfaaGreatDoorA04
set_option linter.unusedVariables false
set_option linter.unusedSimpArgs false
set_option maxRecDepth 100000
set_option maxHeartbeats 4000000
namespace Go.Proofs.YtmgemcffhbnpfaaGreatDoor
open Go
def i6 (p:Nat):Nat:=fQ (pA p) ((pR p+pG p) % 256) (pG p) ((pB p+pG p) % 256)
def sg (x:Nat):Int:=if x<128 then (x:Int) else (x:Int) - 256
def dA (a b:Nat):Nat:=((sg a * sg b) / 32 % 256).toNat
def iV (m p:Nat):Nat:=fQ (pA p) ((pR p+dA (pB m) (pG p)) % 256) (pG p) ((pB p+dA (pG m) (pG p)+dA (pR m) ((pR p+dA (pB m) (pG p)) % 256)) % 256)
def dS (w b at_:Nat):Nat:=aq w b * (at_ / w / 2 ^ b)+at_ % w / 2 ^ b
def iO (acc:List Nat) (p:Nat):Nat:=i6 p
def kz (w b:Nat) (px:List Nat) (acc:List Nat) (p:Nat):Nat:=iV (px.getD (dS w b acc.length) 0) p
theorem mB (a b:Nat):dA a b<256:=by unfold dA;omega
theorem rZ (p:Nat):pA (i6 p)=pA p∧pR (i6 p)=(pR p+pG p) % 256∧pG (i6 p)=pG p∧pB (i6 p)=(pB p+pG p) % 256∧i6 p<2 ^ 32 :=
 eO (bX p).1 (Nat.mod_lt _ ω) (bX p).2.2.1 (Nat.mod_lt _ ω)
structure GY (w:World) (b off:Nat) (t:Tr) (pv:Value):Prop where
 kind:w.cell? ⟨b,off+0,none⟩=some (.int .u32 (t.kind:Nat))
 wd:w.cell? ⟨b,off+1,none⟩=some (.int .i32 (t.wd:Nat))
 bits:w.cell? ⟨b,off+2,none⟩=some (.int .u32 (t.bits:Nat))
 px:w.cell? ⟨b,off+3,none⟩=some pv
def tR (bp:Nat) (out:List Nat) (w:World) (e:Ending) (w':World):Prop :=
 ∃ b' cap',e=.returned (.slice (aT b') (4 * out.length) cap')∧4 * out.length≤cap'∧cap'≤1073742848∧(b'=bp∨w.heap.size≤b')∧ff w' b' (bM .u8 (ap out) cap') 5∧cf [bp] w w'
theorem EG (W:World) (tp:Value) (bp cap ht:Nat) (inp:List Nat) (hb:ff W bp (bM .u8 (ap inp) cap) 5) (hcap:4 * inp.length≤cap) (hc2:cap≤1073742848) :
  Calls Tryz.prog 126 #[tp,.slice (aT bp) (4 * inp.length) cap,.int .i32 (ht:Nat)] W (tR bp (i4 iO [] inp) W):=by
 have H:St W [bp] [aa bp (bM .u8 (ap inp) cap) 5] W:=gQ hb
 refine enter (m:=37) Tryz.func126 O Tryz.ntmps126 O (Cy (bI O (Lt (Cs (Cy (az O (Lt (Cb ?_))))))))
 rw [← qd (f:=iO) inp] at H
 refine Cl (fun mm ρ w' => ∃ i,mm=inp.length - i∧i≤inp.length∧ρ 1=.slice (aT bp) (4 * inp.length) cap∧ρ 7=iT (4 * i)∧St W [bp] [aa bp (bM .u8 (ap (nu iO inp i)) cap) 5] w') inp.length
  ⟨0,rfl,ω,rfl,rfl,H⟩ ?_
 clear H
 rintro mm ρ w1 ⟨i,rfl,hi,h1,h7,H⟩
 refine Cs (Cy (ai η (bU η (bG am O (bP O O (Lt ?_))))))
 by_cases hlt:i<inp.length
 case pos =>
  have hst:=jP (f:=iO) hlt
  have hml:=jj (f:=iO) hi
  have hge:=pN (f:=iO) hi (Nat.le_refl i)
  rw [show iO (gN iO inp i) (inp.getD i 0)=i6 (inp.getD i 0) from rfl,← hge] at hst
  generalize nu iO inp i=M at *
  have hA0:=fC M i
  have hA1:=eh M i
  have hA2:=fI M i
  have hA3:=fV M i
  clear hge
  generalize M.getD i 0=A at *
  obtain ⟨hq1,hq2,hq3,hq4,_⟩:=rZ A
  have hset:=mU (l:=M) (i:=i) ω (i6 A)
  rw [hq1,hq2,hq3,hq4] at hset
  refine CT O ω (Ck (tn (Cs (Cb (Cy (bU η (ai η (ao O O (ck (b:=1) ω) (dU am O O O (aC (v:=.int .u8 (pG A:Nat)) aQ O (H.cell 0 O ((af ω).trans (by rw [hA1]))) (az O (Lt (Cy (bU η (ai η (ao O O (ck (b:=0) ω) ?_))))))))))))))))
  refine dU am O O O (aC (v:=.int .u8 (pR A:Nat)) aQ O (H.cell 0 O ((af ω).trans (by rw [hA0]))) (ai O (ao O O (i5) (dU am O O O (aP H 0 cZ O O O ω ?_)))))
  intro w H
  refine Lt (Cr (bU η (ai η (ao O O (ck (b:=2) ω) (dU am O O O (aC (v:=.int .u8 (pB A:Nat)) aQ O (H.cell 0 O ((af ω).trans (by rw [if_neg ω,hA2]))) (ai O (ao O O (i5) (dU am O O O (aP H 0 cZ O O O ω ?_))))))))))
  intro w H
  try simp only [List.set,List.eraseIdx] at H
  refine Ln (aF (tn ?_))
  rw [aW (g:=ap (M.set i (i6 A))) (fun j _ => by
   rw [hset]
   by_cases h3:j=4 * i+3
   ·rw [if_pos h3,if_neg ω,if_neg ω,h3,hA3]
   ·rw [if_neg h3]
    by_cases h2:j=4 * i+2
    ·rw [if_pos h2,if_pos h2]
    ·rw [if_neg h2,if_neg h2]
     by_cases h1:j=4 * i+1
     ·rw [if_pos h1,if_neg ω,h1,hA1]
     ·rw [if_neg h1]),hst] at H
  refine Cr (ai η (ao O O (ck (b:=4) ω) (az O (Lt ?_))))
  exact ⟨inp.length - (i+1),ω,i+1,O,ω,h1,O,H⟩
 case neg =>
 have hl:(i4 iO [] inp).length=inp.length:=by rw [fY];simp
 obtain rfl:i=inp.length:=ω
 rw [tP] at H
 refine CF O ω (Cx (ax (ax (br (tn (Cy (bU η (gS O (Lt (Ct ?_))))))))))
 exact ak O O ⟨bp,cap,by rw [hl];rfl,ω,hc2,.inl rfl,H.blk (i:=0) rfl,H.frm⟩
theorem rl (x:Nat) (h:x<256):IntKind.i8.wrap (x:Int)=sg x:=by
 unfold sg
 split
 ·exact MJ ω
 ·simp only [IntKind.wrap,IntKind.bits,IntKind.signed]
  simp
  omega
theorem lM (x:Nat) (h:x<256):-128≤sg x∧sg x≤127:=by unfold sg;split <;> omega
theorem Ki (a b:Nat) (ha:a<256) (hb:b<256):-16384≤sg a * sg b∧sg a * sg b≤16384:=by
 have h1:=lM a ha
 have h2:=lM b hb
 generalize sg a=x at *
 generalize sg b=y at *
 obtain ⟨h1a,h1b⟩:=h1
 obtain ⟨h2a,h2b⟩:=h2
 have e1:0≤(x+128) * (y+128):=Int.mul_nonneg ω ω
 have e2:0≤(128 - x) * (128 - y):=Int.mul_nonneg ω ω
 have e3:0≤(x+128) * (128 - y):=Int.mul_nonneg ω ω
 have e4:0≤(128 - x) * (y+128):=Int.mul_nonneg ω ω
 simp only [Int.add_mul,Int.sub_mul,Int.mul_add,Int.mul_sub] at e1 e2 e3 e4
 omega
theorem Dg (a b:Nat) (ha:a<256) (hb:b<256):IntKind.u8.wrap ((IntKind.u32.wrap (IntKind.i32.wrap (sg a * sg b))).fdiv (2 ^ min (5:Int).toNat IntKind.u32.bits))=(dA a b:Nat):=by
 have h:=Ki a b ha hb
 unfold dA
 generalize sg a * sg b=x at *
 rw [jm ω,vd,Kc]
 show (x % 4294967296).fdiv 32 % 256=_
 rw [Int.fdiv_eq_ediv_of_nonneg _ ω]
 omega
theorem wm {x t:Nat} (ht:0<t) (hx:0<x):(x % t=0→x / t=(x - 1) / t+1)∧(x % t≠0→x / t=(x - 1) / t):=by
 have e1:=Nat.div_add_mod x t
 have e2:=Nat.div_add_mod (x - 1) t
 have l1:=Nat.mod_lt x ht
 have l2:=Nat.mod_lt (x - 1) ht
 generalize x / t=q at *
 generalize x % t=r at *
 generalize (x - 1) / t=q' at *
 generalize (x - 1) % t=r' at *
 have up:q'+2≤q→t * q'+2 * t≤t * q:=fun h => by
  have:=Nat.mul_le_mul_left t h
  rw [Nat.mul_add] at this
  omega
 have dn:q+1≤q'→t * q+t≤t * q':=fun h => by
  have:=Nat.mul_le_mul_left t h
  rw [Nat.mul_add,Nat.mul_one] at this
  exact this
 have same:q=q'→t * q=t * q':=fun h => by rw [h]
 have one:q=q'+1→t * q=t * q'+t:=fun h => by rw [h,Nat.mul_add,Nat.mul_one]
 have tri:q'+2≤q∨q+1≤q'∨q=q'∨q=q'+1:=ω
 refine ⟨fun h0 => ?_,fun h0 => ?_⟩
 ·rcases tri with h | h | h | h
  ·have:=up h;omega
  ·have:=dn h;omega
  ·have:=same h;omega
  ·exact h
 ·rcases tri with h | h | h | h
  ·have:=up h;omega
  ·have:=dn h;omega
  ·exact h
  ·have:=one h;omega
theorem rV (m p:Nat):pA (iV m p)=pA p∧pR (iV m p)=(pR p+dA (pB m) (pG p)) % 256∧pG (iV m p)=pG p∧pB (iV m p)=(pB p+dA (pG m) (pG p)+dA (pR m) ((pR p+dA (pB m) (pG p)) % 256)) % 256∧iV m p<2 ^ 32 :=
 eO (bX p).1 (Nat.mod_lt _ ω) (bX p).2.2.1 (Nat.mod_lt _ ω)
theorem EN (W:World) (btr off:Nat) (t:Tr) (bpx len capx bp cap ht:Nat) (inp:List Nat) (hT:GY W btr off t (.slice (aT bpx) len capx)) (hO:B4 ht t) (hk:t.kind≤1)
  (hpx:ff W bpx (bM .u8 (ap t.px) capx) 5) (hlen:4 * t.px.length≤len) (hlc:len≤capx) (hn1:btr ∉ [bp]) (hn2:bpx ∉ [bp]) (hh:1≤ht) (hh2:ht≤16384)
  (hb:ff W bp (bM .u8 (ap inp) cap) 5) (hil:inp.length=t.wd * ht) (hcap:4 * inp.length≤cap) (hc2:cap≤1073742848) :
  Calls Tryz.prog 125 #[.pointer (some ⟨btr,off,none⟩),.slice (aT bp) (4 * inp.length) cap,.int .i32 (ht:Nat)] W (tR bp (i4 (kz t.wd t.bits t.px) [] inp) W):=by
 have H:St W [bp] [aa bp (bM .u8 (ap inp) cap) 5] W:=gQ hb
 obtain ⟨hb2,hb9,hpl⟩:=hO.tile hk
 obtain ⟨hw,hw2⟩:=hO.wd
 have hT1:=hT.wd
 have hT2:=hT.bits
 have hT3:=hT.px
 have hp9:2 ^ t.bits≤2 ^ 9:=Nat.pow_le_pow_right ω hb9
 have hp1:=Nat.two_pow_pos t.bits
 have hp4:2 ^ 2≤2 ^ t.bits:=Nat.pow_le_pow_right ω hb2
 obtain ⟨F,hF⟩:∃ F,F=kz t.wd t.bits t.px:=⟨_,rfl⟩
 rw [← hF]
 obtain ⟨tp,htp⟩:∃ tp,tp=aq t.wd t.bits:=⟨_,rfl⟩
 have htp2:=cu (n:=t.wd) (b:=t.bits) hw
 refine enter (m:=150) Tryz.func125 O Tryz.ntmps125 O (Cy (bI O (Lt (Cy (az O (az O (az O (Lt (Cs ?_)))))))))
 refine VC.held (cf [bp] W) aJ (by with_reducible repeat (first | refine fB ?_ | refine eP.blk ?_ | refine fy ?_ | refine dP ?_ | exact eP.done)) ?_
 intro w hsame
 replace H:=H.same hsame
 refine Ht 0 O κ κ κ O H.frm (fun w hI => YP O) (Ht 1 O κ κ κ O H.frm (fun w hI => iL O) (Ht 2 O κ κ κ O H.frm (fun w hI => iQ ei O) (Ht 3 O κ κ κ O H.frm (fun w hI => ef bD O (hI.cell hT2 hn1)) (Ht 4 O κ κ κ O H.frm (fun w hI => ed (r:=((2 ^ t.bits:Nat):Int)) O O ω (by rw [← Nat.one_mul (2 ^ t.bits)];exact LV (a:=1) ω)) (Ht 5 O κ κ κ O H.frm (fun w hI => (mX O O (nZ (b:=1) ω))) (Ht 6 O κ κ κ O H.frm (fun w hI => YP O) (Ht 7 O κ κ κ O H.frm (fun w hI => iL O) (Ht 8 O κ κ κ O H.frm (fun w hI => iQ kA O) (Ht 9 O κ κ κ O H.frm (fun w hI => ef nP O (hI.cell hT1 hn1)) (Ht 10 O κ κ κ O H.frm (fun w hI => YP O) (Ht 11 O κ κ κ O H.frm (fun w hI => iL O) (Ht 12 O κ κ κ O H.frm (fun w hI => iQ ei O) (Ht 13 O κ κ κ O H.frm (fun w hI => ef bD O (hI.cell hT2 hn1)) (kR 14 O κ O n0 (ik _ t.wd t.bits hw ω hb9) O H.frm (Ht 15 O κ κ κ O H.frm (fun w hI => AI O) (Ht 16 O κ κ κ O H.frm (fun w hI => AI O) (Ht 17 O κ κ κ O H.frm (fun w hI => AI O) (g7 κ (tn ?_)))))))))))))))))))
 rw [← htp]
 rw [← htp] at htp2
 refine Cs (Cy (az O (Lt (Cb ?_))))
 rw [← qd (f:=F) inp] at H
 refine Cl (fun mm ρ w' => ∃ y P,mm=ht - y∧y≤ht∧P=4 * (y * t.wd)∧ρ 0=.pointer (some ⟨btr,off,none⟩)∧ρ 1=.slice (aT bp) (4 * inp.length) cap∧ρ 2=.int .i32 (ht:Nat)∧ρ 10=.int .i32 (P:Nat)∧ρ 11=.int .i32 ((2 ^ t.bits - 1:Nat):Int)∧ρ 12=.int .i32 (tp:Nat)∧ρ 13=.int .i32 (y:Nat) ∧
  (∃ f7 f8 f9,ρ 7=.int .i32 f7∧ρ 8=.int .i32 f8∧ρ 9=.int .i32 f9)∧St W [bp] [aa bp (bM .u8 (ap (nu F inp (y * t.wd))) cap) 5] w') ht
  ⟨0,0,rfl,ω,ω,rfl,rfl,rfl,rfl,rfl,rfl,rfl,⟨_,_,_,rfl,rfl,rfl⟩,by rw [Nat.zero_mul];exact H⟩ ?_
 clear H
 rintro mm ρ w1 ⟨y,P,rfl,hy,hP,h0,h1,h2,h10,h11,h12,h13,⟨f7,f8,f9,h7,h8,h9⟩,H⟩
 refine Cs (Cy (ai η (ai η (bP O O (Lt ?_)))))
 by_cases hlt:y<ht
 case neg =>
  have hl:(i4 F [] inp).length=inp.length:=by rw [fY];simp
  obtain rfl:y=ht:=ω
  rw [show y * t.wd=inp.length by rw [hil,Nat.mul_comm],tP] at H
  refine CF O ω (Cx (ax (ax (br (tn (Cy (bU η (gS O (Lt (Ct ?_))))))))))
  exact ak O O ⟨bp,cap,by rw [hl];rfl,ω,hc2,.inl rfl,H.blk (i:=0) rfl,H.frm⟩
 case pos =>
 have hyw:(y+1) * t.wd≤inp.length:=by rw [hil,Nat.mul_comm];exact Nat.mul_le_mul_left _ hlt
 rw [Nat.succ_mul] at hyw
 obtain ⟨qy,hqy⟩:∃ q,q=y / 2 ^ t.bits:=⟨_,rfl⟩
 have hqy2:qy≤y:=by rw [hqy];exact Nat.div_le_self _ _
 have hmul:tp * qy≤16384 * 16384:=Nat.mul_le_mul ω ω
 have hmul2:qy * tp=tp * qy:=Nat.mul_comm _ _
 obtain ⟨Y0,hY0⟩:∃ Y0,Y0=y * t.wd:=⟨_,rfl⟩
 rw [← hY0] at hyw hP H
 have hpl2:t.px.length≤268435456:=by
  rw [hpl]
  have h2:=(cu (b:=t.bits) hh).2
  rw [← htp]
  exact Nat.mul_le_mul (show _≤16384 by omega) (show _≤16384 by omega)
 refine CT O ω (Ck (tn (Cs (Cb (Cy (ai η (bH η (aK O (aU ei O (aC bD O (H.old η η) (Lp (d6 (r:=(qy:Int)) O O ω (by rw [hqy];exact jd (k:=.i32) (b:=t.bits) (by show t.bits≤32;omega))) (Lp (cX (r:=((4 * qy:Nat):Int)) O O (CJ (a:=4) ω)) (ai η (Lp (cX (r:=((4 * (tp * qy):Nat):Int)) O O (by rw [CJ (by rw [Nat.mul_assoc,hmul2];omega),Nat.mul_assoc,hmul2])) (az O (Lt (Cs ?_)))))))))))))))))
 refine Cr (az O (Lt (Cb ?_)))
 refine Cl (fun mm ρ w' => ∃ x nq P,mm=t.wd - x∧x≤t.wd∧P=4 * (Y0+x)∧ρ 0=.pointer (some ⟨btr,off,none⟩)∧ρ 1=.slice (aT bp) (4 * inp.length) cap∧ρ 2=.int .i32 (ht:Nat)∧ρ 10=.int .i32 (P:Nat)∧ρ 11=.int .i32 ((2 ^ t.bits - 1:Nat):Int)∧ρ 12=.int .i32 (tp:Nat)∧ρ 13=.int .i32 (y:Nat)∧ρ 15=.int .i32 (x:Nat)∧ρ 14=.int .i32 ((4 * (tp * qy+nq):Nat):Int) ∧
  (∃ f7 f8 f9,ρ 7=.int .i32 f7∧ρ 8=.int .i32 f8∧ρ 9=.int .i32 f9∧((x=0∧nq=0)∨(0<x∧nq=(x - 1) / 2 ^ t.bits+1∧f7=sg (pB (t.px.getD (tp * qy+(x - 1) / 2 ^ t.bits) 0))∧f8=sg (pG (t.px.getD (tp * qy+(x - 1) / 2 ^ t.bits) 0))∧f9=sg (pR (t.px.getD (tp * qy+(x - 1) / 2 ^ t.bits) 0))))) ∧
  St W [bp] [aa bp (bM .u8 (ap (nu F inp (Y0+x))) cap) 5] w') t.wd
  ⟨0,0,P,rfl,ω,ω,h0,h1,h2,h10,h11,h12,h13,rfl,rfl,⟨f7,f8,f9,h7,h8,h9,.inl ⟨rfl,rfl⟩⟩,H⟩ ?_
 clear h0 h1 h2 h10 h11 h12 h13 h7 h8 h9 f7 f8 f9 H hP P
 clear ρ
 rintro mm ρ w2 ⟨x,nq,P,rfl,hx,hP,h0,h1,h2,h10,h11,h12,h13,h15,h14,⟨f7,f8,f9,h7,h8,h9,hf⟩,H⟩
 refine Cs (Cy (ai η (bH η (aK O (aU kA O (aC nP O (H.old η η) (bP O O (Lt ?_))))))))
 by_cases hxw:x<t.wd
 case neg =>
  obtain hxe:x=t.wd:=ω
  rw [hxe] at H hP
  refine CF O ω (Cx (ax (ax (br (aF (tn (Cr (ai η (ao O O (fX (b:=1) ω) (az O (Lt ?_)))))))))))
  exact ⟨ht - (y+1),ω,y+1,P,O,ω,by rw [show (y+1) * t.wd=Y0+t.wd by rw [Nat.succ_mul,hY0]];exact hP,h0,h1,h2,h10,h11,h12,O,⟨f7,f8,f9,h7,h8,h9⟩,by rw [show (y+1) * t.wd=Y0+t.wd by rw [Nat.succ_mul,hY0]];exact H⟩
 case pos =>
 have hti:=mR (b:=t.bits) hxw hlt
 rw [← hpl,← htp,← hqy] at hti
 have hdiv:x≠0→_:=fun h => wm (x:=x) (t:=2 ^ t.bits) hp1 ω
 have hand:x &&& (2 ^ t.bits - 1)=x % 2 ^ t.bits:=Nat.and_two_pow_sub_one_eq_mod x _
 have hxm:x % 2 ^ t.bits≤x:=Nat.mod_le _ _
 have hx0:x=0→x % 2 ^ t.bits=0∧x / 2 ^ t.bits=0:=fun h => by rw [h];exact ⟨Nat.zero_mod _,Nat.zero_div _⟩
 obtain ⟨qx,hqx⟩:∃ q,q=x / 2 ^ t.bits:=⟨_,rfl⟩
 rw [← hqx] at hti hdiv hx0
 obtain ⟨m,hm⟩:∃ m,m=t.px.getD (tp * qy+qx) 0:=⟨_,rfl⟩
 refine CT O ω (Ck (tn (Cs (Cb (Cs (Cy (ai η (ai η (Lp (gZ (r:=(x % 2 ^ t.bits:Nat)) O O (by rw [← hand];exact La ω)) (bF O O (Lt ?_)))))))))))
 refine aH (fun ρ w' => ρ 0=.pointer (some ⟨btr,off,none⟩)∧ρ 1=.slice (aT bp) (4 * inp.length) cap∧ρ 2=.int .i32 (ht:Nat)∧ρ 10=.int .i32 (P:Nat)∧ρ 11=.int .i32 ((2 ^ t.bits - 1:Nat):Int)∧ρ 12=.int .i32 (tp:Nat)∧ρ 13=.int .i32 (y:Nat)∧ρ 15=.int .i32 (x:Nat)∧ρ 14=.int .i32 ((4 * (tp * qy+(qx+1)):Nat):Int) ∧
  ρ 7=.int .i32 (sg (pB m))∧ρ 8=.int .i32 (sg (pG m))∧ρ 9=.int .i32 (sg (pR m))∧w2=w') ?_ ?_
 case refine_1 =>
  by_cases hxz:x % 2 ^ t.bits=0
  case neg =>
   have hxp:x≠0:=fun h => hxz (hx0 h).1
   have hd:=(hdiv hxp).2 hxz
   rcases hf with ⟨h,_⟩ | ⟨_,hnq,hf7,hf8,hf9⟩
   ·exact absurd h hxp
   rw [← hd,← hm] at hf7 hf8 hf9
   rw [← hd] at hnq
   subst hf7 hf8 hf9 hnq
   refine CF O ω (Ck (tn ?_))
   exact ⟨h0,h1,h2,h10,h11,h12,h13,h15,h14,h7,h8,h9,O⟩
  case pos =>
   have hnq:nq=qx:=by
    by_cases hxp:x=0
    ·rcases hf with ⟨_,h⟩ | ⟨h,_⟩
     ·rw [h,(hx0 hxp).2]
     ·omega
    ·have hd:=(hdiv hxp).1 hxz
     rcases hf with ⟨h,_⟩ | ⟨_,h,_⟩
     ·exact absurd h hxp
     ·rw [h,hd]
   subst hnq
   have hA0:=fC t.px (tp * qy+nq)
   have hA1:=eh t.px (tp * qy+nq)
   have hA2:=fI t.px (tp * qy+nq)
   rw [← hm] at hA0 hA1 hA2
   obtain ⟨g1,g2,g3,g4⟩:=bX m
   have k0:=H.old (hpx.cellv (af (k:=.u8) (f:=ap t.px) (j:=4 * (tp * qy+nq)+0) ω)) hn2
   have k1:=H.old (hpx.cellv (af (k:=.u8) (f:=ap t.px) (j:=4 * (tp * qy+nq)+1) ω)) hn2
   have k2:=H.old (hpx.cellv (af (k:=.u8) (f:=ap t.px) (j:=4 * (tp * qy+nq)+2) ω)) hn2
   rw [hA0] at k0
   rw [hA1] at k1
   rw [hA2] at k2
   refine CT O ω (Cy (bH η (aK O (aU gu O (aC jg O (H.old η η) (ai η (ao O O (fX (b:=0) ω) (dU am O O O (aC aQ O k0 (cm mE O (rl _ g2) (cm lA O (jm (by have:=lM _ g2;omega)) (az O (Lt (Cy (bH η (aK O ?_))))))))))))))))
   refine aU gu O (aC jg O (H.old η η) (ai η (ao O O (fX (b:=1) ω) (dU am O O O (aC aQ O k1 (cm mE O (rl _ g3) (cm lA O (jm (by have:=lM _ g3;omega)) (az O (Lt (Cy (bH η (aK O (aU gu O (aC jg O (H.old η η) (ai η (ao O O (fX (b:=2) ω) (dU am O O O ?_)))))))))))))))))
   refine aC aQ O k2 (cm mE O (rl _ g4) (cm lA O (jm (by have:=lM _ g4;omega)) (az O (Lt (Cr (ai η (ao O O (fX (b:=4) ω) (az O (Lt ?_)))))))))
   exact ⟨h0,h1,h2,h10,h11,h12,h13,h15,O,O,O,O,O⟩
 case refine_2 =>
 clear h0 h1 h2 h10 h11 h12 h13 h15 h14 h7 h8 h9 hf f7 f8 f9 ρ
 rintro ρ w' ⟨h0,h1,h2,h10,h11,h12,h13,h15,h14,h7,h8,h9,rfl⟩
 obtain ⟨i,hi⟩:∃ i,i=Y0+x:=⟨_,rfl⟩
 rw [← hi] at H hP
 have hil2:i<inp.length:=ω
 have hst:=jP (f:=F) hil2
 have hml:=jj (f:=F) (l:=inp) (i:=i) ω
 have hge:=pN (f:=F) (l:=inp) (i:=i) ω (Nat.le_refl i)
 have hFF:F (gN F inp i) (inp.getD i 0)=iV m (inp.getD i 0):=by
  have e:∀ (l:List Nat) (p:Nat),l.length=i→F l p=iV m p:=fun l p hl => by
   rw [hF]
   unfold kz dS
   obtain ⟨e1,e2⟩:=uL (show y * t.wd+x=i by omega) hxw
   rw [hl,e1,e2,hm,htp,hqy,hqx]
  exact e _ _ (eu ω)
 rw [hFF,← hge] at hst
 generalize nu F inp i=M at *
 have hA0:=fC M i
 have hA1:=eh M i
 have hA2:=fI M i
 have hA3:=fV M i
 rw [← hP] at hA0 hA1 hA2 hA3
 clear hge hFF
 generalize M.getD i 0=A at *
 obtain ⟨hq1,hq2,hq3,hq4,_⟩:=rV m A
 have hset:=mU (l:=M) (i:=i) ω (iV m A)
 rw [hq1,hq2,hq3,hq4,← hP] at hset
 obtain ⟨m1,m2,m3,m4⟩:=bX m
 obtain ⟨a1,a2,a3,a4⟩:=bX A
 refine Cy (bU η (ai η (ao O O (fX (b:=0) ω) (dU am O O O (aC (v:=.int .u8 (pR A:Nat)) aQ O (H.cell 0 O ((af ω).trans (by rw [hA0]))) (az O (Lt (Cy (bU η (ai η (ao O O (fX (b:=1) ω) (dU am O O O (aC (v:=.int .u8 (pG A:Nat)) aQ O (H.cell 0 O ((af ω).trans (by rw [hA1]))) (az O (Lt ?_)))))))))))))))
 refine Cy (bU η (ai η (ao O O (fX (b:=2) ω) (dU am O O O (aC (v:=.int .u8 (pB A:Nat)) aQ O (H.cell 0 O ((af ω).trans (by rw [hA2]))) (az O (Lt (Cy (ai O (ai η (ai O (cm mE O (rl _ a3) (cm lA O (jm (by have:=lM _ a3;omega)) (Lp (zK O O) (cm oe O O (Lp (Aj O O ω) ?_))))))))))))))))
 refine cm (r:=(dA (pB m) (pG A):Nat)) gP O (Dg _ _ m4 a3) (ao O O (i5) (az O (Lt (Cy (ai O (ai η (ai O (cm mE O (rl _ a3) (cm lA O (jm (by have:=lM _ a3;omega)) (Lp (zK O O) (cm oe O O (Lp (Aj O O ω) (cm (r:=(dA (pG m) (pG A):Nat)) gP O (Dg _ _ m3 a3) (ao O O (i5) (az O (Lt ?_))))))))))))))))
 have hR8:(pR A+dA (pB m) (pG A)) % 256<256:=Nat.mod_lt _ ω
 refine Cy (ai O (ai η (ai O (cm mE O (rl _ hR8) (cm lA O (jm (by have:=lM _ hR8;omega)) (Lp (zK O O) (cm oe O O (Lp (Aj O O ω) (cm (r:=(dA (pR m) ((pR A+dA (pB m) (pG A)) % 256):Nat)) gP O (Dg _ _ m2 hR8) (ao O O (i5) (az O (Lt (Cy (bU η (ai η (ao O O (fX (b:=0) ω) ?_))))))))))))))))
 refine ai O (dU am O O O (aP H 0 cZ O O O ω ?_))
 intro w H
 refine Lt (Cy (bU η (ai η (ao O O (fX (b:=2) ω) (ai O (dU am O O O (aP H 0 cZ O O O ω ?_)))))))
 intro w H
 try simp only [List.set,List.eraseIdx] at H
 refine Lt ?_
 rw [aW (g:=ap (M.set i (iV m A))) (fun j _ => by
  rw [hset]
  by_cases h3:j=P+3
  ·rw [if_pos h3,if_neg ω,if_neg ω,h3,hA3]
  ·rw [if_neg h3]
   by_cases h2:j=P+2
   ·rw [if_pos h2,if_pos h2,Nat.mod_add_mod]
   ·rw [if_neg h2,if_neg h2]
    by_cases h1:j=P+1
    ·rw [if_pos h1,if_neg ω,h1,hA1]
    ·rw [if_neg h1]),hst] at H
 refine Cr (ai η (ao O O (fX (b:=4) ω) (az O (Ln (aF (tn (Cr (ai η (ao O O (fX (b:=1) ω) (az O (Lt ?_)))))))))))
 exact ⟨t.wd - (x+1),ω,x+1,qx+1,P+4,O,ω,ω,h0,h1,h2,O,h11,h12,h13,O,h14,⟨_,_,_,h7,h8,h9,.inr ⟨ω,by rw [Nat.add_sub_cancel,hqx],by rw [Nat.add_sub_cancel,← hqx,hm],by rw [Nat.add_sub_cancel,← hqx,hm],by rw [Nat.add_sub_cancel,← hqx,hm]⟩⟩,by rw [← Nat.add_assoc,← hi];exact H⟩
def lY (w b:Nat) (tab inp:List Nat) (at_:Nat):Nat:=tab.getD (pG (inp.getD (at_ / w * aq w b+at_ % w / 2 ^ b) 0) / 2 ^ (8 / 2 ^ b * (at_ % w % 2 ^ b)) % 2 ^ (8 / 2 ^ b)) 0
def jf (w h b:Nat) (tab inp:List Nat):List Nat:=(List.range (w * h)).map (lY w b tab inp)
def vQ (tab:List Nat) (acc:List Nat) (p:Nat):Nat:=tab.getD (pG p) 0
theorem BS (g:Nat→Nat):∀ (l acc:List Nat),i4 (fun _ p => g p) acc l=acc++l.map g
 | [],acc => by simp [i4]
 | p :: l,acc => by rw [i4,BS g l];simp
theorem yr {w h:Nat} (tab inp:List Nat) (hw:1≤w) (hl:inp.length=w * h):jf w h 0 tab inp=i4 (vQ tab) [] inp:=by
 rw [show i4 (vQ tab) [] inp=inp.map (fun p => tab.getD (pG p) 0) from by rw [show vQ tab=fun _ p => tab.getD (pG p) 0 from rfl,BS];simp]
 unfold jf
 rw [← hl]
 apply List.ext_getElem
 ·simp
 ·intro i h1 h2
  simp only [List.length_map,List.length_range] at h1
  simp only [List.getElem_map,List.getElem_range,lY]
  have e1:aq w 0=w:=by unfold aq;simp
  have e2:i / w * w+i % w / 2 ^ 0=i:=by rw [Nat.pow_zero,Nat.div_one,Nat.mul_comm];exact Nat.div_add_mod i w
  have e3:=(bX inp[i]).2.2.1
  rw [e1,e2,show inp.getD i 0=inp[i] by simp [h1]]
  simp only [Nat.pow_zero,Nat.div_one,Nat.mod_one,Nat.mul_zero]
  rw [Nat.mod_eq_of_lt ω]
theorem pu (w h b:Nat) (tab inp:List Nat):(jf w h b tab inp).length=w * h:=by simp [jf]
theorem zL {w h b i:Nat} {tab inp:List Nat} (hi:i<w * h):(jf w h b tab inp).getD i 0=lY w b tab inp i:=by simp [jf,hi]
theorem ED (W:World) (btr off:Nat) (t:Tr) (bpx capx bp cap ht:Nat) (inp:List Nat) (hT:GY W btr off t (.slice (aT bpx) 1024 capx)) (hO:B4 ht t) (hk:t.kind=3)
  (hpx:ff W bpx (bM .u8 (ap t.px) capx) 5) (hlc:1024≤capx) (hn1:btr ∉ [bp]) (hn2:bpx ∉ [bp]) (hh:1≤ht) (hh2:ht≤16384)
  (hb:ff W bp (bM .u8 (ap inp) cap) 5) (hil:inp.length=aq t.wd t.bits * ht) (hcap:4 * inp.length≤cap) (hc2:cap≤1073742848) :
  Calls Tryz.prog 127 #[.pointer (some ⟨btr,off,none⟩),.slice (aT bp) (4 * inp.length) cap,.int .i32 (ht:Nat)] W (tR bp (jf t.wd ht t.bits t.px inp) W):=by
 have H:St W [bp] [aa bp (bM .u8 (ap inp) cap) 5] W:=gQ hb
 obtain ⟨hb3,hpl⟩:=hO.index hk
 obtain ⟨hw,hw2⟩:=hO.wd
 have hT1:=hT.wd
 have hT2:=hT.bits
 have hT3:=hT.px
 have hkp:∀ (w:World),St W [bp] [] w→True:=fun _ _ => trivial
 refine enter (m:=192) Tryz.func127 O Tryz.ntmps127 O (Cy (bI O (Lt (Cs (Cy (bH O (aK O (aU ei O (aC bD O (H.old η η) (bF O O (Lt ?_)))))))))))
 by_cases hb0:t.bits=0
 case pos =>
  have hout:=yr (w:=t.wd) (h:=ht) t.px inp hw (by rw [hil,hb0];unfold aq;simp)
  rw [← hb0] at hout
  rw [hout]
  refine CT O ω (Cs (Cy (az O (Lt ?_))))
  rw [← qd (f:=vQ t.px) inp] at H
  refine Cb ?_
  refine Cl (fun mm ρ w' => ∃ i,mm=inp.length - i∧i≤inp.length∧ρ 0=.pointer (some ⟨btr,off,none⟩)∧ρ 1=.slice (aT bp) (4 * inp.length) cap∧ρ 7=iT (4 * i)∧St W [bp] [aa bp (bM .u8 (ap (nu (vQ t.px) inp i)) cap) 5] w') inp.length
   ⟨0,rfl,ω,rfl,rfl,rfl,H⟩ ?_
  clear H
  rintro mm ρ w1 ⟨i,rfl,hi,h0,h1,h7,H⟩
  refine Cs (Cy (ai η (bU η (bG am O (bP O O (Lt ?_))))))
  by_cases hlt:i<inp.length
  case pos =>
   have hst:=jP (f:=vQ t.px) hlt
   have hml:=jj (f:=vQ t.px) hi
   have hge:=pN (f:=vQ t.px) hi (Nat.le_refl i)
   rw [show vQ t.px (gN (vQ t.px) inp i) (inp.getD i 0)=t.px.getD (pG (inp.getD i 0)) 0 from rfl,← hge] at hst
   generalize nu (vQ t.px) inp i=M at *
   have hA1:=eh M i
   obtain ⟨_,_,g8,_⟩:=bX (M.getD i 0)
   clear hge
   generalize pG (M.getD i 0)=g at *
   obtain ⟨q,hq⟩:∃ q,q=t.px.getD g 0:=⟨_,rfl⟩
   rw [← hq] at hst
   have e0:=fC t.px g
   have e1:=eh t.px g
   have e2:=fI t.px g
   have e3:=fV t.px g
   rw [← hq] at e0 e1 e2 e3
   have c0:=hpx.cellv (af (k:=.u8) (f:=ap t.px) (j:=4 * g+0) ω)
   have c1:=hpx.cellv (af (k:=.u8) (f:=ap t.px) (j:=4 * g+1) ω)
   have c2:=hpx.cellv (af (k:=.u8) (f:=ap t.px) (j:=4 * g+2) ω)
   have c3:=hpx.cellv (af (k:=.u8) (f:=ap t.px) (j:=4 * g+3) ω)
   rw [e0] at c0
   rw [e1] at c1
   rw [e2] at c2
   rw [e3] at c3
   have hset:=mU (l:=M) (i:=i) ω q
   refine CT O ω (Ck (tn (Cs (Cb (Cy (bU η (ai η (ao O O (ck (b:=1) ω) (dU am O O O (aC (v:=.int .u8 (g:Nat)) aQ O (H.cell 0 O ((af ω).trans (by rw [hA1]))) (cm gx O (ew ω) (Lp (cX O O (KM (a:=4) ω)) (az O (Lt (Cy (bU η ?_))))))))))))))))
   refine ai η (ao O O (ck (b:=0) ω) (bH η (aK O (aU gu O (aC jg O (H.old η η) (ai O (ao O O (nT (b:=0) ω) (dU am O O O (aC (v:=.int .u8 (pR q:Nat)) aQ O (H.old c0 hn2) (dU am O O O (aP H 0 cZ O O O ω ?_)))))))))))
   intro w H
   refine Lt (Cy (bU η (ai η (ao O O (ck (b:=1) ω) (bH η (aK O (aU gu O (aC jg O (H.old η η) (ai O (ao O O (nT (b:=1) ω) (dU am O O O (aC (v:=.int .u8 (pG q:Nat)) aQ O (H.old c1 hn2) (dU am O O O (aP H 0 cZ O O O ω ?_))))))))))))))
   intro w H
   refine Lt (Cy (bU η (ai η (ao O O (ck (b:=2) ω) (bH η (aK O (aU gu O (aC jg O (H.old η η) (ai O (ao O O (nT (b:=2) ω) (dU am O O O (aC (v:=.int .u8 (pB q:Nat)) aQ O (H.old c2 hn2) (dU am O O O (aP H 0 cZ O O O ω ?_))))))))))))))
   intro w H
   refine Lt (Cr (bU η (ai η (ao O O (ck (b:=3) ω) (bH η (aK O (aU gu O (aC jg O (H.old η η) (ai O (ao O O (nT (b:=3) ω) (dU am O O O (aC (v:=.int .u8 (pA q:Nat)) aQ O (H.old c3 hn2) (dU am O O O (aP H 0 cZ O O O ω ?_))))))))))))))
   intro w H
   try simp only [List.set,List.eraseIdx] at H
   refine Ln (aF (tn ?_))
   rw [aW (g:=ap (M.set i q)) (fun j _ => hset j),hst] at H
   refine Cr (ai η (ao O O (ck (b:=4) ω) (az O (Lt ?_))))
   exact ⟨inp.length - (i+1),ω,i+1,O,ω,h0,h1,O,H⟩
  case neg =>
  have hl:(i4 (vQ t.px) [] inp).length=inp.length:=by rw [fY];simp
  obtain rfl:i=inp.length:=ω
  rw [tP] at H
  refine CF O ω (Cx (ax (ax (br (tn (Cy (bU η (gS O (Lt (Ct (aE ?_)))))))))))
  exact ak O O ⟨bp,cap,by rw [hl];rfl,ω,hc2,.inl rfl,H.blk (i:=0) rfl,H.frm⟩
 case neg =>
 obtain ⟨ea,hea⟩:∃ ea,ea=8 / 2 ^ t.bits:=⟨_,rfl⟩
 obtain ⟨ub,hub⟩:∃ ub,ub=2 ^ t.bits:=⟨_,rfl⟩
 have hcase:(t.bits=1∧ea=4∧ub=2)∨(t.bits=2∧ea=2∧ub=4)∨(t.bits=3∧ea=1∧ub=8):=by
  have:t.bits=1∨t.bits=2∨t.bits=3:=ω
  rcases this with h | h | h <;> rw [hea,hub,h] <;> decide
 refine CF O ω (Ck (tn (Cs (Cd aJ κ ?_))))
 intro w hsame
 replace H:=H.same hsame
 refine mY O (du O (dD ei O (aD bD O (H.old η η) (Sp (d6 (r:=(ea:Int)) O O ω (by rw [hea];exact jd (k:=.u32) (a:=8) (b:=t.bits) (by show t.bits≤32;omega))) (oZ O (oZ O (oZ O (Sn (tn (Cs (Cy (bH O (aK O (aU ei O (aC bD O (H.old η η) (Lt ?_))))))))))))))))
 refine aH (fun ρ w' => ρ 0=.pointer (some ⟨btr,off,none⟩)∧ρ 1=.slice (aT bp) (4 * inp.length) cap∧ρ 2=.int .i32 (ht:Nat)∧ρ 9=.int .u32 ((2 ^ ea - 1:Nat):Int)∧ρ 10=.int .i32 ((ub - 1:Nat):Int)∧ρ 11=.int .u32 (ea:Nat)∧St W [bp] [aa bp (bM .u8 (ap inp) cap) 5] w') ?_ ?_
 case refine_1 =>
  refine Cb ?_
  rcases hcase with ⟨h1,h2,h3⟩ | ⟨h1,h2,h3⟩ | ⟨h1,h2,h3⟩
  case inl =>
   refine Cy (bF O O (cU O (Lt (CT O ω (Cr (az O (az O (Ln (aF (tn ?_))))))))))
   exact ⟨O,O,O,by rw [h2];rfl,by rw [h3];rfl,O,H⟩
  case inr.inl =>
   refine Cy (bF O O (cU O (Lt (CF O ω (Cy (bF O O (cU O (Lt (CT O ω (Cr (az O (az O (Ln (aF (tn ?_)))))))))))))))
   exact ⟨O,O,O,by rw [h2];rfl,by rw [h3];rfl,O,H⟩
  case inr.inr =>
   refine Cy (bF O O (cU O (Lt (CF O ω (Cy (bF O O (cU O (Lt (CF O ω (Cy (bF O O (cU O (Lt ?_)))))))))))))
   refine CT O ω (Cr (az O (az O (Ln (aF (tn ?_))))))
   exact ⟨O,O,O,by rw [h2];rfl,by rw [h3];rfl,O,H⟩
 case refine_2 =>
 clear H
 rintro ρ w1 ⟨h0,h1,h2,h9,h10,h11,H⟩
 obtain ⟨n,hn⟩:∃ n,n=t.wd * ht:=⟨_,rfl⟩
 have hnB:n≤268435456:=by rw [hn];exact Nat.mul_le_mul (show _≤16384 by omega) (show _≤16384 by omega)
 have h4n:4 * t.wd * ht=4 * n:=by rw [hn,Nat.mul_assoc]
 obtain ⟨out,hout⟩:∃ out,out=jf t.wd ht t.bits t.px inp:=⟨_,rfl⟩
 have hol:out.length=n:=by rw [hout,pu,hn]
 have hog:∀ i,i<n→out.getD i 0=lY t.wd t.bits t.px inp i:=fun i hi => by rw [hout];exact zL ω
 rw [← hout]
 clear hout
 refine Cs ?_
 refine VC.held (cf [bp] W) aJ (by with_reducible repeat (first | refine fB ?_ | refine eP.blk ?_ | refine fy ?_ | refine dP ?_ | exact eP.done)) ?_
 intro w hsame
 replace H:=H.same hsame
 refine Ht 0 O κ κ κ O H.frm (fun w hI => YP η) (Ht 1 O κ κ κ O H.frm (fun w hI => iL O) (Ht 2 O κ κ κ O H.frm (fun w hI => iQ kA O) (Ht 3 O κ κ κ O H.frm (fun w hI => ef nP O (hI.cell hT1 hn1)) (Ht 4 O κ κ κ O H.frm (fun w hI => cX O O (CJ (a:=4) ω)) (Ht 5 O κ κ κ O H.frm (fun w hI => YI η) (Ht 6 O κ κ κ O H.frm (fun w hI => cX (r:=((4 * n:Nat):Int)) O O (by rw [← h4n];exact CJ ω)) (Ht 8 O κ κ κ O H.frm (fun w hI => AI O) (Ht 9 O κ κ κ O H.frm (fun w hI => AI O) (Ht 10 O κ κ κ O H.frm (fun w hI => AI O) (I0 7 O κ H xp (4 * n) (4 * n) O O O O ω ω ω O ?_))))))))))
 intro w bd hnd hbd H
 refine Ht 11 O κ κ κ O H.frm (fun w hI => AS O) (g7 κ (tn ?_))
 rw [dz,fK] at H
 have hstart:bM .u8 (fun _ => 0) (4 * n)=bM .u8 (fun j => if j<0 then ap out j else 0) (4 * n):=aW fun j _ => if_neg ω
 rw [hstart] at H
 obtain ⟨sh,hsh⟩:∃ sh,sh=aq t.wd t.bits:=⟨_,rfl⟩
 obtain ⟨hs1,hs2⟩:=cu (n:=t.wd) (b:=t.bits) hw
 rw [← hsh] at hs1 hs2 hil
 have hub1:0<ub:=by rw [hub];exact Nat.two_pow_pos _
 have hub8:2≤ub∧ub≤8:=ω
 have hea8:1≤ea∧ea≤4:=ω
 refine Cs (Cy (az O (Lt (Cb ?_))))
 refine Cl (fun mm ρ w' => ∃ y D P,mm=ht - y∧y≤ht∧D=4 * (y * t.wd)∧P=4 * (y * sh)∧ρ 0=.pointer (some ⟨btr,off,none⟩)∧ρ 1=.slice (aT bp) (4 * inp.length) cap∧ρ 2=.int .i32 (ht:Nat)∧ρ 9=.int .u32 ((2 ^ ea - 1:Nat):Int)∧ρ 10=.int .i32 ((ub - 1:Nat):Int)∧ρ 11=.int .u32 (ea:Nat) ∧
  ρ 12=iT D∧ρ 13=iT P∧(∃ v:Nat,ρ 14=.int .u32 (v:Nat))∧ρ 15=.slice (aT bd) (4 * n) (4 * n)∧ρ 16=.int .i32 (y:Nat) ∧
  St W [bp] [aa bd (bM .u8 (fun j => if j<D then ap out j else 0) (4 * n)) 5,aa bp (bM .u8 (ap inp) cap) 5] w') ht
  ⟨0,0,0,rfl,ω,ω,ω,h0,h1,h2,h9,h10,h11,rfl,rfl,⟨0,rfl⟩,rfl,rfl,H⟩ ?_
 clear h0 h1 h2 h9 h10 h11 H hstart ρ
 rintro mm ρ w2 ⟨y,D,P,rfl,hy,hD,hP,h0,h1,h2,h9,h10,h11,h12,h13,⟨v,h14⟩,h15,h16,H⟩
 refine Cs (Cy (ai η (ai η (bP O O (Lt ?_)))))
 by_cases hlt:y<ht
 case neg =>
  obtain rfl:y=ht:=ω
  have hDn:D=4 * n:=by rw [hD,hn,Nat.mul_comm y]
  rw [aW (g:=ap out) (fun j hj => by rw [if_pos ω])] at H
  refine CF O ω (Cx (ax (ax (br (tn (Cy (bU η (gS O (Lt (Ct ?_))))))))))
  exact ak O O ⟨bd,4 * n,by rw [hol];rfl,ω,ω,.inr (by have:=H.high;omega),H.blk (i:=0) rfl,H.frm⟩
 case pos =>
 have hyw:(y+1) * t.wd≤n:=by rw [hn,Nat.mul_comm];exact Nat.mul_le_mul_left _ hlt
 have hys:(y+1) * sh≤inp.length:=by rw [hil,Nat.mul_comm];exact Nat.mul_le_mul_left _ hlt
 rw [Nat.succ_mul] at hyw hys
 obtain ⟨Y0,hY0⟩:∃ Y0,Y0=y * t.wd:=⟨_,rfl⟩
 obtain ⟨S0,hS0⟩:∃ S0,S0=y * sh:=⟨_,rfl⟩
 rw [← hY0] at hyw hD
 rw [← hS0] at hys hP
 refine CT O ω (Ck (tn (Cs (Cb (Cy (az O (Lt (Cb ?_))))))))
 refine Cl (fun mm ρ w' => ∃ x nq D P v,mm=t.wd - x∧x≤t.wd∧D=4 * (Y0+x)∧P=4 * (S0+nq)∧((x=0∧nq=0)∨(0<x∧nq=(x - 1) / ub+1∧v=pG (inp.getD (S0+(x - 1) / ub) 0) / 2 ^ (ea * ((x - 1) % ub+1)))) ∧
  ρ 0=.pointer (some ⟨btr,off,none⟩)∧ρ 1=.slice (aT bp) (4 * inp.length) cap∧ρ 2=.int .i32 (ht:Nat)∧ρ 9=.int .u32 ((2 ^ ea - 1:Nat):Int)∧ρ 10=.int .i32 ((ub - 1:Nat):Int)∧ρ 11=.int .u32 (ea:Nat) ∧
  ρ 12=iT D∧ρ 13=iT P∧ρ 14=.int .u32 (v:Nat)∧ρ 15=.slice (aT bd) (4 * n) (4 * n)∧ρ 16=.int .i32 (y:Nat)∧ρ 17=.int .i32 (x:Nat) ∧
  St W [bp] [aa bd (bM .u8 (fun j => if j<D then ap out j else 0) (4 * n)) 5,aa bp (bM .u8 (ap inp) cap) 5] w') t.wd
  ⟨0,0,D,P,v,rfl,ω,ω,ω,.inl ⟨rfl,rfl⟩,h0,h1,h2,h9,h10,h11,h12,h13,h14,h15,h16,rfl,H⟩ ?_
 clear h0 h1 h2 h9 h10 h11 h12 h13 h14 h15 h16 H hD hP D P v
 clear ρ
 rintro mm ρ w3 ⟨x,nq,D,P,v,rfl,hx,hD,hP,hv,h0,h1,h2,h9,h10,h11,h12,h13,h14,h15,h16,h17,H⟩
 refine Cs (Cy (ai η (bH η (aK O (aU kA O (aC nP O (H.old η η) (bP O O (Lt ?_))))))))
 by_cases hxw:x<t.wd
 case neg =>
  obtain hxe:x=t.wd:=ω
  have hnq:nq=sh:=by
   rcases hv with ⟨h,_⟩ | ⟨_,h,_⟩
   ·omega
   ·rw [h,hxe,hsh]
    unfold aq
    rw [← hub]
    have e1:t.wd+ub - 1=(t.wd - 1)+ub:=ω
    rw [e1,Nat.add_div_right _ hub1]
  rw [hxe] at hD
  rw [hnq] at hP
  refine CF O ω (Cx (ax (ax (br (aF (tn (Cr (ai η (ao O O (fX (b:=1) ω) (az O (Lt ?_)))))))))))
  exact ⟨ht - (y+1),ω,y+1,D,P,O,ω,by rw [show (y+1) * t.wd=Y0+t.wd by rw [Nat.succ_mul,hY0]];exact hD,by rw [show (y+1) * sh=S0+sh by rw [Nat.succ_mul,hS0]];exact hP,h0,h1,h2,h9,h10,h11,h12,h13,⟨v,h14⟩,h15,O,H⟩
 case pos =>
 have hti:=wg (b:=t.bits) hxw
 rw [← hsh,← hub] at hti
 obtain ⟨qx,hqx⟩:∃ q,q=x / ub:=⟨_,rfl⟩
 rw [← hqx] at hti
 have hdiv:x≠0→_:=fun h => wm (x:=x) (t:=ub) hub1 ω
 rw [← hqx] at hdiv
 have hx0:x=0→x % ub=0∧qx=0:=fun h => by rw [hqx,h];exact ⟨Nat.zero_mod _,Nat.zero_div _⟩
 have hxm:x % ub<ub:=Nat.mod_lt _ hub1
 have hmods:x % ub≠0→x≠0→(x - 1) % ub+1=x % ub:=fun h hx0' => by
  have e1:=Nat.div_add_mod x ub
  have e2:=Nat.div_add_mod (x - 1) ub
  rw [← (hdiv hx0').2 h] at e2
  rw [← hqx] at e1
  omega
 have hand:x &&& (ub - 1)=x % ub:=by rw [hub];exact Nat.and_two_pow_sub_one_eq_mod x _
 obtain ⟨g,hg⟩:∃ g,g=pG (inp.getD (S0+qx) 0):=⟨_,rfl⟩
 have hg8:g<256:=by rw [hg];exact (bX _).2.2.1
 refine CT O ω (Ck (tn (Cs (Cb (Cs (Cy (ai η (ai η (Lp (gZ (r:=(x % ub:Nat)) O O (by rw [← hand];exact La ω)) (bF O O (Lt ?_)))))))))))
 refine aH (fun ρ w' => ∃ P,P=4 * (S0+(qx+1))∧ρ 0=.pointer (some ⟨btr,off,none⟩)∧ρ 1=.slice (aT bp) (4 * inp.length) cap∧ρ 2=.int .i32 (ht:Nat)∧ρ 9=.int .u32 ((2 ^ ea - 1:Nat):Int)∧ρ 10=.int .i32 ((ub - 1:Nat):Int)∧ρ 11=.int .u32 (ea:Nat) ∧
  ρ 12=iT D∧ρ 13=iT P∧ρ 14=.int .u32 (g / 2 ^ (ea * (x % ub)):Nat)∧ρ 15=.slice (aT bd) (4 * n) (4 * n)∧ρ 16=.int .i32 (y:Nat)∧ρ 17=.int .i32 (x:Nat)∧w3=w') ?_ ?_
 case refine_1 =>
  by_cases hxz:x % ub=0
  case neg =>
   have hxp:x≠0:=fun h => hxz (hx0 h).1
   have hd:=(hdiv hxp).2 hxz
   rcases hv with ⟨h,_⟩ | ⟨_,hnq,hv⟩
   ·exact absurd h hxp
   rw [← hd] at hnq hv
   rw [← hg,hmods hxz hxp] at hv
   refine CF O ω (Ck (tn ?_))
   exact ⟨P,by rw [← hnq];exact hP,h0,h1,h2,h9,h10,h11,h12,h13,by rw [← hv];exact h14,h15,h16,h17,O⟩
  case pos =>
   have hnq:nq=qx:=by
    by_cases hxp:x=0
    ·rcases hv with ⟨_,h⟩ | ⟨h,_⟩
     ·rw [h,(hx0 hxp).2]
     ·omega
    ·have hd:=(hdiv hxp).1 hxz
     rcases hv with ⟨h,_⟩ | ⟨_,h,_⟩
     ·exact absurd h hxp
     ·rw [h,hd]
   rw [hnq] at hP
   have e1:=eh inp (S0+qx)
   rw [← hg,← hP] at e1
   refine CT O ω (Cy (bU η (ai η (ao O O (ck (b:=1) ω) (dU am O O O (aC (v:=.int .u8 (g:Nat)) aQ O (H.cell 1 O ((af ω).trans (by rw [e1]))) (cm gx O (ew ω) (az O (Lt (Cr (ai η (ao O O (ck (b:=4) ω) (az O (Lt ?_))))))))))))))
   exact ⟨P+4,ω,h0,h1,h2,h9,h10,h11,h12,O,by rw [hxz,Nat.mul_zero,Nat.pow_zero,Nat.div_one];rfl,h15,h16,h17,O⟩
 case refine_2 =>
 clear h0 h1 h2 h9 h10 h11 h12 h13 h14 h15 h16 h17 hv v hP P
 clear ρ
 rintro ρ w' ⟨P,hP,h0,h1,h2,h9,h10,h11,h12,h13,h14,h15,h16,h17,rfl⟩
 obtain ⟨i,hi⟩:∃ i,i=Y0+x:=⟨_,rfl⟩
 rw [← hi] at hD
 have hpx2:lY t.wd t.bits t.px inp i=t.px.getD (g / 2 ^ (ea * (x % ub)) % 2 ^ ea) 0:=by
  unfold lY
  obtain ⟨d1,d2⟩:=uL (show y * t.wd+x=i by omega) hxw
  rw [d1,d2,← hea,← hsh,← hS0,← hub,← hqx,← hg]
 have hogi:=hog i ω
 rw [hpx2] at hogi
 obtain ⟨v,hv⟩:∃ v,v=g / 2 ^ (ea * (x % ub)):=⟨_,rfl⟩
 have hvg:v≤g:=by rw [hv];exact Nat.div_le_self _ _
 have hp16:2 ^ ea≤2 ^ 4:=Nat.pow_le_pow_right ω hea8.2
 have hp0:=Nat.two_pow_pos ea
 have hvm:v % 2 ^ ea<2 ^ ea:=Nat.mod_lt _ hp0
 rw [← hv] at h14 hogi
 have hvand:v &&& (2 ^ ea - 1)=v % 2 ^ ea:=Nat.and_two_pow_sub_one_eq_mod v ea
 obtain ⟨k,hk2⟩:∃ k,k=v % 2 ^ ea:=⟨_,rfl⟩
 rw [← hk2] at hogi hvm hvand
 obtain ⟨q,hq⟩:∃ q,q=t.px.getD k 0:=⟨_,rfl⟩
 rw [← hq] at hogi
 have e0:=fC t.px k
 have e1:=eh t.px k
 have e2:=fI t.px k
 have e3:=fV t.px k
 rw [← hq] at e0 e1 e2 e3
 have o0:=fC out i
 have o1:=eh out i
 have o2:=fI out i
 have o3:=fV out i
 rw [hogi,← hD] at o0 o1 o2 o3
 have c0:=hpx.cellv (af (k:=.u8) (f:=ap t.px) (j:=4 * k+0) ω)
 have c1:=hpx.cellv (af (k:=.u8) (f:=ap t.px) (j:=4 * k+1) ω)
 have c2:=hpx.cellv (af (k:=.u8) (f:=ap t.px) (j:=4 * k+2) ω)
 have c3:=hpx.cellv (af (k:=.u8) (f:=ap t.px) (j:=4 * k+3) ω)
 rw [e0] at c0
 rw [e1] at c1
 rw [e2] at c2
 rw [e3] at c3
 refine Cy (ai η (ai η (Lp (gZ (r:=(k:Int)) O O (by rw [← hvand];exact G0 ω)) (Lp (cX O O (KM (a:=4) ω)) (az O (Lt (Cy (bU η (ai η (ao O O (ck (b:=0) ω) (bH η (aK O (aU gu O (aC jg O (H.old η η) (ai O (ao O O (nT (b:=0) ω) ?_))))))))))))))))
 refine dU am O O O (aC (v:=.int .u8 (pR q:Nat)) aQ O (H.old c0 hn2) (dU am O O O (aP H 0 cZ O O O ω ?_)))
 intro w H
 refine Lt (Cy (bU η (ai η (ao O O (ck (b:=1) ω) (bH η (aK O (aU gu O (aC jg O (H.old η η) (ai O (ao O O (nT (b:=1) ω) (dU am O O O (aC (v:=.int .u8 (pG q:Nat)) aQ O (H.old c1 hn2) (dU am O O O (aP H 0 cZ O O O ω ?_))))))))))))))
 intro w H
 refine Lt (Cy (bU η (ai η (ao O O (ck (b:=2) ω) (bH η (aK O (aU gu O (aC jg O (H.old η η) (ai O (ao O O (nT (b:=2) ω) (dU am O O O (aC (v:=.int .u8 (pB q:Nat)) aQ O (H.old c2 hn2) (dU am O O O (aP H 0 cZ O O O ω ?_))))))))))))))
 intro w H
 refine Lt (Cy (bU η (ai η (ao O O (ck (b:=3) ω) (bH η (aK O (aU gu O (aC jg O (H.old η η) (ai O (ao O O (nT (b:=3) ω) (dU am O O O (aC (v:=.int .u8 (pA q:Nat)) aQ O (H.old c3 hn2) (dU am O O O (aP H 0 cZ O O O ω ?_))))))))))))))
 intro w H
 try simp only [List.set,List.eraseIdx] at H
 refine Lt ?_
 rw [aW (g:=fun j => if j<D+4 then ap out j else 0) (fun j _ => by
  by_cases h3:j=D+3
  ·rw [if_pos h3,if_pos ω,h3,o3]
  ·rw [if_neg h3]
   by_cases h2:j=D+2
   ·rw [if_pos h2,if_pos ω,h2,o2]
   ·rw [if_neg h2]
    by_cases h1:j=D+1
    ·rw [if_pos h1,if_pos ω,h1,o1]
    ·rw [if_neg h1]
     by_cases h0:j=D+0
     ·rw [if_pos h0,if_pos ω,h0,o0]
     ·rw [if_neg h0]
      by_cases hj:j<D
      ·rw [if_pos hj,if_pos ω]
      ·rw [if_neg hj,if_neg ω])] at H
 refine Cy (ai η (ao O O (ck (b:=4) ω) (az O (Lt (Cr (ai η (ai η (Lp (d6 (r:=(v / 2 ^ ea:Nat)) O O ω (jd (k:=.u32) (b:=ea) (by show ea≤32;omega))) (az O (Ln (aF (tn (Cr (ai η (ao O O (fX (b:=1) ω) (az O (Lt ?_)))))))))))))))))
 have hvn:v / 2 ^ ea=g / 2 ^ (ea * (x % ub+1)):=by rw [hv,Nat.div_div_eq_div_mul,← Nat.pow_add,Nat.mul_add,Nat.mul_one]
 exact ⟨t.wd - (x+1),ω,x+1,qx+1,D+4,P,v / 2 ^ ea,O,ω,ω,hP,.inr ⟨ω,by rw [Nat.add_sub_cancel,hqx],by rw [Nat.add_sub_cancel,← hqx,← hg];exact hvn⟩,h0,h1,h2,h9,h10,h11,O,h13,O,h15,h16,O,H⟩
end Go.Proofs.YtmgemcffhbnpfaaGreatDoor
set_option maxHeartbeats 16000000
namespace Go.Proofs.YtmgemcffhbnpfaaGreatDoor
open Go
def jb (a b:Nat):Nat:=(a+b) / 2
def gE (a b c:Nat):Nat:=if a+b<c then 0 else if 255<a+b - c then 255 else a+b - c
def gG (a b:Nat):Nat:=if b≤a then (if 255<a+(a - b) / 2 then 255 else a+(a - b) / 2) else a - (b - a) / 2
def iA (a b:Nat):Nat:=if a<b then b - a else a - b
theorem fm {a b:Nat} (ha:a<256) (hb:b<256):jb a b<256:=by unfold jb;omega
theorem v8 {a b:Nat} (ha:a<256) (hb:b<256):iA a b<256:=by unfold iA;split <;> omega
theorem ol (a b c:Nat):gE a b c<256:=by
 unfold gE
 split
 ·omega
 ·split <;> omega
theorem oo {a b:Nat} (ha:a<256):gG a b<256:=by
 unfold gG
 split
 ·split <;> omega
 ·omega
def FH (m l t tl tr:Nat):Nat :=
 if m=1 then l else if m=2 then t else if m=3 then tr else if m=4 then tl else if m=5 then jb (jb l tr) t else if m=6 then jb l tl else if m=7 then jb l t
 else if m=8 then jb tl t else if m=9 then jb t tr else if m=10 then jb (jb l tl) (jb t tr) else if m=12 then gE l t tl else if m=13 then gG (jb l t) tl else 0
def bA (m l t tl tr:Nat):Nat :=
 if m=0 then 4278190080
 else if m=11 then (if iA (pR tl) (pR t)+iA (pG tl) (pG t)+iA (pB tl) (pB t)+iA (pA tl) (pA t)<iA (pR tl) (pR l)+iA (pG tl) (pG l)+iA (pB tl) (pB l)+iA (pA tl) (pA l) then l else t)
 else fQ (FH m (pA l) (pA t) (pA tl) (pA tr)) (FH m (pR l) (pR t) (pR tl) (pR tr)) (FH m (pG l) (pG t) (pG tl) (pG tr)) (FH m (pB l) (pB t) (pB tl) (pB tr))
theorem pZ {m l t tl tr:Nat} (h1:l<256) (h2:t<256) (h3:tl<256) (h4:tr<256):FH m l t tl tr<256:=by
 unfold FH
 have:=fm h1 h4
 have:=fm h1 h3
 have:=fm h2 h4
 repeat' split
 all_goals first | assumption | exact fm η η | exact ol _ _ _ | exact oo (fm η η) | omega
theorem fv (m l t tl tr:Nat) (h:m≠0∧m≠11):pR (bA m l t tl tr)=FH m (pR l) (pR t) (pR tl) (pR tr)∧pG (bA m l t tl tr)=FH m (pG l) (pG t) (pG tl) (pG tr)∧pB (bA m l t tl tr)=FH m (pB l) (pB t) (pB tl) (pB tr)∧pA (bA m l t tl tr)=FH m (pA l) (pA t) (pA tl) (pA tr):=by
 obtain ⟨a1,a2,a3,a4⟩:=bX l
 obtain ⟨b1,b2,b3,b4⟩:=bX t
 obtain ⟨c1,c2,c3,c4⟩:=bX tl
 obtain ⟨d1,d2,d3,d4⟩:=bX tr
 unfold bA
 rw [if_neg h.1,if_neg h.2]
 obtain ⟨e1,e2,e3,e4,_⟩:=eO (pZ (m:=m) a1 b1 c1 d1) (pZ (m:=m) a2 b2 c2 d2) (pZ (m:=m) a3 b3 c3 d3) (pZ (m:=m) a4 b4 c4 d4)
 exact ⟨e2,e3,e4,e1⟩
theorem ym {m:Nat} (h:m=14∨m=15) (l t tl tr:Nat):bA m l t tl tr=0:=by
 have hc:∀ a b c d,FH m a b c d=0:=fun a b c d => by
  unfold FH
  rcases h with rfl | rfl <;> simp
 unfold bA
 rw [if_neg ω,if_neg ω,hc,hc,hc,hc]
 rfl
def iU (w b:Nat) (px acc:List Nat):Nat :=
 if acc.length / w=0 then (if acc.length % w=0 then 4278190080 else acc.getD (acc.length - 1) 0)
 else if acc.length % w=0 then acc.getD (acc.length - w) 0
 else bA (pG (px.getD (dS w b acc.length) 0) % 16) (acc.getD (acc.length - 1) 0) (acc.getD (acc.length - w) 0) (acc.getD (acc.length - w - 1) 0) (acc.getD (acc.length - w+1) 0)
def pz (w b:Nat) (px acc:List Nat) (p:Nat):Nat:=da p (iU w b px acc)
theorem co (W:World) (a b:Nat) (ha:a<256) (hb:b<256):Calls Tryz.prog 128 #[.int .u8 (a:Nat),.int .u8 (b:Nat)] W fun e w' => e=.returned (.int .u8 (jb a b:Nat))∧w'=W:=by
 refine enter (m:=12) Tryz.func128 O Tryz.ntmps128 O (Cy (az O (Lt (Cy (ai O (cm df O (jm ω) (ai O (cm df O (jm ω) (ao O O (fX ω) (Lp (ki O O ω (Ml (b:=2) ω)) (cm iX O (yl ω) (az O (Lt (Ct ?_))))))))))))))
 exact ak O O ⟨O,O⟩
theorem nL (W:World) (a b:Nat) (ha:a<256) (hb:b<256):Calls Tryz.prog 129 #[.int .i32 ((a:Int) - (b:Int))] W fun e w' => e=.returned (.int .i32 (iA a b:Nat))∧w'=W:=by
 refine enter (m:=8) Tryz.func129 O Tryz.ntmps129 O (Cy (az O (Lt (Cs (Cy (ai O (bP O O (Lt ?_))))))))
 by_cases h:a<b
 case pos =>
  refine CT O ω (Cy (ai O (Lp (Lh (r:=(iA a b:Nat)) O (by unfold iA;rw [if_pos h,jm ω];omega)) (az O (Lt (Ct (aE ?_)))))))
  exact ak O O ⟨O,O⟩
 case neg =>
  refine CF O ω (Ck (tn (Cy (ai O (az O (Lt (Ct ?_)))))))
  have e:((iA a b:Nat):Int)=(a:Int) - (b:Int):=by unfold iA;rw [if_neg h];omega
  exact ak O O ⟨by rw [e];rfl,O⟩
theorem o6 (W:World) (a b c:Nat) (ha:a<256) (hb:b<256) (hc:c<256):Calls Tryz.prog 130 #[.int .u8 (a:Nat),.int .u8 (b:Nat),.int .u8 (c:Nat)] W fun e w' => e=.returned (.int .u8 (gE a b c:Nat))∧w'=W:=by
 have hd:gE a b c=if a+b<c then 0 else if 255<a+b - c then 255 else a+b - c:=rfl
 refine enter (m:=22) Tryz.func130 O Tryz.ntmps130 O (Cy (az O (Lt ?_)))
 by_cases h1:a+b<c
 case pos =>
  rw [if_pos h1] at hd
  rw [hd]
  refine Cy (ai O (cm df O (jm ω) (ai O (cm df O (jm ω) (ao O O (fX ω) (ai O (cm df O (jm ω) (bw O O (jm ω) (az O (Lt (Cs (Cy (ai O (bP O O (Lt (CT O ω ?_))))))))))))))))
  refine Cy (az O (Lt (Ct (aE ?_))))
  exact ak O O ⟨O,O⟩
 case neg =>
 rw [if_neg h1] at hd
 refine Cy (ai O (cm df O (jm ω) (ai O (cm df O (jm ω) (ao O O (fX ω) (ai O (cm df O (jm ω) (bw O O (nZ ω) (az O (Lt (Cs (Cy (ai O (bP O O (Lt (CF O ω ?_))))))))))))))))
 refine Ck (tn (Cs (Cy (ai O (Lp (e9 O O) (Lt ?_))))))
 by_cases h2:255<a+b - c
 case pos =>
  rw [if_pos h2] at hd
  rw [hd]
  refine CT O ω (Cy (az O (Lt (Ct (aE ?_)))))
  exact ak O O ⟨O,O⟩
 case neg =>
  rw [if_neg h2] at hd
  rw [hd]
  refine CF O ω (Ck (tn (Cy (ai O (cm iX O (yl ω) (az O (Lt (Ct ?_))))))))
  exact ak O O ⟨O,O⟩
theorem oQ (W:World) (a b:Nat) (ha:a<256) (hb:b<256):Calls Tryz.prog 131 #[.int .u8 (a:Nat),.int .u8 (b:Nat)] W fun e w' => e=.returned (.int .u8 (gG a b:Nat))∧w'=W:=by
 have hd:gG a b=if b≤a then (if 255<a+(a - b) / 2 then 255 else a+(a - b) / 2) else a - (b - a) / 2:=rfl
 refine enter (m:=21) Tryz.func131 O Tryz.ntmps131 O (Cy (az O (Lt ?_)))
 by_cases h1:b≤a
 case pos =>
  rw [if_pos h1] at hd
  refine Cy (ai O (cm df O (jm ω) (ai O (cm df O (jm ω) (ai O (cm df O (jm ω) (bw O O (nZ ω) (Lp (ki O O ω (Ml (b:=2) ω)) (ao O O (fX ω) (az O (Lt (Cs (Cy (ai O (bP O O (Lt ?_))))))))))))))))
  refine CF O ω (Ck (tn (Cs (Cy (ai O (Lp (e9 O O) (Lt ?_)))))))
  by_cases h2:255<a+(a - b) / 2
  case pos =>
   rw [if_pos h2] at hd
   rw [hd]
   refine CT O ω (Cy (az O (Lt (Ct (aE ?_)))))
   exact ak O O ⟨O,O⟩
  case neg =>
   rw [if_neg h2] at hd
   rw [hd]
   refine CF O ω (Ck (tn (Cy (ai O (cm iX O (yl ω) (az O (Lt (Ct ?_))))))))
   exact ak O O ⟨O,O⟩
 case neg =>
 rw [if_neg h1] at hd
 have hq:IntKind.i32.wrap (((a:Int) - (b:Int)).tdiv 2)=-(((b - a) / 2:Nat):Int):=by
  have e:((a:Int) - (b:Int))=-((b - a:Nat):Int):=ω
  rw [e,Int.neg_tdiv,show (((b - a:Nat):Int).tdiv 2)=(((b - a) / 2:Nat):Int) from rfl]
  exact jm ω
 have hneg:¬ a<(b - a) / 2∨a<(b - a) / 2:=ω
 by_cases h2:a<(b - a) / 2
 case pos =>
  rw [show a - (b - a) / 2=0 by omega] at hd
  rw [hd]
  refine Cy (ai O (cm df O (jm ω) (ai O (cm df O (jm ω) (ai O (cm df O (jm ω) (bw O O (jm ω) (Lp (ki O O ω hq) (ao O O (jm ω) (az O (Lt (Cs (Cy (ai O (bP O O (Lt ?_))))))))))))))))
  refine CT O ω (Cy (az O (Lt (Ct (aE ?_)))))
  exact ak O O ⟨O,O⟩
 case neg =>
  rw [hd]
  refine Cy (ai O (cm df O (jm ω) (ai O (cm df O (jm ω) (ai O (cm df O (jm ω) (bw O O (jm ω) (Lp (ki O O ω hq) (ao (r:=((a - (b - a) / 2:Nat):Int)) O O (by rw [jm ω];omega) (az O (Lt (Cs (Cy (ai O (bP O O (Lt ?_))))))))))))))))
  refine CF O ω (Ck (tn (Cs (Cy (ai O (Lp (e9 O O) (Lt (CF O ω (Ck (tn (Cy (ai O (cm iX O (yl ω) (az O (Lt (Ct ?_))))))))))))))))
  exact ak O O ⟨O,O⟩
end Go.Proofs.YtmgemcffhbnpfaaGreatDoor
set_option maxHeartbeats 32000000
namespace Go.Proofs.YtmgemcffhbnpfaaGreatDoor
open Go
def B8 (x:Nat):Prop:=x<256
theorem ug (p:Nat):B8 (pA p)∧B8 (pR p)∧B8 (pG p)∧B8 (pB p):=bX p
theorem FT (W:World) (btr off:Nat) (t:Tr) (bpx len capx bp cap ht:Nat) (inp:List Nat) (hT:GY W btr off t (.slice (aT bpx) len capx)) (hO:B4 ht t) (hk:t.kind≤1)
  (hpx:ff W bpx (bM .u8 (ap t.px) capx) 5) (hlen:4 * t.px.length≤len) (hlc:len≤capx) (hn1:btr ∉ [bp]) (hn2:bpx ∉ [bp]) (hh:1≤ht) (hh2:ht≤16384)
  (hb:ff W bp (bM .u8 (ap inp) cap) 5) (hil:inp.length=t.wd * ht) (hcap:4 * inp.length≤cap) (hc2:cap≤1073742848) :
  Calls Tryz.prog 124 #[.pointer (some ⟨btr,off,none⟩),.slice (aT bp) (4 * inp.length) cap,.int .i32 (ht:Nat)] W (tR bp (i4 (pz t.wd t.bits t.px) [] inp) W):=by
 have H:St W [bp] [aa bp (bM .u8 (ap inp) cap) 5] W:=gQ hb
 obtain ⟨hb2,hb9,hpl⟩:=hO.tile hk
 obtain ⟨hw,hw2⟩:=hO.wd
 have hTw:=hT.wd
 have hTb:=hT.bits
 have hTp:=hT.px
 have hp9:2 ^ t.bits≤2 ^ 9:=Nat.pow_le_pow_right ω hb9
 have hp1:=Nat.two_pow_pos t.bits
 have hp4:2 ^ 2≤2 ^ t.bits:=Nat.pow_le_pow_right ω hb2
 have hsetG:∀ (M:List Nat) (i P:Nat),i<M.length→P=4 * i→∀ (A x0 x1 x2 x3 pr:Nat),(pR pr=x0∧pG pr=x1∧pB pr=x2∧pA pr=x3)→∀ j,ap (M.set i (da A pr)) j =
   if j=P+3 then (pA A+x3) % 256 else if j=P+2 then (pB A+x2) % 256 else if j=P+1 then (pG A+x1) % 256 else if j=P+0 then (pR A+x0) % 256 else ap M j:=by
  rintro M i P hi rfl A x0 x1 x2 x3 pr ⟨h0,h1,h2,h3⟩ j
  obtain ⟨e1,e2,e3,e4,_⟩:=pO A pr
  rw [mU hi,e1,e2,e3,e4,h0,h1,h2,h3]
 have hinB:inp.length≤268435456:=by rw [hil];exact Nat.mul_le_mul hw2 hh2
 obtain ⟨F,hF⟩:∃ F,F=pz t.wd t.bits t.px:=⟨_,rfl⟩
 rw [← hF]
 obtain ⟨tp,htp⟩:∃ tp,tp=aq t.wd t.bits:=⟨_,rfl⟩
 have htp2:=cu (n:=t.wd) (b:=t.bits) hw
 rw [← htp] at htp2
 have hwi:t.wd≤inp.length:=by rw [hil];exact Nat.le_mul_of_pos_right _ hh
 refine enter (m:=1328) Tryz.func124 O Tryz.ntmps124 O (Cy (bI O (Lt (Cs (Cy (bH O (aK O (aU kA O (aC nP O (H.old η η) (Lp (bR O O (decide_eq_false ω)) (dh O (Lg (YI O) (Lg (bR O O (decide_eq_false ω)) (ay O O (Lt (Cq O ?_))))))))))))))))
 refine Ck (tn ?_)
 have hst0:=jP (f:=F) (l:=inp) (i:=0) ω
 rw [qd,yB] at hst0
 have hF0:F [] (inp.getD 0 0)=da (inp.getD 0 0) 4278190080:=by rw [hF];unfold pz iU;simp
 rw [hF0] at hst0
 have hz3:=fV inp 0
 have hz2:=fI inp 0
 have hz1:=eh inp 0
 have hz0:=fC inp 0
 generalize inp.getD 0 0=A0 at *
 obtain ⟨g1,g2,g3,g4⟩:=bX A0
 refine Cy (bU O (Lp (bO 3 am O O O ω) (aC (v:=.int .u8 (pA A0:Nat)) aQ O (H.cell 0 O ((af ω).trans (by rw [show 3=4 * 0+3 by rfl,hz3]))) (ao O O (i5 (b:=255)) (Lp (bO 3 am O O O ω) (aP H 0 cZ O O O ω ?_))))))
 intro w H
 try simp only [List.set,List.eraseIdx] at H
 refine Lt ?_
 rw [aW (g:=ap (inp.set 0 (da A0 4278190080))) (fun j _ => by
  rw [hsetG inp 0 0 ω ω A0 0 0 0 255 4278190080 ⟨rfl,rfl,rfl,rfl⟩]
  by_cases h3:j=3
  ·rw [if_pos ω,if_pos h3]
  ·rw [if_neg ω,if_neg h3]
   by_cases h2:j=2
   ·rw [if_pos ω,h2,show 2=4 * 0+2 by rfl,hz2];omega
   ·rw [if_neg ω]
    by_cases h1:j=1
    ·rw [if_pos ω,h1,show 1=4 * 0+1 by rfl,hz1];omega
    ·rw [if_neg ω]
     by_cases h0:j=0
     ·rw [if_pos ω,h0,show 0=4 * 0+0 by rfl,hz0];omega
     ·rw [if_neg ω]),hst0] at H
 clear hst0 hF0 hz0 hz1 hz2 hz3 g1 g2 g3 g4
 refine Cs (Cd aJ κ ?_)
 intro w hsame
 replace H:=H.same hsame
 refine mY O (du O (dD ei O (aD bD O (H.old η η) (Sp (ed (r:=((2 ^ t.bits:Nat):Int)) O O ω (by rw [← Nat.one_mul (2 ^ t.bits)];exact LV (a:=1) ω)) (cx O O (nZ (b:=1) ω) (oZ O (oZ O (Sn (tn (Cs (Cy (az O (Lt (Cb ?_))))))))))))))
 refine Cl (fun mm ρ w' => ∃ x P,mm=t.wd - x∧1≤x∧x≤t.wd∧P=4 * x∧ρ 0=.pointer (some ⟨btr,off,none⟩)∧ρ 1=.slice (aT bp) (4 * inp.length) cap∧ρ 2=.int .i32 (ht:Nat)∧ρ 7=.int .i32 (P:Nat)∧ρ 8=.int .i32 ((2 ^ t.bits - 1:Nat):Int)∧ρ 9=.int .i32 (x:Nat) ∧
  St W [bp] [aa bp (bM .u8 (ap (nu F inp x)) cap) 5] w') (t.wd - 1)
  ⟨1,4,rfl,ω,ω,ω,rfl,rfl,rfl,rfl,rfl,rfl,H⟩ ?_
 clear H
 rintro mm ρ w1 ⟨x,P,rfl,hx1,hx,hP,h0,h1,h2,h7,h8,h9,H⟩
 refine Cs (Cy (ai η (bH η (aK O (aU kA O (aC nP O (H.old η η) (bP O O (Lt ?_))))))))
 by_cases hxw:x<t.wd
 case pos =>
  have hil2:x<inp.length:=ω
  have hst:=jP (f:=F) hil2
  have hml:=jj (f:=F) (l:=inp) (i:=x) ω
  have hge:=pN (f:=F) (l:=inp) (i:=x) ω (Nat.le_refl x)
  have hl1:=qJ (f:=F) (l:=inp) (i:=x) (j:=x - 1) ω ω
  have hFF:F (gN F inp x) (inp.getD x 0)=da (inp.getD x 0) ((gN F inp x).getD (x - 1) 0):=by
   have e:∀ (l:List Nat) (p:Nat),l.length=x→F l p=da p (l.getD (x - 1) 0):=fun l p hl => by
    rw [hF]
    unfold pz iU
    rw [hl,Nat.div_eq_of_lt hxw,Nat.mod_eq_of_lt hxw,if_pos rfl,if_neg ω]
   exact e _ _ (eu ω)
  rw [hFF,← hge,← hl1] at hst
  generalize nu F inp x=M at *
  have hA0:=fC M x
  have hA1:=eh M x
  have hA2:=fI M x
  have hA3:=fV M x
  have hL0:=fC M (x - 1)
  have hL1:=eh M (x - 1)
  have hL2:=fI M (x - 1)
  have hL3:=fV M (x - 1)
  rw [← hP] at hA0 hA1 hA2 hA3
  rw [show 4 * (x - 1)+0=P - 4 by omega] at hL0
  rw [show 4 * (x - 1)+1=P - 3 by omega] at hL1
  rw [show 4 * (x - 1)+2=P - 2 by omega] at hL2
  rw [show 4 * (x - 1)+3=P - 1 by omega] at hL3
  clear hge hl1 hFF
  generalize M.getD x 0=A at *
  generalize M.getD (x - 1) 0=L at *
  have hset:=hsetG M x P ω hP A
  refine CT O ω (Ck (tn (Cs (Cb (Cs (ar 12 aJ κ ?_))))))
  intro w hsame
  replace H:=H.same hsame
  refine cF η (bW η (aG O O (fX (b:=0) ω) (aR am O O O (aD (v:=.int .u8 (pR A:Nat)) aQ O (H.cell 0 O ((af ω).trans (by rw [hA0]))) (cF η (bW η (cx O O (nZ (b:=4) ω) (aR am O O O (aD (v:=.int .u8 (pR L:Nat)) aQ O (H.cell 0 O ((af ω).trans (by rw [hL0]))) (aG O O (i5) (aR am O O O (Sn (aP H 0 cZ O O O ω ?_)))))))))))))
  intro w H
  try simp only [List.set,List.eraseIdx] at H
  refine Lt (Cs (ar 12 aJ κ ?_))
  intro w hsame
  replace H:=H.same hsame
  refine cF η (bW η (aG O O (fX (b:=1) ω) (aR am O O O (aD (v:=.int .u8 (pG A:Nat)) aQ O (H.cell 0 O ((af ω).trans (by rw [if_neg ω,hA1]))) (cF η (bW η (cx O O (nZ (b:=3) ω) (aR am O O O (aD (v:=.int .u8 (pG L:Nat)) aQ O (H.cell 0 O ((af ω).trans (by rw [if_neg ω,hL1]))) (aG O O (i5) (aR am O O O (Sn (aP H 0 cZ O O O ω ?_)))))))))))))
  intro w H
  try simp only [List.set,List.eraseIdx] at H
  refine Lt (Cs (ar 12 aJ κ ?_))
  intro w hsame
  replace H:=H.same hsame
  refine cF η (bW η (aG O O (fX (b:=2) ω) (aR am O O O (aD (v:=.int .u8 (pB A:Nat)) aQ O (H.cell 0 O ((af ω).trans (by rw [if_neg ω,if_neg ω,hA2]))) (cF η (bW η (cx O O (nZ (b:=2) ω) (aR am O O O (aD (v:=.int .u8 (pB L:Nat)) aQ O (H.cell 0 O ((af ω).trans (by rw [if_neg ω,if_neg ω,hL2]))) (aG O O (i5) (aR am O O O (Sn (aP H 0 cZ O O O ω ?_)))))))))))))
  intro w H
  try simp only [List.set,List.eraseIdx] at H
  refine Lt (Cs (ar 12 aJ κ ?_))
  intro w hsame
  replace H:=H.same hsame
  refine cF η (bW η (aG O O (fX (b:=3) ω) (aR am O O O (aD (v:=.int .u8 (pA A:Nat)) aQ O (H.cell 0 O ((af ω).trans (by rw [if_neg ω,if_neg ω,if_neg ω,hA3]))) (cF η (bW η (cx O O (nZ (b:=1) ω) (aR am O O O (aD (v:=.int .u8 (pA L:Nat)) aQ O (H.cell 0 O ((af ω).trans (by rw [if_neg ω,if_neg ω,if_neg ω,hL3]))) (aG O O (i5) (aR am O O O (Sn (aP H 0 cZ O O O ω ?_)))))))))))))
  intro w H
  try simp only [List.set,List.eraseIdx] at H
  refine Lt ?_
  rw [aW (g:=ap (M.set x (da A L))) (fun j _ => hset _ _ _ _ _ ⟨rfl,rfl,rfl,rfl⟩ j),hst] at H
  refine Cr (ai η (ao O O (fX (b:=4) ω) (az O (Ln (aF (tn (Cr (ai η (ao O O (fX (b:=1) ω) (az O (Lt ?_)))))))))))
  exact ⟨t.wd - (x+1),ω,x+1,P+4,O,ω,ω,ω,h0,h1,h2,O,h8,O,H⟩
 case neg =>
 obtain hxe:x=t.wd:=ω
 rw [hxe] at H hP
 refine CF O ω (Cx (ax (ax (br (tn (Cs ?_))))))
 refine VC.held (cf [bp] W) aJ (by with_reducible repeat (first | refine fB ?_ | refine eP.blk ?_ | refine fy ?_ | refine dP ?_ | exact eP.done)) ?_
 intro w hsame
 replace H:=H.same hsame
 refine Ht 0 O κ κ κ O H.frm (fun w hI => YP η) (Ht 1 O κ κ κ O H.frm (fun w hI => iL O) (Ht 2 O κ κ κ O H.frm (fun w hI => iQ kA O) (Ht 3 O κ κ κ O H.frm (fun w hI => ef nP O (hI.cell hTw hn1)) (Ht 4 O κ κ κ O H.frm (fun w hI => YP η) (Ht 5 O κ κ κ O H.frm (fun w hI => iL O) (Ht 6 O κ κ κ O H.frm (fun w hI => iQ ei O) (Ht 7 O κ κ κ O H.frm (fun w hI => ef bD O (hI.cell hTb hn1)) (kR 8 O κ O n0 (ik _ t.wd t.bits hw ω hb9) O H.frm (Ht 9 O κ κ κ O H.frm (fun w hI => AI O) (Ht 10 O κ κ κ O H.frm (fun w hI => AI O) (g7 κ (tn ?_))))))))))))
 rw [← htp]
 refine Cs (Cy (az O (Lt (Cb ?_))))
 refine Cl (fun mm ρ w' => ∃ y P Q,mm=ht - y∧1≤y∧y≤ht∧P=4 * (y * t.wd)∧Q+4 * t.wd=P∧ρ 0=.pointer (some ⟨btr,off,none⟩)∧ρ 1=.slice (aT bp) (4 * inp.length) cap∧ρ 2=.int .i32 (ht:Nat)∧ρ 7=.int .i32 (P:Nat)∧ρ 8=.int .i32 ((2 ^ t.bits - 1:Nat):Int)∧ρ 10=iT Q∧ρ 11=.int .i32 (tp:Nat)∧ρ 12=.int .i32 (y:Nat) ∧
  St W [bp] [aa bp (bM .u8 (ap (nu F inp (y * t.wd))) cap) 5] w') (ht - 1)
  ⟨1,P,0,rfl,ω,ω,by rw [Nat.one_mul];exact hP,ω,h0,h1,h2,h7,h8,rfl,rfl,rfl,by rw [Nat.one_mul];exact H⟩ ?_
 clear h0 h1 h2 h7 h8 h9 H hP
 clear ρ
 rintro mm ρ w2 ⟨y,P,Q,rfl,hy1,hy,hP,hQ,h0,h1,h2,h7,h8,h10,h11,h12,H⟩
 refine Cs (Cy (ai η (ai η (bP O O (Lt ?_)))))
 by_cases hlt:y<ht
 case neg =>
  have hl:(i4 F [] inp).length=inp.length:=by rw [fY];simp
  obtain rfl:y=ht:=ω
  rw [show y * t.wd=inp.length by rw [hil,Nat.mul_comm],tP] at H
  refine CF O ω (Cx (ax (ax (br (tn (Cy (bU η (gS O (Lt (Ct ?_))))))))))
  exact ak O O ⟨bp,cap,by rw [hl];rfl,ω,hc2,.inl rfl,H.blk (i:=0) rfl,H.frm⟩
 case pos =>
 have hyw:(y+1) * t.wd≤inp.length:=by rw [hil,Nat.mul_comm];exact Nat.mul_le_mul_left _ hlt
 have hy0:t.wd≤y * t.wd:=Nat.le_mul_of_pos_left _ hy1
 rw [Nat.succ_mul] at hyw
 obtain ⟨qy,hqy⟩:∃ q,q=y / 2 ^ t.bits:=⟨_,rfl⟩
 have hqy2:qy≤y:=by rw [hqy];exact Nat.div_le_self _ _
 have hmul:tp * qy≤16384 * 16384:=Nat.mul_le_mul ω ω
 have hmul2:qy * tp=tp * qy:=Nat.mul_comm _ _
 obtain ⟨Y0,hY0⟩:∃ Y0,Y0=y * t.wd:=⟨_,rfl⟩
 rw [← hY0] at hyw hP H hy0
 have hYd:∀ x,x<t.wd→(Y0+x) / t.wd=y∧(Y0+x) % t.wd=x:=fun x hx => uL (by rw [hY0]) hx
 have hpl2:t.px.length≤268435456:=by
  rw [hpl]
  have h2:=(cu (b:=t.bits) hh).2
  rw [← htp]
  exact Nat.mul_le_mul (show _≤16384 by omega) (show _≤16384 by omega)
 have hti0:=mR (w:=t.wd) (h:=ht) (b:=t.bits) (x:=0) (y:=y) ω hlt
 rw [Nat.zero_div,Nat.add_zero,← hpl,← htp,← hqy] at hti0
 refine CT O ω (Ck (tn (Cs (Cb ?_))))
 have hstc:=jP (f:=F) (l:=inp) (i:=Y0) ω
 have hmlc:=jj (f:=F) (l:=inp) (i:=Y0) ω
 have hgec:=pN (f:=F) (l:=inp) (i:=Y0) ω (Nat.le_refl Y0)
 have hltc:=qJ (f:=F) (l:=inp) (i:=Y0) (j:=Y0 - t.wd) ω ω
 have hFc:F (gN F inp Y0) (inp.getD Y0 0)=da (inp.getD Y0 0) ((gN F inp Y0).getD (Y0 - t.wd) 0):=by
  have e:∀ (l:List Nat) (p:Nat),l.length=Y0→F l p=da p (l.getD (Y0 - t.wd) 0):=fun l p hl => by
   rw [hF]
   unfold pz iU
   obtain ⟨d1,d2⟩:=hYd 0 ω
   rw [Nat.add_zero] at d1 d2
   rw [hl,d1,d2,if_neg ω,if_pos rfl]
  exact e _ _ (eu ω)
 rw [hFc,← hgec,← hltc] at hstc
 replace H:St W [bp] [aa bp (bM .u8 (ap (nu F inp Y0)) cap) 5] w2:=H
 generalize nu F inp Y0=M at *
 have hA0:=fC M Y0
 have hA1:=eh M Y0
 have hA2:=fI M Y0
 have hA3:=fV M Y0
 have hT0:=fC M (Y0 - t.wd)
 have hT1:=eh M (Y0 - t.wd)
 have hT2:=fI M (Y0 - t.wd)
 have hT3:=fV M (Y0 - t.wd)
 rw [← hP] at hA0 hA1 hA2 hA3
 rw [show 4 * (Y0 - t.wd)=Q by omega] at hT0 hT1 hT2 hT3
 clear hgec hltc hFc
 generalize M.getD Y0 0=A at *
 generalize M.getD (Y0 - t.wd) 0=T at *
 have hsetc:=hsetG M Y0 P ω hP A
 refine Cs (ar 12 aJ κ ?_)
 intro w hsame
 replace H:=H.same hsame
 refine cF η (bW η (aG O O (fX (b:=0) ω) (aR am O O O (aD (v:=.int .u8 (pR A:Nat)) aQ O (H.cell 0 O ((af ω).trans (by rw [hA0]))) (cF η (bW η (aG O O (ck (b:=0) ω) (aR am O O O (aD (v:=.int .u8 (pR T:Nat)) aQ O (H.cell 0 O ((af ω).trans (by rw [hT0]))) (aG O O (i5) (aR am O O O (Sn (aP H 0 cZ O O O ω ?_)))))))))))))
 intro w H
 try simp only [List.set,List.eraseIdx] at H
 refine Lt (Cs (ar 12 aJ κ ?_))
 intro w hsame
 replace H:=H.same hsame
 refine cF η (bW η (aG O O (fX (b:=1) ω) (aR am O O O (aD (v:=.int .u8 (pG A:Nat)) aQ O (H.cell 0 O ((af ω).trans (by rw [if_neg ω,hA1]))) (cF η (bW η (aG O O (ck (b:=1) ω) (aR am O O O (aD (v:=.int .u8 (pG T:Nat)) aQ O (H.cell 0 O ((af ω).trans (by rw [if_neg ω,hT1]))) (aG O O (i5) (aR am O O O (Sn (aP H 0 cZ O O O ω ?_)))))))))))))
 intro w H
 try simp only [List.set,List.eraseIdx] at H
 refine Lt (Cs (ar 12 aJ κ ?_))
 intro w hsame
 replace H:=H.same hsame
 refine cF η (bW η (aG O O (fX (b:=2) ω) (aR am O O O (aD (v:=.int .u8 (pB A:Nat)) aQ O (H.cell 0 O ((af ω).trans (by rw [if_neg ω,if_neg ω,hA2]))) (cF η (bW η (aG O O (ck (b:=2) ω) (aR am O O O (aD (v:=.int .u8 (pB T:Nat)) aQ O (H.cell 0 O ((af ω).trans (by rw [if_neg ω,if_neg ω,hT2]))) (aG O O (i5) (aR am O O O (Sn (aP H 0 cZ O O O ω ?_)))))))))))))
 intro w H
 try simp only [List.set,List.eraseIdx] at H
 refine Lt (Cs (ar 12 aJ κ ?_))
 intro w hsame
 replace H:=H.same hsame
 refine cF η (bW η (aG O O (fX (b:=3) ω) (aR am O O O (aD (v:=.int .u8 (pA A:Nat)) aQ O (H.cell 0 O ((af ω).trans (by rw [if_neg ω,if_neg ω,if_neg ω,hA3]))) (cF η (bW η (aG O O (ck (b:=3) ω) (aR am O O O (aD (v:=.int .u8 (pA T:Nat)) aQ O (H.cell 0 O ((af ω).trans (by rw [if_neg ω,if_neg ω,if_neg ω,hT3]))) (aG O O (i5) (aR am O O O (Sn (aP H 0 cZ O O O ω ?_)))))))))))))
 intro w H
 try simp only [List.set,List.eraseIdx] at H
 refine Lt ?_
 rw [aW (g:=ap (M.set Y0 (da A T))) (fun j _ => hsetc _ _ _ _ _ ⟨rfl,rfl,rfl,rfl⟩ j),hstc] at H
 clear hstc hmlc hA0 hA1 hA2 hA3 hT0 hT1 hT2 hT3 hsetc
 refine Cy (ai η (ao O O (fX (b:=4) ω) (ai η (ao O O (ck (b:=4) ω) (az O (az O (Lt (Cy (ai η (bH η (aK O (aU ei O (aC bD O (H.old η η) (Lp (d6 (r:=(qy:Int)) O O ω (by rw [hqy];exact jd (k:=.i32) (b:=t.bits) (by show t.bits≤32;omega))) (Lp (cX (r:=((4 * qy:Nat):Int)) O O (CJ (a:=4) ω)) (ai η ?_))))))))))))))))
 refine Lp (cX (r:=((4 * (tp * qy):Nat):Int)) O O (by rw [CJ (by rw [Nat.mul_assoc,hmul2];omega),Nat.mul_assoc,hmul2])) (az O (Lt ?_))
 have hm0:=eh t.px (tp * qy)
 have k0:=hpx.cellv (af (k:=.u8) (f:=ap t.px) (j:=4 * (tp * qy)+1) ω)
 rw [hm0] at k0
 have hand16:∀ g:Nat,g &&& 15=g % 16:=fun g => Nat.and_two_pow_sub_one_eq_mod g 4
 have hpg:=fun p => (bX p).2.2.1
 refine Cy (bH η (aK O (aU gu O (aC jg O (H.old η η) (ai O (ao O O (fX (b:=1) ω) (dU am O O O (aC aQ O (H.old k0 hn2) (Lp (gZ (r:=(pG (t.px.getD (tp * qy) 0) % 16:Nat)) O O (by rw [← hand16];exact Mi (b:=15) ⟨hpg _,ω⟩)) (az O (Lt (Cy (ai O (ao O O (fX (b:=4) ω) (az O (Ln ?_))))))))))))))))
 refine tn (Cy (az O (Lt (Cb ?_))))
 refine Cl (fun mm ρ w' => ∃ x nq P Q,mm=t.wd - x∧1≤x∧x≤t.wd∧P=4 * (Y0+x)∧Q+4 * t.wd=P∧nq=(x - 1) / 2 ^ t.bits+1∧ρ 0=.pointer (some ⟨btr,off,none⟩)∧ρ 1=.slice (aT bp) (4 * inp.length) cap∧ρ 2=.int .i32 (ht:Nat)∧ρ 7=.int .i32 (P:Nat)∧ρ 8=.int .i32 ((2 ^ t.bits - 1:Nat):Int)∧ρ 10=iT Q∧ρ 11=.int .i32 (tp:Nat)∧ρ 12=.int .i32 (y:Nat) ∧
  ρ 13=.int .i32 ((4 * (tp * qy+nq):Nat):Int)∧ρ 14=.int .u8 (pG (t.px.getD (tp * qy+(x - 1) / 2 ^ t.bits) 0) % 16:Nat)∧ρ 15=.int .i32 (x:Nat)∧St W [bp] [aa bp (bM .u8 (ap (nu F inp (Y0+x))) cap) 5] w') (t.wd - 1)
  ⟨1,1,P+4,Q+4,rfl,ω,ω,ω,ω,by rw [Nat.sub_self,Nat.zero_div],h0,h1,h2,rfl,h8,rfl,h11,h12,rfl,by rw [Nat.sub_self,Nat.zero_div,Nat.add_zero];rfl,rfl,H⟩ ?_
 clear h0 h1 h2 h7 h8 h10 h11 h12 H hP hQ hm0 k0
 clear ρ
 rintro mm ρ w3 ⟨x,nq,P,Q,rfl,hx1,hx,hP,hQ,hnq,h0,h1,h2,h7,h8,h10,h11,h12,h13,h14,h15,H⟩
 refine Cs (Cy (ai η (bH η (aK O (aU kA O (aC nP O (H.old η η) (bP O O (Lt ?_))))))))
 by_cases hxw:x<t.wd
 case neg =>
  obtain hxe:x=t.wd:=ω
  rw [hxe] at H hP
  refine CF O ω (Cx (ax (ax (br (aF (tn (Cr (ai η (ao O O (fX (b:=1) ω) (az O (Lt ?_)))))))))))
  exact ⟨ht - (y+1),ω,y+1,P,Q,O,ω,ω,by rw [show (y+1) * t.wd=Y0+t.wd by rw [Nat.succ_mul,hY0]];exact hP,hQ,h0,h1,h2,h7,h8,h10,h11,O,by rw [show (y+1) * t.wd=Y0+t.wd by rw [Nat.succ_mul,hY0]];exact H⟩
 case pos =>
 have hti:=mR (b:=t.bits) hxw hlt
 rw [← hpl,← htp,← hqy] at hti
 have hdiv:=wm (x:=x) (t:=2 ^ t.bits) hp1 ω
 have hand:x &&& (2 ^ t.bits - 1)=x % 2 ^ t.bits:=Nat.and_two_pow_sub_one_eq_mod x _
 have hxm:x % 2 ^ t.bits≤x:=Nat.mod_le _ _
 obtain ⟨qx,hqx⟩:∃ q,q=x / 2 ^ t.bits:=⟨_,rfl⟩
 rw [← hqx] at hti hdiv
 obtain ⟨md,hmd⟩:∃ md,md=pG (t.px.getD (tp * qy+qx) 0) % 16:=⟨_,rfl⟩
 have hmd16:md<16:=by rw [hmd];exact Nat.mod_lt _ ω
 refine CT O ω (Ck (tn (Cs (Cb (Cs (Cy (ai η (ai η (Lp (gZ (r:=(x % 2 ^ t.bits:Nat)) O O (by rw [← hand];exact La ω)) (bF O O (Lt ?_)))))))))))
 refine aH (fun ρ w' => ρ 0=.pointer (some ⟨btr,off,none⟩)∧ρ 1=.slice (aT bp) (4 * inp.length) cap∧ρ 2=.int .i32 (ht:Nat)∧ρ 7=.int .i32 (P:Nat)∧ρ 8=.int .i32 ((2 ^ t.bits - 1:Nat):Int)∧ρ 10=iT Q∧ρ 11=.int .i32 (tp:Nat)∧ρ 12=.int .i32 (y:Nat) ∧
  ρ 13=.int .i32 ((4 * (tp * qy+(qx+1)):Nat):Int)∧ρ 14=.int .u8 (md:Nat)∧ρ 15=.int .i32 (x:Nat)∧w3=w') ?_ ?_
 case refine_1 =>
  by_cases hxz:x % 2 ^ t.bits=0
  case neg =>
   have hd:=hdiv.2 hxz
   rw [← hd,← hmd] at h14
   rw [← hd] at hnq
   subst hnq
   refine CF O ω (Ck (tn ?_))
   exact ⟨h0,h1,h2,h7,h8,h10,h11,h12,h13,h14,h15,O⟩
  case pos =>
   have hd:=hdiv.1 hxz
   have hnq2:nq=qx:=by rw [hnq,hd]
   subst hnq2
   have hA1:=eh t.px (tp * qy+nq)
   have k1:=H.old (hpx.cellv (af (k:=.u8) (f:=ap t.px) (j:=4 * (tp * qy+nq)+1) ω)) hn2
   rw [hA1] at k1
   refine CT O ω (Cy (bH η (aK O (aU gu O (aC jg O (H.old η η) (ai η (ao O O (fX (b:=1) ω) (dU am O O O (aC aQ O k1 (Lp (gZ (r:=(md:Nat)) O O (by rw [hmd,← hand16];exact Mi (b:=15) ⟨hpg _,ω⟩)) (az O (Lt (Cr (ai η (ao O O (fX (b:=4) ω) (az O (Ln ?_)))))))))))))))))
   refine tn ?_
   exact ⟨h0,h1,h2,h7,h8,h10,h11,h12,O,O,h15,O⟩
 case refine_2 =>
 clear h0 h1 h2 h7 h8 h10 h11 h12 h13 h14 h15 ρ
 rintro ρ w' ⟨s0,s1,s2,s7,s8,s10,s11,s12,s13,s14,s15,rfl⟩
 obtain ⟨i,hi⟩:∃ i,i=Y0+x:=⟨_,rfl⟩
 rw [← hi] at H hP
 have hil2:i<inp.length:=ω
 have hst:=jP (f:=F) hil2
 have hml:=jj (f:=F) (l:=inp) (i:=i) ω
 have hge:=pN (f:=F) (l:=inp) (i:=i) ω (Nat.le_refl i)
 have hL:=qJ (f:=F) (l:=inp) (i:=i) (j:=i - 1) ω ω
 have hT:=qJ (f:=F) (l:=inp) (i:=i) (j:=i - t.wd) ω ω
 have hTL:=qJ (f:=F) (l:=inp) (i:=i) (j:=i - t.wd - 1) ω ω
 have hTR:=qJ (f:=F) (l:=inp) (i:=i) (j:=i - t.wd+1) ω ω
 have hFF:F (gN F inp i) (inp.getD i 0)=da (inp.getD i 0) (bA md ((gN F inp i).getD (i - 1) 0) ((gN F inp i).getD (i - t.wd) 0) ((gN F inp i).getD (i - t.wd - 1) 0) ((gN F inp i).getD (i - t.wd+1) 0)):=by
  have e:∀ (l:List Nat) (p:Nat),l.length=i→F l p=da p (bA md (l.getD (i - 1) 0) (l.getD (i - t.wd) 0) (l.getD (i - t.wd - 1) 0) (l.getD (i - t.wd+1) 0)):=fun l p hl => by
   rw [hF]
   unfold pz iU dS
   obtain ⟨e1,e2⟩:=hYd x hxw
   rw [hl,hi,e1,e2,if_neg ω,if_neg ω,hmd,htp,hqy,hqx]
  exact e _ _ (eu ω)
 rw [hFF,← hge,← hL,← hT,← hTL,← hTR] at hst
 generalize nu F inp i=M at *
 clear hge hL hT hTL hTR hFF
 have hA0:=fC M i
 have hA1:=eh M i
 have hA2:=fI M i
 have hA3:=fV M i
 have hL0:=fC M (i - 1)
 have hL1:=eh M (i - 1)
 have hL2:=fI M (i - 1)
 have hL3:=fV M (i - 1)
 have hT0:=fC M (i - t.wd)
 have hT1:=eh M (i - t.wd)
 have hT2:=fI M (i - t.wd)
 have hT3:=fV M (i - t.wd)
 have hTL0:=fC M (i - t.wd - 1)
 have hTL1:=eh M (i - t.wd - 1)
 have hTL2:=fI M (i - t.wd - 1)
 have hTL3:=fV M (i - t.wd - 1)
 have hTR0:=fC M (i - t.wd+1)
 have hTR1:=eh M (i - t.wd+1)
 have hTR2:=fI M (i - t.wd+1)
 have hTR3:=fV M (i - t.wd+1)
 rw [← hP] at hA0 hA1 hA2 hA3
 rw [show 4 * (i - 1)+0=P - 4 by omega] at hL0
 rw [show 4 * (i - 1)+1=P - 3 by omega] at hL1
 rw [show 4 * (i - 1)+2=P - 2 by omega] at hL2
 rw [show 4 * (i - 1)+3=P - 1 by omega] at hL3
 rw [show 4 * (i - t.wd)=Q by omega] at hT0 hT1 hT2 hT3
 rw [show 4 * (i - t.wd - 1)+0=Q - 4 by omega] at hTL0
 rw [show 4 * (i - t.wd - 1)+1=Q - 3 by omega] at hTL1
 rw [show 4 * (i - t.wd - 1)+2=Q - 2 by omega] at hTL2
 rw [show 4 * (i - t.wd - 1)+3=Q - 1 by omega] at hTL3
 rw [show 4 * (i - t.wd+1)+0=Q+4 by omega] at hTR0
 rw [show 4 * (i - t.wd+1)+1=Q+5 by omega] at hTR1
 rw [show 4 * (i - t.wd+1)+2=Q+6 by omega] at hTR2
 rw [show 4 * (i - t.wd+1)+3=Q+7 by omega] at hTR3
 generalize M.getD i 0=A at *
 generalize M.getD (i - 1) 0=L at *
 generalize M.getD (i - t.wd) 0=T at *
 generalize M.getD (i - t.wd - 1) 0=TL at *
 generalize M.getD (i - t.wd+1) 0=TR at *
 obtain ⟨l1,l2,l3,l4⟩:=ug L
 obtain ⟨t1,t2,t3,t4⟩:=ug T
 obtain ⟨tl1,tl2,tl3,tl4⟩:=ug TL
 obtain ⟨tr1,tr2,tr3,tr4⟩:=ug TR
 have hPQ:4≤Q∧Q+8≤P∧P+4≤4 * inp.length:=ω
 have hset:=hsetG M i P ω hP A
 obtain ⟨a1,a2,a3,a4⟩:=bX A
 have hset0:∀ j,ap (M.set i (da A (bA 0 L T TL TR))) j=if j=P+3 then (pA A+255) % 256 else ap M j:=fun j => by
  rw [show bA 0 L T TL TR=4278190080 from rfl,hset 0 0 0 255 _ ⟨rfl,rfl,rfl,rfl⟩]
  by_cases h3:j=P+3
  ·rw [if_pos h3,if_pos h3]
  ·rw [if_neg h3,if_neg h3]
   by_cases h2:j=P+2
   ·rw [if_pos h2,h2,hA2];omega
   ·rw [if_neg h2]
    by_cases h1:j=P+1
    ·rw [if_pos h1,h1,hA1];omega
    ·rw [if_neg h1]
     by_cases h0:j=P+0
     ·rw [if_pos h0,h0,hA0];omega
     ·rw [if_neg h0]
 have hsetz:∀ j,ap (M.set i (da A 0)) j=ap M j:=fun j => by
  rw [hset 0 0 0 0 _ ⟨rfl,rfl,rfl,rfl⟩]
  by_cases h3:j=P+3
  ·rw [if_pos h3,h3,hA3];omega
  ·rw [if_neg h3]
   by_cases h2:j=P+2
   ·rw [if_pos h2,h2,hA2];omega
   ·rw [if_neg h2]
    by_cases h1:j=P+1
    ·rw [if_pos h1,h1,hA1];omega
    ·rw [if_neg h1]
     by_cases h0:j=P+0
     ·rw [if_pos h0,h0,hA0];omega
     ·rw [if_neg h0]
 clear hsetG a1 a2 a3 a4
 refine Cs (Cy (ai η (Lt ?_)))
 refine aH (fun ρ w' => ρ 0=.pointer (some ⟨btr,off,none⟩)∧ρ 1=.slice (aT bp) (4 * inp.length) cap∧ρ 2=.int .i32 (ht:Nat)∧ρ 7=.int .i32 (P:Nat)∧ρ 8=.int .i32 ((2 ^ t.bits - 1:Nat):Int)∧ρ 10=iT Q∧ρ 11=.int .i32 (tp:Nat)∧ρ 12=.int .i32 (y:Nat) ∧
  ρ 13=.int .i32 ((4 * (tp * qy+(qx+1)):Nat):Int)∧ρ 14=.int .u8 (md:Nat)∧ρ 15=.int .i32 (x:Nat)∧St W [bp] [aa bp (bM .u8 (ap (M.set i (da A (bA md L T TL TR)))) cap) 5] w') ?_ ?_
 case refine_1 =>
  clear hb2 hb9 hpl hp9 hp1 hp4 hinB htp2 hwi hyw hy0 hqy2 hmul hmul2 hYd hpl2 hti0 hti hdiv hand hxm hlt hxw hnq hil hil2 hlen hlc hpx hst hml hh hh2 hw hw2 hy1 hy hx1 hx hQ hP hi hqx hqy hY0 hand16 hpg hTw hTb hTp htp hF hmd hT hO hk
  refine Cb (Cy (bF O O (cU O (Lt ?_))))
  by_cases hm0:md=0
  case pos =>
   as_aux_lemma =>
    subst hm0
    refine CT O ω (Cr (bU s1 (ai s7 (ao O O (fX (b:=3) ω) (dU am O O O (aC (v:=.int .u8 (pA A:Nat)) aQ O (H.cell 0 O ((af ω).trans (by rw [hA3]))) (ao O O (i5 (b:=255)) (dU am O O O (aP H 0 cZ O O O ω ?_)))))))))
    intro w H
    try simp only [List.set,List.eraseIdx] at H
    refine Ln (aF (tn ?_))
    rw [aW (g:=ap (M.set i (da A (bA 0 L T TL TR)))) (fun j _ => hset0 j)] at H
    exact ⟨s0,s1,s2,s7,s8,s10,s11,s12,s13,s14,s15,H⟩
  case neg =>
  refine CF O ω (Cy (bF O O (cU O (Lt ?_))))
  by_cases hm1:md=1
  case pos =>
   as_aux_lemma =>
    subst hm1
    refine CT O ω (Cs (ar 12 aJ κ ?_))
    intro w hsame
    replace H:=H.same hsame
    refine cF s1 (bW s7 (aG O O (fX (b:=0) ω) (aR am O O O (aD (v:=.int .u8 (pR A:Nat)) aQ O (H.cell 0 O ((af ω).trans (by rw [hA0]))) (cF s1 (bW s7 (cx O O (nZ (b:=4) ω) (aR am O O O (aD (v:=.int .u8 (pR L:Nat)) aQ O (H.cell 0 O ((af ω).trans (by rw [hL0]))) (aG O O (i5) (aR am O O O (Sn (aP H 0 cZ O O O ω ?_)))))))))))))
    intro w H
    try simp only [List.set,List.eraseIdx] at H
    refine Lt (Cs (ar 12 aJ κ ?_))
    intro w hsame
    replace H:=H.same hsame
    refine cF s1 (bW s7 (aG O O (fX (b:=1) ω) (aR am O O O (aD (v:=.int .u8 (pG A:Nat)) aQ O (H.cell 0 O ((af ω).trans (by rw [if_neg ω,hA1]))) (cF s1 (bW s7 (cx O O (nZ (b:=3) ω) (aR am O O O (aD (v:=.int .u8 (pG L:Nat)) aQ O (H.cell 0 O ((af ω).trans (by rw [if_neg ω,hL1]))) (aG O O (i5) (aR am O O O (Sn (aP H 0 cZ O O O ω ?_)))))))))))))
    intro w H
    try simp only [List.set,List.eraseIdx] at H
    refine Lt (Cs (ar 12 aJ κ ?_))
    intro w hsame
    replace H:=H.same hsame
    refine cF s1 (bW s7 (aG O O (fX (b:=2) ω) (aR am O O O (aD (v:=.int .u8 (pB A:Nat)) aQ O (H.cell 0 O ((af ω).trans (by rw [if_neg ω,if_neg ω,hA2]))) (cF s1 (bW s7 (cx O O (nZ (b:=2) ω) (aR am O O O (aD (v:=.int .u8 (pB L:Nat)) aQ O (H.cell 0 O ((af ω).trans (by rw [if_neg ω,if_neg ω,hL2]))) (aG O O (i5) (aR am O O O (Sn (aP H 0 cZ O O O ω ?_)))))))))))))
    intro w H
    try simp only [List.set,List.eraseIdx] at H
    refine Lt (ar 12 aJ κ ?_)
    intro w hsame
    replace H:=H.same hsame
    refine cF s1 (bW s7 (aG O O (fX (b:=3) ω) (aR am O O O (aD (v:=.int .u8 (pA A:Nat)) aQ O (H.cell 0 O ((af ω).trans (by rw [if_neg ω,if_neg ω,if_neg ω,hA3]))) (cF s1 (bW s7 (cx O O (nZ (b:=1) ω) (aR am O O O (aD (v:=.int .u8 (pA L:Nat)) aQ O (H.cell 0 O ((af ω).trans (by rw [if_neg ω,if_neg ω,if_neg ω,hL3]))) (aG O O (i5) (aR am O O O (Sn (aP H 0 cZ O O O ω ?_)))))))))))))
    intro w H
    try simp only [List.set,List.eraseIdx] at H
    refine Ln (aF (tn ?_))
    have hrow:∀ j,ap (M.set i (da A (bA 1 L T TL TR))) j=if j=P+3 then (pA A+pA L) % 256 else if j=P+2 then (pB A+pB L) % 256 else if j=P+1 then (pG A+pG L) % 256 else if j=P+0 then (pR A+pR L) % 256 else ap M j:=fun j => hset _ _ _ _ _ (fv 1 L T TL TR δ) j
    rw [aW (g:=ap (M.set i (da A (bA 1 L T TL TR)))) (fun j _ => hrow j)] at H
    exact ⟨s0,s1,s2,s7,s8,s10,s11,s12,s13,s14,s15,H⟩
  case neg =>
  refine CF O ω (Cy (bF O O (cU O (Lt ?_))))
  by_cases hm2:md=2
  case pos =>
   as_aux_lemma =>
    subst hm2
    refine CT O ω (Cs (ar 12 aJ κ ?_))
    intro w hsame
    replace H:=H.same hsame
    refine cF s1 (bW s7 (aG O O (fX (b:=0) ω) (aR am O O O (aD (v:=.int .u8 (pR A:Nat)) aQ O (H.cell 0 O ((af ω).trans (by rw [hA0]))) (cF s1 (bW s10 (aG O O (ck (b:=0) ω) (aR am O O O (aD (v:=.int .u8 (pR T:Nat)) aQ O (H.cell 0 O ((af ω).trans (by rw [hT0]))) (aG O O (i5) (aR am O O O (Sn (aP H 0 cZ O O O ω ?_)))))))))))))
    intro w H
    try simp only [List.set,List.eraseIdx] at H
    refine Lt (Cs (ar 12 aJ κ ?_))
    intro w hsame
    replace H:=H.same hsame
    refine cF s1 (bW s7 (aG O O (fX (b:=1) ω) (aR am O O O (aD (v:=.int .u8 (pG A:Nat)) aQ O (H.cell 0 O ((af ω).trans (by rw [if_neg ω,hA1]))) (cF s1 (bW s10 (aG O O (ck (b:=1) ω) (aR am O O O (aD (v:=.int .u8 (pG T:Nat)) aQ O (H.cell 0 O ((af ω).trans (by rw [if_neg ω,hT1]))) (aG O O (i5) (aR am O O O (Sn (aP H 0 cZ O O O ω ?_)))))))))))))
    intro w H
    try simp only [List.set,List.eraseIdx] at H
    refine Lt (Cs (ar 12 aJ κ ?_))
    intro w hsame
    replace H:=H.same hsame
    refine cF s1 (bW s7 (aG O O (fX (b:=2) ω) (aR am O O O (aD (v:=.int .u8 (pB A:Nat)) aQ O (H.cell 0 O ((af ω).trans (by rw [if_neg ω,if_neg ω,hA2]))) (cF s1 (bW s10 (aG O O (ck (b:=2) ω) (aR am O O O (aD (v:=.int .u8 (pB T:Nat)) aQ O (H.cell 0 O ((af ω).trans (by rw [if_neg ω,if_neg ω,hT2]))) (aG O O (i5) (aR am O O O (Sn (aP H 0 cZ O O O ω ?_)))))))))))))
    intro w H
    try simp only [List.set,List.eraseIdx] at H
    refine Lt (ar 12 aJ κ ?_)
    intro w hsame
    replace H:=H.same hsame
    refine cF s1 (bW s7 (aG O O (fX (b:=3) ω) (aR am O O O (aD (v:=.int .u8 (pA A:Nat)) aQ O (H.cell 0 O ((af ω).trans (by rw [if_neg ω,if_neg ω,if_neg ω,hA3]))) (cF s1 (bW s10 (aG O O (ck (b:=3) ω) (aR am O O O (aD (v:=.int .u8 (pA T:Nat)) aQ O (H.cell 0 O ((af ω).trans (by rw [if_neg ω,if_neg ω,if_neg ω,hT3]))) (aG O O (i5) (aR am O O O (Sn (aP H 0 cZ O O O ω ?_)))))))))))))
    intro w H
    try simp only [List.set,List.eraseIdx] at H
    refine Ln (aF (tn ?_))
    have hrow:∀ j,ap (M.set i (da A (bA 2 L T TL TR))) j=if j=P+3 then (pA A+pA T) % 256 else if j=P+2 then (pB A+pB T) % 256 else if j=P+1 then (pG A+pG T) % 256 else if j=P+0 then (pR A+pR T) % 256 else ap M j:=fun j => hset _ _ _ _ _ (fv 2 L T TL TR δ) j
    rw [aW (g:=ap (M.set i (da A (bA 2 L T TL TR)))) (fun j _ => hrow j)] at H
    exact ⟨s0,s1,s2,s7,s8,s10,s11,s12,s13,s14,s15,H⟩
  case neg =>
  refine CF O ω (Cy (bF O O (cU O (Lt ?_))))
  by_cases hm3:md=3
  case pos =>
   as_aux_lemma =>
    subst hm3
    refine CT O ω (Cs (ar 12 aJ κ ?_))
    intro w hsame
    replace H:=H.same hsame
    refine cF s1 (bW s7 (aG O O (fX (b:=0) ω) (aR am O O O (aD (v:=.int .u8 (pR A:Nat)) aQ O (H.cell 0 O ((af ω).trans (by rw [hA0]))) (cF s1 (bW s10 (aG O O (ck (b:=4) ω) (aR am O O O (aD (v:=.int .u8 (pR TR:Nat)) aQ O (H.cell 0 O ((af ω).trans (by rw [hTR0]))) (aG O O (i5) (aR am O O O (Sn (aP H 0 cZ O O O ω ?_)))))))))))))
    intro w H
    try simp only [List.set,List.eraseIdx] at H
    refine Lt (Cs (ar 12 aJ κ ?_))
    intro w hsame
    replace H:=H.same hsame
    refine cF s1 (bW s7 (aG O O (fX (b:=1) ω) (aR am O O O (aD (v:=.int .u8 (pG A:Nat)) aQ O (H.cell 0 O ((af ω).trans (by rw [if_neg ω,hA1]))) (cF s1 (bW s10 (aG O O (ck (b:=5) ω) (aR am O O O (aD (v:=.int .u8 (pG TR:Nat)) aQ O (H.cell 0 O ((af ω).trans (by rw [if_neg ω,hTR1]))) (aG O O (i5) (aR am O O O (Sn (aP H 0 cZ O O O ω ?_)))))))))))))
    intro w H
    try simp only [List.set,List.eraseIdx] at H
    refine Lt (Cs (ar 12 aJ κ ?_))
    intro w hsame
    replace H:=H.same hsame
    refine cF s1 (bW s7 (aG O O (fX (b:=2) ω) (aR am O O O (aD (v:=.int .u8 (pB A:Nat)) aQ O (H.cell 0 O ((af ω).trans (by rw [if_neg ω,if_neg ω,hA2]))) (cF s1 (bW s10 (aG O O (ck (b:=6) ω) (aR am O O O (aD (v:=.int .u8 (pB TR:Nat)) aQ O (H.cell 0 O ((af ω).trans (by rw [if_neg ω,if_neg ω,hTR2]))) (aG O O (i5) (aR am O O O (Sn (aP H 0 cZ O O O ω ?_)))))))))))))
    intro w H
    try simp only [List.set,List.eraseIdx] at H
    refine Lt (ar 12 aJ κ ?_)
    intro w hsame
    replace H:=H.same hsame
    refine cF s1 (bW s7 (aG O O (fX (b:=3) ω) (aR am O O O (aD (v:=.int .u8 (pA A:Nat)) aQ O (H.cell 0 O ((af ω).trans (by rw [if_neg ω,if_neg ω,if_neg ω,hA3]))) (cF s1 (bW s10 (aG O O (ck (b:=7) ω) (aR am O O O (aD (v:=.int .u8 (pA TR:Nat)) aQ O (H.cell 0 O ((af ω).trans (by rw [if_neg ω,if_neg ω,if_neg ω,hTR3]))) (aG O O (i5) (aR am O O O (Sn (aP H 0 cZ O O O ω ?_)))))))))))))
    intro w H
    try simp only [List.set,List.eraseIdx] at H
    refine Ln (aF (tn ?_))
    have hrow:∀ j,ap (M.set i (da A (bA 3 L T TL TR))) j=if j=P+3 then (pA A+pA TR) % 256 else if j=P+2 then (pB A+pB TR) % 256 else if j=P+1 then (pG A+pG TR) % 256 else if j=P+0 then (pR A+pR TR) % 256 else ap M j:=fun j => hset _ _ _ _ _ (fv 3 L T TL TR δ) j
    rw [aW (g:=ap (M.set i (da A (bA 3 L T TL TR)))) (fun j _ => hrow j)] at H
    exact ⟨s0,s1,s2,s7,s8,s10,s11,s12,s13,s14,s15,H⟩
  case neg =>
  refine CF O ω (Cy (bF O O (cU O (Lt ?_))))
  by_cases hm4:md=4
  case pos =>
   as_aux_lemma =>
    subst hm4
    refine CT O ω (Cs (ar 12 aJ κ ?_))
    intro w hsame
    replace H:=H.same hsame
    refine cF s1 (bW s7 (aG O O (fX (b:=0) ω) (aR am O O O (aD (v:=.int .u8 (pR A:Nat)) aQ O (H.cell 0 O ((af ω).trans (by rw [hA0]))) (cF s1 (bW s10 (cx O O (iw (b:=4) ω) (aR am O O O (aD (v:=.int .u8 (pR TL:Nat)) aQ O (H.cell 0 O ((af ω).trans (by rw [hTL0]))) (aG O O (i5) (aR am O O O (Sn (aP H 0 cZ O O O ω ?_)))))))))))))
    intro w H
    try simp only [List.set,List.eraseIdx] at H
    refine Lt (Cs (ar 12 aJ κ ?_))
    intro w hsame
    replace H:=H.same hsame
    refine cF s1 (bW s7 (aG O O (fX (b:=1) ω) (aR am O O O (aD (v:=.int .u8 (pG A:Nat)) aQ O (H.cell 0 O ((af ω).trans (by rw [if_neg ω,hA1]))) (cF s1 (bW s10 (cx O O (iw (b:=3) ω) (aR am O O O (aD (v:=.int .u8 (pG TL:Nat)) aQ O (H.cell 0 O ((af ω).trans (by rw [if_neg ω,hTL1]))) (aG O O (i5) (aR am O O O (Sn (aP H 0 cZ O O O ω ?_)))))))))))))
    intro w H
    try simp only [List.set,List.eraseIdx] at H
    refine Lt (Cs (ar 12 aJ κ ?_))
    intro w hsame
    replace H:=H.same hsame
    refine cF s1 (bW s7 (aG O O (fX (b:=2) ω) (aR am O O O (aD (v:=.int .u8 (pB A:Nat)) aQ O (H.cell 0 O ((af ω).trans (by rw [if_neg ω,if_neg ω,hA2]))) (cF s1 (bW s10 (cx O O (iw (b:=2) ω) (aR am O O O (aD (v:=.int .u8 (pB TL:Nat)) aQ O (H.cell 0 O ((af ω).trans (by rw [if_neg ω,if_neg ω,hTL2]))) (aG O O (i5) (aR am O O O (Sn (aP H 0 cZ O O O ω ?_)))))))))))))
    intro w H
    try simp only [List.set,List.eraseIdx] at H
    refine Lt (ar 12 aJ κ ?_)
    intro w hsame
    replace H:=H.same hsame
    refine cF s1 (bW s7 (aG O O (fX (b:=3) ω) (aR am O O O (aD (v:=.int .u8 (pA A:Nat)) aQ O (H.cell 0 O ((af ω).trans (by rw [if_neg ω,if_neg ω,if_neg ω,hA3]))) (cF s1 (bW s10 (cx O O (iw (b:=1) ω) (aR am O O O (aD (v:=.int .u8 (pA TL:Nat)) aQ O (H.cell 0 O ((af ω).trans (by rw [if_neg ω,if_neg ω,if_neg ω,hTL3]))) (aG O O (i5) (aR am O O O (Sn (aP H 0 cZ O O O ω ?_)))))))))))))
    intro w H
    try simp only [List.set,List.eraseIdx] at H
    refine Ln (aF (tn ?_))
    have hrow:∀ j,ap (M.set i (da A (bA 4 L T TL TR))) j=if j=P+3 then (pA A+pA TL) % 256 else if j=P+2 then (pB A+pB TL) % 256 else if j=P+1 then (pG A+pG TL) % 256 else if j=P+0 then (pR A+pR TL) % 256 else ap M j:=fun j => hset _ _ _ _ _ (fv 4 L T TL TR δ) j
    rw [aW (g:=ap (M.set i (da A (bA 4 L T TL TR)))) (fun j _ => hrow j)] at H
    exact ⟨s0,s1,s2,s7,s8,s10,s11,s12,s13,s14,s15,H⟩
  case neg =>
  refine CF O ω (Cy (bF O O (cU O (Lt ?_))))
  by_cases hm5:md=5
  case pos =>
   as_aux_lemma =>
    subst hm5
    refine CT O ω (Cs (ar 24 aJ κ ?_))
    intro w hsame
    replace H:=H.same hsame
    refine cF s1 (bW s7 (aG O O (fX (b:=0) ω) (aR am O O O (aD (v:=.int .u8 (pR A:Nat)) aQ O (H.cell 0 O ((af ω).trans (by rw [hA0]))) (cF s1 (bW s7 (cx O O (nZ (b:=4) ω) (aR am O O O (aD (v:=.int .u8 (pR L:Nat)) aQ O (H.cell 0 O ((af ω).trans (by rw [hL0]))) (cF s1 (bW s10 (aG O O (ck (b:=4) ω) (aR am O O O (aD (v:=.int .u8 (pR TR:Nat)) aQ O (H.cell 0 O ((af ω).trans (by rw [hTR0]))) (bJ O cQ (co _ _ _ η η) O (cF s1 (bW s10 (aG O O (ck (b:=0) ω) (aR am O O O ?_)))))))))))))))))))
    refine aD (v:=.int .u8 (pR T:Nat)) aQ O (H.cell 0 O ((af ω).trans (by rw [hT0]))) (bJ O cQ (co _ _ _ (fm η η) η) O (aG O O (i5) (aR am O O O (Sn (aP H 0 cZ O O O ω ?_)))))
    intro w H
    try simp only [List.set,List.eraseIdx] at H
    refine Lt (Cs (ar 24 aJ κ ?_))
    intro w hsame
    replace H:=H.same hsame
    refine cF s1 (bW s7 (aG O O (fX (b:=1) ω) (aR am O O O (aD (v:=.int .u8 (pG A:Nat)) aQ O (H.cell 0 O ((af ω).trans (by rw [if_neg ω,hA1]))) (cF s1 (bW s7 (cx O O (nZ (b:=3) ω) (aR am O O O (aD (v:=.int .u8 (pG L:Nat)) aQ O (H.cell 0 O ((af ω).trans (by rw [if_neg ω,hL1]))) (cF s1 (bW s10 (aG O O (ck (b:=5) ω) (aR am O O O (aD (v:=.int .u8 (pG TR:Nat)) aQ O (H.cell 0 O ((af ω).trans (by rw [if_neg ω,hTR1]))) (bJ O cQ (co _ _ _ η η) O (cF s1 (bW s10 (aG O O (ck (b:=1) ω) (aR am O O O ?_)))))))))))))))))))
    refine aD (v:=.int .u8 (pG T:Nat)) aQ O (H.cell 0 O ((af ω).trans (by rw [if_neg ω,hT1]))) (bJ O cQ (co _ _ _ (fm η η) η) O (aG O O (i5) (aR am O O O (Sn (aP H 0 cZ O O O ω ?_)))))
    intro w H
    try simp only [List.set,List.eraseIdx] at H
    refine Lt (Cs (ar 24 aJ κ ?_))
    intro w hsame
    replace H:=H.same hsame
    refine cF s1 (bW s7 (aG O O (fX (b:=2) ω) (aR am O O O (aD (v:=.int .u8 (pB A:Nat)) aQ O (H.cell 0 O ((af ω).trans (by rw [if_neg ω,if_neg ω,hA2]))) (cF s1 (bW s7 (cx O O (nZ (b:=2) ω) (aR am O O O (aD (v:=.int .u8 (pB L:Nat)) aQ O (H.cell 0 O ((af ω).trans (by rw [if_neg ω,if_neg ω,hL2]))) (cF s1 (bW s10 (aG O O (ck (b:=6) ω) (aR am O O O (aD (v:=.int .u8 (pB TR:Nat)) aQ O (H.cell 0 O ((af ω).trans (by rw [if_neg ω,if_neg ω,hTR2]))) (bJ O cQ (co _ _ _ η η) O (cF s1 (bW s10 (aG O O (ck (b:=2) ω) (aR am O O O ?_)))))))))))))))))))
    refine aD (v:=.int .u8 (pB T:Nat)) aQ O (H.cell 0 O ((af ω).trans (by rw [if_neg ω,if_neg ω,hT2]))) (bJ O cQ (co _ _ _ (fm η η) η) O (aG O O (i5) (aR am O O O (Sn (aP H 0 cZ O O O ω ?_)))))
    intro w H
    try simp only [List.set,List.eraseIdx] at H
    refine Lt (ar 24 aJ κ ?_)
    intro w hsame
    replace H:=H.same hsame
    refine cF s1 (bW s7 (aG O O (fX (b:=3) ω) (aR am O O O (aD (v:=.int .u8 (pA A:Nat)) aQ O (H.cell 0 O ((af ω).trans (by rw [if_neg ω,if_neg ω,if_neg ω,hA3]))) (cF s1 (bW s7 (cx O O (nZ (b:=1) ω) (aR am O O O (aD (v:=.int .u8 (pA L:Nat)) aQ O (H.cell 0 O ((af ω).trans (by rw [if_neg ω,if_neg ω,if_neg ω,hL3]))) (cF s1 (bW s10 (aG O O (ck (b:=7) ω) (aR am O O O (aD (v:=.int .u8 (pA TR:Nat)) aQ O (H.cell 0 O ((af ω).trans (by rw [if_neg ω,if_neg ω,if_neg ω,hTR3]))) (bJ O cQ (co _ _ _ η η) O (cF s1 (bW s10 (aG O O (ck (b:=3) ω) (aR am O O O ?_)))))))))))))))))))
    refine aD (v:=.int .u8 (pA T:Nat)) aQ O (H.cell 0 O ((af ω).trans (by rw [if_neg ω,if_neg ω,if_neg ω,hT3]))) (bJ O cQ (co _ _ _ (fm η η) η) O (aG O O (i5) (aR am O O O (Sn (aP H 0 cZ O O O ω ?_)))))
    intro w H
    try simp only [List.set,List.eraseIdx] at H
    refine Ln (aF (tn ?_))
    have hrow:∀ j,ap (M.set i (da A (bA 5 L T TL TR))) j=if j=P+3 then (pA A+jb (jb (pA L) (pA TR)) (pA T)) % 256 else if j=P+2 then (pB A+jb (jb (pB L) (pB TR)) (pB T)) % 256 else if j=P+1 then (pG A+jb (jb (pG L) (pG TR)) (pG T)) % 256 else if j=P+0 then (pR A+jb (jb (pR L) (pR TR)) (pR T)) % 256 else ap M j:=fun j => hset _ _ _ _ _ (fv 5 L T TL TR δ) j
    rw [aW (g:=ap (M.set i (da A (bA 5 L T TL TR)))) (fun j _ => hrow j)] at H
    exact ⟨s0,s1,s2,s7,s8,s10,s11,s12,s13,s14,s15,H⟩
  case neg =>
  refine CF O ω (Cy (bF O O (cU O (Lt ?_))))
  by_cases hm6:md=6
  case pos =>
   as_aux_lemma =>
    subst hm6
    refine CT O ω (Cs (ar 18 aJ κ ?_))
    intro w hsame
    replace H:=H.same hsame
    refine cF s1 (bW s7 (aG O O (fX (b:=0) ω) (aR am O O O (aD (v:=.int .u8 (pR A:Nat)) aQ O (H.cell 0 O ((af ω).trans (by rw [hA0]))) (cF s1 (bW s7 (cx O O (nZ (b:=4) ω) (aR am O O O (aD (v:=.int .u8 (pR L:Nat)) aQ O (H.cell 0 O ((af ω).trans (by rw [hL0]))) (cF s1 (bW s10 (cx O O (iw (b:=4) ω) (aR am O O O (aD (v:=.int .u8 (pR TL:Nat)) aQ O (H.cell 0 O ((af ω).trans (by rw [hTL0]))) (bJ O cQ (co _ _ _ η η) O (aG O O (i5) (aR am O O O (Sn (aP H 0 cZ O O O ω ?_)))))))))))))))))))
    intro w H
    try simp only [List.set,List.eraseIdx] at H
    refine Lt (Cs (ar 18 aJ κ ?_))
    intro w hsame
    replace H:=H.same hsame
    refine cF s1 (bW s7 (aG O O (fX (b:=1) ω) (aR am O O O (aD (v:=.int .u8 (pG A:Nat)) aQ O (H.cell 0 O ((af ω).trans (by rw [if_neg ω,hA1]))) (cF s1 (bW s7 (cx O O (nZ (b:=3) ω) (aR am O O O (aD (v:=.int .u8 (pG L:Nat)) aQ O (H.cell 0 O ((af ω).trans (by rw [if_neg ω,hL1]))) (cF s1 (bW s10 (cx O O (iw (b:=3) ω) (aR am O O O (aD (v:=.int .u8 (pG TL:Nat)) aQ O (H.cell 0 O ((af ω).trans (by rw [if_neg ω,hTL1]))) (bJ O cQ (co _ _ _ η η) O (aG O O (i5) (aR am O O O (Sn (aP H 0 cZ O O O ω ?_)))))))))))))))))))
    intro w H
    try simp only [List.set,List.eraseIdx] at H
    refine Lt (Cs (ar 18 aJ κ ?_))
    intro w hsame
    replace H:=H.same hsame
    refine cF s1 (bW s7 (aG O O (fX (b:=2) ω) (aR am O O O (aD (v:=.int .u8 (pB A:Nat)) aQ O (H.cell 0 O ((af ω).trans (by rw [if_neg ω,if_neg ω,hA2]))) (cF s1 (bW s7 (cx O O (nZ (b:=2) ω) (aR am O O O (aD (v:=.int .u8 (pB L:Nat)) aQ O (H.cell 0 O ((af ω).trans (by rw [if_neg ω,if_neg ω,hL2]))) (cF s1 (bW s10 (cx O O (iw (b:=2) ω) (aR am O O O (aD (v:=.int .u8 (pB TL:Nat)) aQ O (H.cell 0 O ((af ω).trans (by rw [if_neg ω,if_neg ω,hTL2]))) (bJ O cQ (co _ _ _ η η) O (aG O O (i5) (aR am O O O (Sn (aP H 0 cZ O O O ω ?_)))))))))))))))))))
    intro w H
    try simp only [List.set,List.eraseIdx] at H
    refine Lt (ar 18 aJ κ ?_)
    intro w hsame
    replace H:=H.same hsame
    refine cF s1 (bW s7 (aG O O (fX (b:=3) ω) (aR am O O O (aD (v:=.int .u8 (pA A:Nat)) aQ O (H.cell 0 O ((af ω).trans (by rw [if_neg ω,if_neg ω,if_neg ω,hA3]))) (cF s1 (bW s7 (cx O O (nZ (b:=1) ω) (aR am O O O (aD (v:=.int .u8 (pA L:Nat)) aQ O (H.cell 0 O ((af ω).trans (by rw [if_neg ω,if_neg ω,if_neg ω,hL3]))) (cF s1 (bW s10 (cx O O (iw (b:=1) ω) (aR am O O O (aD (v:=.int .u8 (pA TL:Nat)) aQ O (H.cell 0 O ((af ω).trans (by rw [if_neg ω,if_neg ω,if_neg ω,hTL3]))) (bJ O cQ (co _ _ _ η η) O (aG O O (i5) (aR am O O O (Sn (aP H 0 cZ O O O ω ?_)))))))))))))))))))
    intro w H
    try simp only [List.set,List.eraseIdx] at H
    refine Ln (aF (tn ?_))
    have hrow:∀ j,ap (M.set i (da A (bA 6 L T TL TR))) j=if j=P+3 then (pA A+jb (pA L) (pA TL)) % 256 else if j=P+2 then (pB A+jb (pB L) (pB TL)) % 256 else if j=P+1 then (pG A+jb (pG L) (pG TL)) % 256 else if j=P+0 then (pR A+jb (pR L) (pR TL)) % 256 else ap M j:=fun j => hset _ _ _ _ _ (fv 6 L T TL TR δ) j
    rw [aW (g:=ap (M.set i (da A (bA 6 L T TL TR)))) (fun j _ => hrow j)] at H
    exact ⟨s0,s1,s2,s7,s8,s10,s11,s12,s13,s14,s15,H⟩
  case neg =>
  refine CF O ω (Cy (bF O O (cU O (Lt ?_))))
  by_cases hm7:md=7
  case pos =>
   as_aux_lemma =>
    subst hm7
    refine CT O ω (Cs (ar 18 aJ κ ?_))
    intro w hsame
    replace H:=H.same hsame
    refine cF s1 (bW s7 (aG O O (fX (b:=0) ω) (aR am O O O (aD (v:=.int .u8 (pR A:Nat)) aQ O (H.cell 0 O ((af ω).trans (by rw [hA0]))) (cF s1 (bW s7 (cx O O (nZ (b:=4) ω) (aR am O O O (aD (v:=.int .u8 (pR L:Nat)) aQ O (H.cell 0 O ((af ω).trans (by rw [hL0]))) (cF s1 (bW s10 (aG O O (ck (b:=0) ω) (aR am O O O (aD (v:=.int .u8 (pR T:Nat)) aQ O (H.cell 0 O ((af ω).trans (by rw [hT0]))) (bJ O cQ (co _ _ _ η η) O (aG O O (i5) (aR am O O O (Sn (aP H 0 cZ O O O ω ?_)))))))))))))))))))
    intro w H
    try simp only [List.set,List.eraseIdx] at H
    refine Lt (Cs (ar 18 aJ κ ?_))
    intro w hsame
    replace H:=H.same hsame
    refine cF s1 (bW s7 (aG O O (fX (b:=1) ω) (aR am O O O (aD (v:=.int .u8 (pG A:Nat)) aQ O (H.cell 0 O ((af ω).trans (by rw [if_neg ω,hA1]))) (cF s1 (bW s7 (cx O O (nZ (b:=3) ω) (aR am O O O (aD (v:=.int .u8 (pG L:Nat)) aQ O (H.cell 0 O ((af ω).trans (by rw [if_neg ω,hL1]))) (cF s1 (bW s10 (aG O O (ck (b:=1) ω) (aR am O O O (aD (v:=.int .u8 (pG T:Nat)) aQ O (H.cell 0 O ((af ω).trans (by rw [if_neg ω,hT1]))) (bJ O cQ (co _ _ _ η η) O (aG O O (i5) (aR am O O O (Sn (aP H 0 cZ O O O ω ?_)))))))))))))))))))
    intro w H
    try simp only [List.set,List.eraseIdx] at H
    refine Lt (Cs (ar 18 aJ κ ?_))
    intro w hsame
    replace H:=H.same hsame
    refine cF s1 (bW s7 (aG O O (fX (b:=2) ω) (aR am O O O (aD (v:=.int .u8 (pB A:Nat)) aQ O (H.cell 0 O ((af ω).trans (by rw [if_neg ω,if_neg ω,hA2]))) (cF s1 (bW s7 (cx O O (nZ (b:=2) ω) (aR am O O O (aD (v:=.int .u8 (pB L:Nat)) aQ O (H.cell 0 O ((af ω).trans (by rw [if_neg ω,if_neg ω,hL2]))) (cF s1 (bW s10 (aG O O (ck (b:=2) ω) (aR am O O O (aD (v:=.int .u8 (pB T:Nat)) aQ O (H.cell 0 O ((af ω).trans (by rw [if_neg ω,if_neg ω,hT2]))) (bJ O cQ (co _ _ _ η η) O (aG O O (i5) (aR am O O O (Sn (aP H 0 cZ O O O ω ?_)))))))))))))))))))
    intro w H
    try simp only [List.set,List.eraseIdx] at H
    refine Lt (ar 18 aJ κ ?_)
    intro w hsame
    replace H:=H.same hsame
    refine cF s1 (bW s7 (aG O O (fX (b:=3) ω) (aR am O O O (aD (v:=.int .u8 (pA A:Nat)) aQ O (H.cell 0 O ((af ω).trans (by rw [if_neg ω,if_neg ω,if_neg ω,hA3]))) (cF s1 (bW s7 (cx O O (nZ (b:=1) ω) (aR am O O O (aD (v:=.int .u8 (pA L:Nat)) aQ O (H.cell 0 O ((af ω).trans (by rw [if_neg ω,if_neg ω,if_neg ω,hL3]))) (cF s1 (bW s10 (aG O O (ck (b:=3) ω) (aR am O O O (aD (v:=.int .u8 (pA T:Nat)) aQ O (H.cell 0 O ((af ω).trans (by rw [if_neg ω,if_neg ω,if_neg ω,hT3]))) (bJ O cQ (co _ _ _ η η) O (aG O O (i5) (aR am O O O (Sn (aP H 0 cZ O O O ω ?_)))))))))))))))))))
    intro w H
    try simp only [List.set,List.eraseIdx] at H
    refine Ln (aF (tn ?_))
    have hrow:∀ j,ap (M.set i (da A (bA 7 L T TL TR))) j=if j=P+3 then (pA A+jb (pA L) (pA T)) % 256 else if j=P+2 then (pB A+jb (pB L) (pB T)) % 256 else if j=P+1 then (pG A+jb (pG L) (pG T)) % 256 else if j=P+0 then (pR A+jb (pR L) (pR T)) % 256 else ap M j:=fun j => hset _ _ _ _ _ (fv 7 L T TL TR δ) j
    rw [aW (g:=ap (M.set i (da A (bA 7 L T TL TR)))) (fun j _ => hrow j)] at H
    exact ⟨s0,s1,s2,s7,s8,s10,s11,s12,s13,s14,s15,H⟩
  case neg =>
  refine CF O ω (Cy (bF O O (cU O (Lt ?_))))
  by_cases hm8:md=8
  case pos =>
   as_aux_lemma =>
    subst hm8
    refine CT O ω (Cs (ar 18 aJ κ ?_))
    intro w hsame
    replace H:=H.same hsame
    refine cF s1 (bW s7 (aG O O (fX (b:=0) ω) (aR am O O O (aD (v:=.int .u8 (pR A:Nat)) aQ O (H.cell 0 O ((af ω).trans (by rw [hA0]))) (cF s1 (bW s10 (cx O O (iw (b:=4) ω) (aR am O O O (aD (v:=.int .u8 (pR TL:Nat)) aQ O (H.cell 0 O ((af ω).trans (by rw [hTL0]))) (cF s1 (bW s10 (aG O O (ck (b:=0) ω) (aR am O O O (aD (v:=.int .u8 (pR T:Nat)) aQ O (H.cell 0 O ((af ω).trans (by rw [hT0]))) (bJ O cQ (co _ _ _ η η) O (aG O O (i5) (aR am O O O (Sn (aP H 0 cZ O O O ω ?_)))))))))))))))))))
    intro w H
    try simp only [List.set,List.eraseIdx] at H
    refine Lt (Cs (ar 18 aJ κ ?_))
    intro w hsame
    replace H:=H.same hsame
    refine cF s1 (bW s7 (aG O O (fX (b:=1) ω) (aR am O O O (aD (v:=.int .u8 (pG A:Nat)) aQ O (H.cell 0 O ((af ω).trans (by rw [if_neg ω,hA1]))) (cF s1 (bW s10 (cx O O (iw (b:=3) ω) (aR am O O O (aD (v:=.int .u8 (pG TL:Nat)) aQ O (H.cell 0 O ((af ω).trans (by rw [if_neg ω,hTL1]))) (cF s1 (bW s10 (aG O O (ck (b:=1) ω) (aR am O O O (aD (v:=.int .u8 (pG T:Nat)) aQ O (H.cell 0 O ((af ω).trans (by rw [if_neg ω,hT1]))) (bJ O cQ (co _ _ _ η η) O (aG O O (i5) (aR am O O O (Sn (aP H 0 cZ O O O ω ?_)))))))))))))))))))
    intro w H
    try simp only [List.set,List.eraseIdx] at H
    refine Lt (Cs (ar 18 aJ κ ?_))
    intro w hsame
    replace H:=H.same hsame
    refine cF s1 (bW s7 (aG O O (fX (b:=2) ω) (aR am O O O (aD (v:=.int .u8 (pB A:Nat)) aQ O (H.cell 0 O ((af ω).trans (by rw [if_neg ω,if_neg ω,hA2]))) (cF s1 (bW s10 (cx O O (iw (b:=2) ω) (aR am O O O (aD (v:=.int .u8 (pB TL:Nat)) aQ O (H.cell 0 O ((af ω).trans (by rw [if_neg ω,if_neg ω,hTL2]))) (cF s1 (bW s10 (aG O O (ck (b:=2) ω) (aR am O O O (aD (v:=.int .u8 (pB T:Nat)) aQ O (H.cell 0 O ((af ω).trans (by rw [if_neg ω,if_neg ω,hT2]))) (bJ O cQ (co _ _ _ η η) O (aG O O (i5) (aR am O O O (Sn (aP H 0 cZ O O O ω ?_)))))))))))))))))))
    intro w H
    try simp only [List.set,List.eraseIdx] at H
    refine Lt (ar 18 aJ κ ?_)
    intro w hsame
    replace H:=H.same hsame
    refine cF s1 (bW s7 (aG O O (fX (b:=3) ω) (aR am O O O (aD (v:=.int .u8 (pA A:Nat)) aQ O (H.cell 0 O ((af ω).trans (by rw [if_neg ω,if_neg ω,if_neg ω,hA3]))) (cF s1 (bW s10 (cx O O (iw (b:=1) ω) (aR am O O O (aD (v:=.int .u8 (pA TL:Nat)) aQ O (H.cell 0 O ((af ω).trans (by rw [if_neg ω,if_neg ω,if_neg ω,hTL3]))) (cF s1 (bW s10 (aG O O (ck (b:=3) ω) (aR am O O O (aD (v:=.int .u8 (pA T:Nat)) aQ O (H.cell 0 O ((af ω).trans (by rw [if_neg ω,if_neg ω,if_neg ω,hT3]))) (bJ O cQ (co _ _ _ η η) O (aG O O (i5) (aR am O O O (Sn (aP H 0 cZ O O O ω ?_)))))))))))))))))))
    intro w H
    try simp only [List.set,List.eraseIdx] at H
    refine Ln (aF (tn ?_))
    have hrow:∀ j,ap (M.set i (da A (bA 8 L T TL TR))) j=if j=P+3 then (pA A+jb (pA TL) (pA T)) % 256 else if j=P+2 then (pB A+jb (pB TL) (pB T)) % 256 else if j=P+1 then (pG A+jb (pG TL) (pG T)) % 256 else if j=P+0 then (pR A+jb (pR TL) (pR T)) % 256 else ap M j:=fun j => hset _ _ _ _ _ (fv 8 L T TL TR δ) j
    rw [aW (g:=ap (M.set i (da A (bA 8 L T TL TR)))) (fun j _ => hrow j)] at H
    exact ⟨s0,s1,s2,s7,s8,s10,s11,s12,s13,s14,s15,H⟩
  case neg =>
  refine CF O ω (Cy (bF O O (cU O (Lt ?_))))
  by_cases hm9:md=9
  case pos =>
   as_aux_lemma =>
    subst hm9
    refine CT O ω (Cs (ar 18 aJ κ ?_))
    intro w hsame
    replace H:=H.same hsame
    refine cF s1 (bW s7 (aG O O (fX (b:=0) ω) (aR am O O O (aD (v:=.int .u8 (pR A:Nat)) aQ O (H.cell 0 O ((af ω).trans (by rw [hA0]))) (cF s1 (bW s10 (aG O O (ck (b:=0) ω) (aR am O O O (aD (v:=.int .u8 (pR T:Nat)) aQ O (H.cell 0 O ((af ω).trans (by rw [hT0]))) (cF s1 (bW s10 (aG O O (ck (b:=4) ω) (aR am O O O (aD (v:=.int .u8 (pR TR:Nat)) aQ O (H.cell 0 O ((af ω).trans (by rw [hTR0]))) (bJ O cQ (co _ _ _ η η) O (aG O O (i5) (aR am O O O (Sn (aP H 0 cZ O O O ω ?_)))))))))))))))))))
    intro w H
    try simp only [List.set,List.eraseIdx] at H
    refine Lt (Cs (ar 18 aJ κ ?_))
    intro w hsame
    replace H:=H.same hsame
    refine cF s1 (bW s7 (aG O O (fX (b:=1) ω) (aR am O O O (aD (v:=.int .u8 (pG A:Nat)) aQ O (H.cell 0 O ((af ω).trans (by rw [if_neg ω,hA1]))) (cF s1 (bW s10 (aG O O (ck (b:=1) ω) (aR am O O O (aD (v:=.int .u8 (pG T:Nat)) aQ O (H.cell 0 O ((af ω).trans (by rw [if_neg ω,hT1]))) (cF s1 (bW s10 (aG O O (ck (b:=5) ω) (aR am O O O (aD (v:=.int .u8 (pG TR:Nat)) aQ O (H.cell 0 O ((af ω).trans (by rw [if_neg ω,hTR1]))) (bJ O cQ (co _ _ _ η η) O (aG O O (i5) (aR am O O O (Sn (aP H 0 cZ O O O ω ?_)))))))))))))))))))
    intro w H
    try simp only [List.set,List.eraseIdx] at H
    refine Lt (Cs (ar 18 aJ κ ?_))
    intro w hsame
    replace H:=H.same hsame
    refine cF s1 (bW s7 (aG O O (fX (b:=2) ω) (aR am O O O (aD (v:=.int .u8 (pB A:Nat)) aQ O (H.cell 0 O ((af ω).trans (by rw [if_neg ω,if_neg ω,hA2]))) (cF s1 (bW s10 (aG O O (ck (b:=2) ω) (aR am O O O (aD (v:=.int .u8 (pB T:Nat)) aQ O (H.cell 0 O ((af ω).trans (by rw [if_neg ω,if_neg ω,hT2]))) (cF s1 (bW s10 (aG O O (ck (b:=6) ω) (aR am O O O (aD (v:=.int .u8 (pB TR:Nat)) aQ O (H.cell 0 O ((af ω).trans (by rw [if_neg ω,if_neg ω,hTR2]))) (bJ O cQ (co _ _ _ η η) O (aG O O (i5) (aR am O O O (Sn (aP H 0 cZ O O O ω ?_)))))))))))))))))))
    intro w H
    try simp only [List.set,List.eraseIdx] at H
    refine Lt (ar 18 aJ κ ?_)
    intro w hsame
    replace H:=H.same hsame
    refine cF s1 (bW s7 (aG O O (fX (b:=3) ω) (aR am O O O (aD (v:=.int .u8 (pA A:Nat)) aQ O (H.cell 0 O ((af ω).trans (by rw [if_neg ω,if_neg ω,if_neg ω,hA3]))) (cF s1 (bW s10 (aG O O (ck (b:=3) ω) (aR am O O O (aD (v:=.int .u8 (pA T:Nat)) aQ O (H.cell 0 O ((af ω).trans (by rw [if_neg ω,if_neg ω,if_neg ω,hT3]))) (cF s1 (bW s10 (aG O O (ck (b:=7) ω) (aR am O O O (aD (v:=.int .u8 (pA TR:Nat)) aQ O (H.cell 0 O ((af ω).trans (by rw [if_neg ω,if_neg ω,if_neg ω,hTR3]))) (bJ O cQ (co _ _ _ η η) O (aG O O (i5) (aR am O O O (Sn (aP H 0 cZ O O O ω ?_)))))))))))))))))))
    intro w H
    try simp only [List.set,List.eraseIdx] at H
    refine Ln (aF (tn ?_))
    have hrow:∀ j,ap (M.set i (da A (bA 9 L T TL TR))) j=if j=P+3 then (pA A+jb (pA T) (pA TR)) % 256 else if j=P+2 then (pB A+jb (pB T) (pB TR)) % 256 else if j=P+1 then (pG A+jb (pG T) (pG TR)) % 256 else if j=P+0 then (pR A+jb (pR T) (pR TR)) % 256 else ap M j:=fun j => hset _ _ _ _ _ (fv 9 L T TL TR δ) j
    rw [aW (g:=ap (M.set i (da A (bA 9 L T TL TR)))) (fun j _ => hrow j)] at H
    exact ⟨s0,s1,s2,s7,s8,s10,s11,s12,s13,s14,s15,H⟩
  case neg =>
  refine CF O ω (Cy (bF O O (cU O (Lt ?_))))
  by_cases hm10:md=10
  case pos =>
   as_aux_lemma =>
    subst hm10
    refine CT O ω (Cs (ar 30 aJ κ ?_))
    intro w hsame
    replace H:=H.same hsame
    refine cF s1 (bW s7 (aG O O (fX (b:=0) ω) (aR am O O O (aD (v:=.int .u8 (pR A:Nat)) aQ O (H.cell 0 O ((af ω).trans (by rw [hA0]))) (cF s1 (bW s7 (cx O O (nZ (b:=4) ω) (aR am O O O (aD (v:=.int .u8 (pR L:Nat)) aQ O (H.cell 0 O ((af ω).trans (by rw [hL0]))) (cF s1 (bW s10 (cx O O (iw (b:=4) ω) (aR am O O O (aD (v:=.int .u8 (pR TL:Nat)) aQ O (H.cell 0 O ((af ω).trans (by rw [hTL0]))) (bJ O cQ (co _ _ _ η η) O (cF s1 (bW s10 (aG O O (ck (b:=0) ω) (aR am O O O ?_)))))))))))))))))))
    refine aD (v:=.int .u8 (pR T:Nat)) aQ O (H.cell 0 O ((af ω).trans (by rw [hT0]))) (cF s1 (bW s10 (aG O O (ck (b:=4) ω) (aR am O O O (aD (v:=.int .u8 (pR TR:Nat)) aQ O (H.cell 0 O ((af ω).trans (by rw [hTR0]))) (bJ O cQ (co _ _ _ η η) O (bJ O cQ (co _ _ _ (fm η η) (fm η η)) O (aG O O (i5) (aR am O O O (Sn (aP H 0 cZ O O O ω ?_)))))))))))
    intro w H
    try simp only [List.set,List.eraseIdx] at H
    refine Lt (Cs (ar 30 aJ κ ?_))
    intro w hsame
    replace H:=H.same hsame
    refine cF s1 (bW s7 (aG O O (fX (b:=1) ω) (aR am O O O (aD (v:=.int .u8 (pG A:Nat)) aQ O (H.cell 0 O ((af ω).trans (by rw [if_neg ω,hA1]))) (cF s1 (bW s7 (cx O O (nZ (b:=3) ω) (aR am O O O (aD (v:=.int .u8 (pG L:Nat)) aQ O (H.cell 0 O ((af ω).trans (by rw [if_neg ω,hL1]))) (cF s1 (bW s10 (cx O O (iw (b:=3) ω) (aR am O O O (aD (v:=.int .u8 (pG TL:Nat)) aQ O (H.cell 0 O ((af ω).trans (by rw [if_neg ω,hTL1]))) (bJ O cQ (co _ _ _ η η) O (cF s1 (bW s10 (aG O O (ck (b:=1) ω) (aR am O O O ?_)))))))))))))))))))
    refine aD (v:=.int .u8 (pG T:Nat)) aQ O (H.cell 0 O ((af ω).trans (by rw [if_neg ω,hT1]))) (cF s1 (bW s10 (aG O O (ck (b:=5) ω) (aR am O O O (aD (v:=.int .u8 (pG TR:Nat)) aQ O (H.cell 0 O ((af ω).trans (by rw [if_neg ω,hTR1]))) (bJ O cQ (co _ _ _ η η) O (bJ O cQ (co _ _ _ (fm η η) (fm η η)) O (aG O O (i5) (aR am O O O (Sn (aP H 0 cZ O O O ω ?_)))))))))))
    intro w H
    try simp only [List.set,List.eraseIdx] at H
    refine Lt (Cs (ar 30 aJ κ ?_))
    intro w hsame
    replace H:=H.same hsame
    refine cF s1 (bW s7 (aG O O (fX (b:=2) ω) (aR am O O O (aD (v:=.int .u8 (pB A:Nat)) aQ O (H.cell 0 O ((af ω).trans (by rw [if_neg ω,if_neg ω,hA2]))) (cF s1 (bW s7 (cx O O (nZ (b:=2) ω) (aR am O O O (aD (v:=.int .u8 (pB L:Nat)) aQ O (H.cell 0 O ((af ω).trans (by rw [if_neg ω,if_neg ω,hL2]))) (cF s1 (bW s10 (cx O O (iw (b:=2) ω) (aR am O O O (aD (v:=.int .u8 (pB TL:Nat)) aQ O (H.cell 0 O ((af ω).trans (by rw [if_neg ω,if_neg ω,hTL2]))) (bJ O cQ (co _ _ _ η η) O (cF s1 (bW s10 (aG O O (ck (b:=2) ω) (aR am O O O ?_)))))))))))))))))))
    refine aD (v:=.int .u8 (pB T:Nat)) aQ O (H.cell 0 O ((af ω).trans (by rw [if_neg ω,if_neg ω,hT2]))) (cF s1 (bW s10 (aG O O (ck (b:=6) ω) (aR am O O O (aD (v:=.int .u8 (pB TR:Nat)) aQ O (H.cell 0 O ((af ω).trans (by rw [if_neg ω,if_neg ω,hTR2]))) (bJ O cQ (co _ _ _ η η) O (bJ O cQ (co _ _ _ (fm η η) (fm η η)) O (aG O O (i5) (aR am O O O (Sn (aP H 0 cZ O O O ω ?_)))))))))))
    intro w H
    try simp only [List.set,List.eraseIdx] at H
    refine Lt (ar 30 aJ κ ?_)
    intro w hsame
    replace H:=H.same hsame
    refine cF s1 (bW s7 (aG O O (fX (b:=3) ω) (aR am O O O (aD (v:=.int .u8 (pA A:Nat)) aQ O (H.cell 0 O ((af ω).trans (by rw [if_neg ω,if_neg ω,if_neg ω,hA3]))) (cF s1 (bW s7 (cx O O (nZ (b:=1) ω) (aR am O O O (aD (v:=.int .u8 (pA L:Nat)) aQ O (H.cell 0 O ((af ω).trans (by rw [if_neg ω,if_neg ω,if_neg ω,hL3]))) (cF s1 (bW s10 (cx O O (iw (b:=1) ω) (aR am O O O (aD (v:=.int .u8 (pA TL:Nat)) aQ O (H.cell 0 O ((af ω).trans (by rw [if_neg ω,if_neg ω,if_neg ω,hTL3]))) (bJ O cQ (co _ _ _ η η) O (cF s1 (bW s10 (aG O O (ck (b:=3) ω) (aR am O O O ?_)))))))))))))))))))
    refine aD (v:=.int .u8 (pA T:Nat)) aQ O (H.cell 0 O ((af ω).trans (by rw [if_neg ω,if_neg ω,if_neg ω,hT3]))) (cF s1 (bW s10 (aG O O (ck (b:=7) ω) (aR am O O O (aD (v:=.int .u8 (pA TR:Nat)) aQ O (H.cell 0 O ((af ω).trans (by rw [if_neg ω,if_neg ω,if_neg ω,hTR3]))) (bJ O cQ (co _ _ _ η η) O (bJ O cQ (co _ _ _ (fm η η) (fm η η)) O (aG O O (i5) (aR am O O O (Sn (aP H 0 cZ O O O ω ?_)))))))))))
    intro w H
    try simp only [List.set,List.eraseIdx] at H
    refine Ln (aF (tn ?_))
    have hrow:∀ j,ap (M.set i (da A (bA 10 L T TL TR))) j=if j=P+3 then (pA A+jb (jb (pA L) (pA TL)) (jb (pA T) (pA TR))) % 256 else if j=P+2 then (pB A+jb (jb (pB L) (pB TL)) (jb (pB T) (pB TR))) % 256 else if j=P+1 then (pG A+jb (jb (pG L) (pG TL)) (jb (pG T) (pG TR))) % 256 else if j=P+0 then (pR A+jb (jb (pR L) (pR TL)) (jb (pR T) (pR TR))) % 256 else ap M j:=fun j => hset _ _ _ _ _ (fv 10 L T TL TR δ) j
    rw [aW (g:=ap (M.set i (da A (bA 10 L T TL TR)))) (fun j _ => hrow j)] at H
    exact ⟨s0,s1,s2,s7,s8,s10,s11,s12,s13,s14,s15,H⟩
  case neg =>
  refine CF O ω (Cy (bF O O (cU O (Lt ?_))))
  by_cases hm11:md=11
  case pos =>
   as_aux_lemma =>
    subst hm11
    replace tl1:pA TL<256:=tl1
    replace tl2:pR TL<256:=tl2
    replace tl3:pG TL<256:=tl3
    replace tl4:pB TL<256:=tl4
    replace t1:pA T<256:=t1
    replace t2:pR T<256:=t2
    replace t3:pG T<256:=t3
    replace t4:pB T<256:=t4
    replace l1:pA L<256:=l1
    replace l2:pR L<256:=l2
    replace l3:pG L<256:=l3
    replace l4:pB L<256:=l4
    have b1:=fun a b (h1:a<256) (h2:b<256) => v8 h1 h2
    have q1:=b1 _ _ tl2 t2
    have q2:=b1 _ _ tl3 t3
    have q3:=b1 _ _ tl4 t4
    have q4:=b1 _ _ tl1 t1
    have q5:=b1 _ _ tl2 l2
    have q6:=b1 _ _ tl3 l3
    have q7:=b1 _ _ tl4 l4
    have q8:=b1 _ _ tl1 l1
    refine CT O ω (Cy (bU s1 (ai s7 (bw O O (nZ (b:=4) ω) (dU am O O O (aC (v:=.int .u8 (pR L:Nat)) aQ O (H.cell 0 O ((af ω).trans (by rw [hL0]))) (cm df O (jm ω) (az O (Lt (Cy (bU s1 (ai s7 (bw O O (nZ (b:=3) ω) (dU am O O O (aC (v:=.int .u8 (pG L:Nat)) aQ O (H.cell 0 O ((af ω).trans (by rw [hL1]))) (cm df O (jm ω) ?_))))))))))))))))
    refine az O (Lt (Cy (bU s1 (ai s7 (bw O O (nZ (b:=2) ω) (dU am O O O (aC (v:=.int .u8 (pB L:Nat)) aQ O (H.cell 0 O ((af ω).trans (by rw [hL2]))) (cm df O (jm ω) (az O (Lt (Cy (bU s1 (ai s7 (bw O O (nZ (b:=1) ω) (dU am O O O ?_)))))))))))))))
    refine aC (v:=.int .u8 (pA L:Nat)) aQ O (H.cell 0 O ((af ω).trans (by rw [hL3]))) (cm df O (jm ω) (az O (Lt (Cy (bU s1 (ai s10 (bw O O (iw (b:=4) ω) (dU am O O O (aC (v:=.int .u8 (pR TL:Nat)) aQ O (H.cell 0 O ((af ω).trans (by rw [hTL0]))) (cm df O (jm ω) (az O (Lt (Cy (bU s1 (ai s10 ?_)))))))))))))))
    refine bw O O (iw (b:=3) ω) (dU am O O O (aC (v:=.int .u8 (pG TL:Nat)) aQ O (H.cell 0 O ((af ω).trans (by rw [hTL1]))) (cm df O (jm ω) (az O (Lt (Cy (bU s1 (ai s10 (bw O O (iw (b:=2) ω) (dU am O O O (aC (v:=.int .u8 (pB TL:Nat)) aQ O (H.cell 0 O ((af ω).trans (by rw [hTL2]))) (cm df O (jm ω) (az O (Lt (Cy ?_)))))))))))))))
    refine bU s1 (ai s10 (bw O O (iw (b:=1) ω) (dU am O O O (aC (v:=.int .u8 (pA TL:Nat)) aQ O (H.cell 0 O ((af ω).trans (by rw [hTL3]))) (cm df O (jm ω) (az O (Lt (Cy (bU s1 (ai s10 (ao O O (ck (b:=0) ω) (dU am O O O (aC (v:=.int .u8 (pR T:Nat)) aQ O (H.cell 0 O ((af ω).trans (by rw [hT0]))) (cm df O (jm ω) (az O (Lt ?_))))))))))))))))
    refine Cy (bU s1 (ai s10 (ao O O (ck (b:=1) ω) (dU am O O O (aC (v:=.int .u8 (pG T:Nat)) aQ O (H.cell 0 O ((af ω).trans (by rw [hT1]))) (cm df O (jm ω) (az O (Lt (Cy (bU s1 (ai s10 (ao O O (ck (b:=2) ω) (dU am O O O (aC (v:=.int .u8 (pB T:Nat)) aQ O (H.cell 0 O ((af ω).trans (by rw [hT2]))) (cm df O (jm ω) (az O ?_))))))))))))))))
    refine Lt (Cy (bU s1 (ai s10 (ao O O (ck (b:=3) ω) (dU am O O O (aC (v:=.int .u8 (pA T:Nat)) aQ O (H.cell 0 O ((af ω).trans (by rw [hT3]))) (cm df O (jm ω) (az O (Lt (Cy (ai O (ai O (bw O O (jm ω) (bZ O nv (nL _ _ _ η η) O (ai O ?_)))))))))))))))
    refine ai O (bw O O (jm ω) (bZ O nv (nL _ _ _ η η) O (ao O O (fX ω) (ai O (ai O (bw O O (jm ω) (bZ O nv (nL _ _ _ η η) O (ao O O (fX ω) (ai O (ai O (bw O O (jm ω) (bZ O nv (nL _ _ _ η η) O (ao O O (fX ω) (az O (Lt (Cy (ai O ?_)))))))))))))))))
    refine ai O (bw O O (jm ω) (bZ O nv (nL _ _ _ η η) O (ai O (ai O (bw O O (jm ω) (bZ O nv (nL _ _ _ η η) O (ao O O (fX ω) (ai O (ai O (bw O O (jm ω) (bZ O nv (nL _ _ _ η η) O (ao O O (fX ω) (ai O (ai O (bw O O (jm ω) (bZ O nv (nL _ _ _ η η) O (ao O O (fX ω) (az O (Ln ?_)))))))))))))))))))
    refine tn ?_
    have hsel:bA 11 L T TL TR=if iA (pR TL) (pR T)+iA (pG TL) (pG T)+iA (pB TL) (pB T)+iA (pA TL) (pA T)<iA (pR TL) (pR L)+iA (pG TL) (pG L)+iA (pB TL) (pB L)+iA (pA TL) (pA L) then L else T:=rfl
    refine Cy (ai O (ai O (bP O O (Lt ?_))))
    rw [hsel]
    by_cases hs:iA (pR TL) (pR T)+iA (pG TL) (pG T)+iA (pB TL) (pB T)+iA (pA TL) (pA T)<iA (pR TL) (pR L)+iA (pG TL) (pG L)+iA (pB TL) (pB L)+iA (pA TL) (pA L)
    case pos =>
     rw [if_pos hs]
     refine CT O ω (Cy (bU s1 (ai s7 (ao O O (fX (b:=0) ω) (dU am O O O (aC (v:=.int .u8 (pR A:Nat)) aQ O (H.cell 0 O ((af ω).trans (by rw [hA0]))) (ai O (cm iX O (yl ω) (ao O O (i5) (dU am O O O (aP H 0 cZ O O O ω ?_)))))))))))
     intro w H
     refine Lt (Cy (bU s1 (ai s7 (ao O O (fX (b:=1) ω) (dU am O O O (aC (v:=.int .u8 (pG A:Nat)) aQ O (H.cell 0 O ((af ω).trans (by rw [if_neg ω,hA1]))) (ai O (cm iX O (yl ω) (ao O O (i5) (dU am O O O (aP H 0 cZ O O O ω ?_)))))))))))
     intro w H
     refine Lt (Cy (bU s1 (ai s7 (ao O O (fX (b:=2) ω) (dU am O O O (aC (v:=.int .u8 (pB A:Nat)) aQ O (H.cell 0 O ((af ω).trans (by rw [if_neg ω,if_neg ω,hA2]))) (ai O (cm iX O (yl ω) (ao O O (i5) (dU am O O O (aP H 0 cZ O O O ω ?_)))))))))))
     intro w H
     refine Lt (Cr (bU s1 (ai s7 (ao O O (fX (b:=3) ω) (dU am O O O (aC (v:=.int .u8 (pA A:Nat)) aQ O (H.cell 0 O ((af ω).trans (by rw [if_neg ω,if_neg ω,if_neg ω,hA3]))) (ai O (cm iX O (yl ω) (ao O O (i5) (dU am O O O (aP H 0 cZ O O O ω ?_)))))))))))
     intro w H
     try simp only [List.set,List.eraseIdx] at H
     refine Ln (aF (tn ?_))
     rw [aW (g:=ap (M.set i (da A L))) (fun j _ => hset _ _ _ _ _ ⟨rfl,rfl,rfl,rfl⟩ j)] at H
     exact ⟨s0,s1,s2,s7,s8,s10,s11,s12,s13,s14,s15,H⟩
    case neg =>
     rw [if_neg hs]
     refine CF O ω (Cy (bU s1 (ai s7 (ao O O (fX (b:=0) ω) (dU am O O O (aC (v:=.int .u8 (pR A:Nat)) aQ O (H.cell 0 O ((af ω).trans (by rw [hA0]))) (ai O (cm iX O (yl ω) (ao O O (i5) (dU am O O O (aP H 0 cZ O O O ω ?_)))))))))))
     intro w H
     refine Lt (Cy (bU s1 (ai s7 (ao O O (fX (b:=1) ω) (dU am O O O (aC (v:=.int .u8 (pG A:Nat)) aQ O (H.cell 0 O ((af ω).trans (by rw [if_neg ω,hA1]))) (ai O (cm iX O (yl ω) (ao O O (i5) (dU am O O O (aP H 0 cZ O O O ω ?_)))))))))))
     intro w H
     refine Lt (Cy (bU s1 (ai s7 (ao O O (fX (b:=2) ω) (dU am O O O (aC (v:=.int .u8 (pB A:Nat)) aQ O (H.cell 0 O ((af ω).trans (by rw [if_neg ω,if_neg ω,hA2]))) (ai O (cm iX O (yl ω) (ao O O (i5) (dU am O O O (aP H 0 cZ O O O ω ?_)))))))))))
     intro w H
     refine Lt (Cr (bU s1 (ai s7 (ao O O (fX (b:=3) ω) (dU am O O O (aC (v:=.int .u8 (pA A:Nat)) aQ O (H.cell 0 O ((af ω).trans (by rw [if_neg ω,if_neg ω,if_neg ω,hA3]))) (ai O (cm iX O (yl ω) (ao O O (i5) (dU am O O O (aP H 0 cZ O O O ω ?_)))))))))))
     intro w H
     try simp only [List.set,List.eraseIdx] at H
     refine Ln (aF (tn ?_))
     rw [aW (g:=ap (M.set i (da A T))) (fun j _ => hset _ _ _ _ _ ⟨rfl,rfl,rfl,rfl⟩ j)] at H
     exact ⟨s0,s1,s2,s7,s8,s10,s11,s12,s13,s14,s15,H⟩
  case neg =>
  refine CF O ω (Cy (bF O O (cU O (Lt ?_))))
  by_cases hm12:md=12
  case pos =>
   as_aux_lemma =>
    subst hm12
    refine CT O ω (Cs (ar 23 aJ κ ?_))
    intro w hsame
    replace H:=H.same hsame
    refine cF s1 (bW s7 (aG O O (fX (b:=0) ω) (aR am O O O (aD (v:=.int .u8 (pR A:Nat)) aQ O (H.cell 0 O ((af ω).trans (by rw [hA0]))) (cF s1 (bW s7 (cx O O (nZ (b:=4) ω) (aR am O O O (aD (v:=.int .u8 (pR L:Nat)) aQ O (H.cell 0 O ((af ω).trans (by rw [hL0]))) (cF s1 (bW s10 (aG O O (ck (b:=0) ω) (aR am O O O (aD (v:=.int .u8 (pR T:Nat)) aQ O (H.cell 0 O ((af ω).trans (by rw [hT0]))) (cF s1 (bW s10 (cx O O (iw (b:=4) ω) (aR am O O O (aD (v:=.int .u8 (pR TL:Nat)) aQ O (H.cell 0 O ((af ω).trans (by rw [hTL0]))) ?_)))))))))))))))))))
    refine bJ O vW (o6 _ _ _ _ η η η) O (aG O O (i5) (aR am O O O (Sn (aP H 0 cZ O O O ω ?_))))
    intro w H
    try simp only [List.set,List.eraseIdx] at H
    refine Lt (Cs (ar 23 aJ κ ?_))
    intro w hsame
    replace H:=H.same hsame
    refine cF s1 (bW s7 (aG O O (fX (b:=1) ω) (aR am O O O (aD (v:=.int .u8 (pG A:Nat)) aQ O (H.cell 0 O ((af ω).trans (by rw [if_neg ω,hA1]))) (cF s1 (bW s7 (cx O O (nZ (b:=3) ω) (aR am O O O (aD (v:=.int .u8 (pG L:Nat)) aQ O (H.cell 0 O ((af ω).trans (by rw [if_neg ω,hL1]))) (cF s1 (bW s10 (aG O O (ck (b:=1) ω) (aR am O O O (aD (v:=.int .u8 (pG T:Nat)) aQ O (H.cell 0 O ((af ω).trans (by rw [if_neg ω,hT1]))) (cF s1 (bW s10 (cx O O (iw (b:=3) ω) (aR am O O O (aD (v:=.int .u8 (pG TL:Nat)) aQ O (H.cell 0 O ((af ω).trans (by rw [if_neg ω,hTL1]))) ?_)))))))))))))))))))
    refine bJ O vW (o6 _ _ _ _ η η η) O (aG O O (i5) (aR am O O O (Sn (aP H 0 cZ O O O ω ?_))))
    intro w H
    try simp only [List.set,List.eraseIdx] at H
    refine Lt (Cs (ar 23 aJ κ ?_))
    intro w hsame
    replace H:=H.same hsame
    refine cF s1 (bW s7 (aG O O (fX (b:=2) ω) (aR am O O O (aD (v:=.int .u8 (pB A:Nat)) aQ O (H.cell 0 O ((af ω).trans (by rw [if_neg ω,if_neg ω,hA2]))) (cF s1 (bW s7 (cx O O (nZ (b:=2) ω) (aR am O O O (aD (v:=.int .u8 (pB L:Nat)) aQ O (H.cell 0 O ((af ω).trans (by rw [if_neg ω,if_neg ω,hL2]))) (cF s1 (bW s10 (aG O O (ck (b:=2) ω) (aR am O O O (aD (v:=.int .u8 (pB T:Nat)) aQ O (H.cell 0 O ((af ω).trans (by rw [if_neg ω,if_neg ω,hT2]))) (cF s1 (bW s10 (cx O O (iw (b:=2) ω) (aR am O O O (aD (v:=.int .u8 (pB TL:Nat)) aQ O (H.cell 0 O ((af ω).trans (by rw [if_neg ω,if_neg ω,hTL2]))) ?_)))))))))))))))))))
    refine bJ O vW (o6 _ _ _ _ η η η) O (aG O O (i5) (aR am O O O (Sn (aP H 0 cZ O O O ω ?_))))
    intro w H
    try simp only [List.set,List.eraseIdx] at H
    refine Lt (ar 23 aJ κ ?_)
    intro w hsame
    replace H:=H.same hsame
    refine cF s1 (bW s7 (aG O O (fX (b:=3) ω) (aR am O O O (aD (v:=.int .u8 (pA A:Nat)) aQ O (H.cell 0 O ((af ω).trans (by rw [if_neg ω,if_neg ω,if_neg ω,hA3]))) (cF s1 (bW s7 (cx O O (nZ (b:=1) ω) (aR am O O O (aD (v:=.int .u8 (pA L:Nat)) aQ O (H.cell 0 O ((af ω).trans (by rw [if_neg ω,if_neg ω,if_neg ω,hL3]))) (cF s1 (bW s10 (aG O O (ck (b:=3) ω) (aR am O O O (aD (v:=.int .u8 (pA T:Nat)) aQ O (H.cell 0 O ((af ω).trans (by rw [if_neg ω,if_neg ω,if_neg ω,hT3]))) (cF s1 (bW s10 (cx O O (iw (b:=1) ω) (aR am O O O (aD (v:=.int .u8 (pA TL:Nat)) aQ O (H.cell 0 O ((af ω).trans (by rw [if_neg ω,if_neg ω,if_neg ω,hTL3]))) ?_)))))))))))))))))))
    refine bJ O vW (o6 _ _ _ _ η η η) O (aG O O (i5) (aR am O O O (Sn (aP H 0 cZ O O O ω ?_))))
    intro w H
    try simp only [List.set,List.eraseIdx] at H
    refine Ln (aF (tn ?_))
    have hrow:∀ j,ap (M.set i (da A (bA 12 L T TL TR))) j=if j=P+3 then (pA A+gE (pA L) (pA T) (pA TL)) % 256 else if j=P+2 then (pB A+gE (pB L) (pB T) (pB TL)) % 256 else if j=P+1 then (pG A+gE (pG L) (pG T) (pG TL)) % 256 else if j=P+0 then (pR A+gE (pR L) (pR T) (pR TL)) % 256 else ap M j:=fun j => hset _ _ _ _ _ (fv 12 L T TL TR δ) j
    rw [aW (g:=ap (M.set i (da A (bA 12 L T TL TR)))) (fun j _ => hrow j)] at H
    exact ⟨s0,s1,s2,s7,s8,s10,s11,s12,s13,s14,s15,H⟩
  case neg =>
  refine CF O ω (Cy (bF O O (cU O (Lt ?_))))
  by_cases hm13:md=13
  case pos =>
   as_aux_lemma =>
    subst hm13
    refine CT O ω (Cs (ar 24 aJ κ ?_))
    intro w hsame
    replace H:=H.same hsame
    refine cF s1 (bW s7 (aG O O (fX (b:=0) ω) (aR am O O O (aD (v:=.int .u8 (pR A:Nat)) aQ O (H.cell 0 O ((af ω).trans (by rw [hA0]))) (cF s1 (bW s7 (cx O O (nZ (b:=4) ω) (aR am O O O (aD (v:=.int .u8 (pR L:Nat)) aQ O (H.cell 0 O ((af ω).trans (by rw [hL0]))) (cF s1 (bW s10 (aG O O (ck (b:=0) ω) (aR am O O O (aD (v:=.int .u8 (pR T:Nat)) aQ O (H.cell 0 O ((af ω).trans (by rw [hT0]))) (bJ O cQ (co _ _ _ η η) O (cF s1 (bW s10 (cx O O (iw (b:=4) ω) (aR am O O O ?_)))))))))))))))))))
    refine aD (v:=.int .u8 (pR TL:Nat)) aQ O (H.cell 0 O ((af ω).trans (by rw [hTL0]))) (bJ O v6 (oQ _ _ _ (fm η η) η) O (aG O O (i5) (aR am O O O (Sn (aP H 0 cZ O O O ω ?_)))))
    intro w H
    try simp only [List.set,List.eraseIdx] at H
    refine Lt (Cs (ar 24 aJ κ ?_))
    intro w hsame
    replace H:=H.same hsame
    refine cF s1 (bW s7 (aG O O (fX (b:=1) ω) (aR am O O O (aD (v:=.int .u8 (pG A:Nat)) aQ O (H.cell 0 O ((af ω).trans (by rw [if_neg ω,hA1]))) (cF s1 (bW s7 (cx O O (nZ (b:=3) ω) (aR am O O O (aD (v:=.int .u8 (pG L:Nat)) aQ O (H.cell 0 O ((af ω).trans (by rw [if_neg ω,hL1]))) (cF s1 (bW s10 (aG O O (ck (b:=1) ω) (aR am O O O (aD (v:=.int .u8 (pG T:Nat)) aQ O (H.cell 0 O ((af ω).trans (by rw [if_neg ω,hT1]))) (bJ O cQ (co _ _ _ η η) O (cF s1 (bW s10 (cx O O (iw (b:=3) ω) (aR am O O O ?_)))))))))))))))))))
    refine aD (v:=.int .u8 (pG TL:Nat)) aQ O (H.cell 0 O ((af ω).trans (by rw [if_neg ω,hTL1]))) (bJ O v6 (oQ _ _ _ (fm η η) η) O (aG O O (i5) (aR am O O O (Sn (aP H 0 cZ O O O ω ?_)))))
    intro w H
    try simp only [List.set,List.eraseIdx] at H
    refine Lt (Cs (ar 24 aJ κ ?_))
    intro w hsame
    replace H:=H.same hsame
    refine cF s1 (bW s7 (aG O O (fX (b:=2) ω) (aR am O O O (aD (v:=.int .u8 (pB A:Nat)) aQ O (H.cell 0 O ((af ω).trans (by rw [if_neg ω,if_neg ω,hA2]))) (cF s1 (bW s7 (cx O O (nZ (b:=2) ω) (aR am O O O (aD (v:=.int .u8 (pB L:Nat)) aQ O (H.cell 0 O ((af ω).trans (by rw [if_neg ω,if_neg ω,hL2]))) (cF s1 (bW s10 (aG O O (ck (b:=2) ω) (aR am O O O (aD (v:=.int .u8 (pB T:Nat)) aQ O (H.cell 0 O ((af ω).trans (by rw [if_neg ω,if_neg ω,hT2]))) (bJ O cQ (co _ _ _ η η) O (cF s1 (bW s10 (cx O O (iw (b:=2) ω) (aR am O O O ?_)))))))))))))))))))
    refine aD (v:=.int .u8 (pB TL:Nat)) aQ O (H.cell 0 O ((af ω).trans (by rw [if_neg ω,if_neg ω,hTL2]))) (bJ O v6 (oQ _ _ _ (fm η η) η) O (aG O O (i5) (aR am O O O (Sn (aP H 0 cZ O O O ω ?_)))))
    intro w H
    try simp only [List.set,List.eraseIdx] at H
    refine Lt (ar 24 aJ κ ?_)
    intro w hsame
    replace H:=H.same hsame
    refine cF s1 (bW s7 (aG O O (fX (b:=3) ω) (aR am O O O (aD (v:=.int .u8 (pA A:Nat)) aQ O (H.cell 0 O ((af ω).trans (by rw [if_neg ω,if_neg ω,if_neg ω,hA3]))) (cF s1 (bW s7 (cx O O (nZ (b:=1) ω) (aR am O O O (aD (v:=.int .u8 (pA L:Nat)) aQ O (H.cell 0 O ((af ω).trans (by rw [if_neg ω,if_neg ω,if_neg ω,hL3]))) (cF s1 (bW s10 (aG O O (ck (b:=3) ω) (aR am O O O (aD (v:=.int .u8 (pA T:Nat)) aQ O (H.cell 0 O ((af ω).trans (by rw [if_neg ω,if_neg ω,if_neg ω,hT3]))) (bJ O cQ (co _ _ _ η η) O (cF s1 (bW s10 (cx O O (iw (b:=1) ω) (aR am O O O ?_)))))))))))))))))))
    refine aD (v:=.int .u8 (pA TL:Nat)) aQ O (H.cell 0 O ((af ω).trans (by rw [if_neg ω,if_neg ω,if_neg ω,hTL3]))) (bJ O v6 (oQ _ _ _ (fm η η) η) O (aG O O (i5) (aR am O O O (Sn (aP H 0 cZ O O O ω ?_)))))
    intro w H
    try simp only [List.set,List.eraseIdx] at H
    refine Ln (aF (tn ?_))
    have hrow:∀ j,ap (M.set i (da A (bA 13 L T TL TR))) j=if j=P+3 then (pA A+gG (jb (pA L) (pA T)) (pA TL)) % 256 else if j=P+2 then (pB A+gG (jb (pB L) (pB T)) (pB TL)) % 256 else if j=P+1 then (pG A+gG (jb (pG L) (pG T)) (pG TL)) % 256 else if j=P+0 then (pR A+gG (jb (pR L) (pR T)) (pR TL)) % 256 else ap M j:=fun j => hset _ _ _ _ _ (fv 13 L T TL TR δ) j
    rw [aW (g:=ap (M.set i (da A (bA 13 L T TL TR)))) (fun j _ => hrow j)] at H
    exact ⟨s0,s1,s2,s7,s8,s10,s11,s12,s13,s14,s15,H⟩
  case neg =>
  refine CF O ω (Ck (aF (tn ?_)))
  have hmd14:md=14∨md=15:=ω
  have hz:bA md L T TL TR=0:=ym hmd14 L T TL TR
  rw [hz]
  rw [aW (g:=ap (M.set i (da A 0))) (fun j _ => hsetz j)] at H
  exact ⟨s0,s1,s2,s7,s8,s10,s11,s12,s13,s14,s15,H⟩
 case refine_2 =>
 clear s0 s1 s2 s7 s8 s10 s11 s12 s13 s14 s15 H ρ
 rintro ρ w4 ⟨s0,s1,s2,s7,s8,s10,s11,s12,s13,s14,s15,H⟩
 rw [hst] at H
 refine Cr (ai η (ao O O (fX (b:=4) ω) (ai η (ao O O (ck (b:=4) ω) (az O (az O (Ln (aF (tn (Cr (ai η (ao O O (fX (b:=1) ω) (az O (Lt ?_))))))))))))))
 exact ⟨t.wd - (x+1),ω,x+1,qx+1,P+4,Q+4,O,ω,ω,ω,ω,by rw [Nat.add_sub_cancel,hqx],s0,s1,s2,O,s8,O,s11,s12,s13,by rw [Nat.add_sub_cancel,← hqx,← hmd];exact s14,O,by rw [← Nat.add_assoc,← hi];exact H⟩
end Go.Proofs.YtmgemcffhbnpfaaGreatDoor
