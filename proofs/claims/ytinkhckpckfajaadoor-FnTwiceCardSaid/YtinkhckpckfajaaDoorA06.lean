/-
  A picture is written and read: part 6 of 13 (Inv, Index, PredA).
-/
import Derived.Test.YtinkhckpckfajaaDoorA05
set_option linter.unusedVariables false
set_option linter.unusedSimpArgs false
set_option maxRecDepth 100000
set_option maxHeartbeats 4000000
namespace Go.Proofs.YtinkhckpckfajaaDoor
open Go
def greenPx (p:Nat):Nat:=argb (pA p) ((pR p+pG p) % 256) (pG p) ((pB p+pG p) % 256)
def sg (x:Nat):Int:=if x<128 then (x:Int) else (x:Int) - 256
def deltaB (a b:Nat):Nat:=((sg a * sg b) / 32 % 256).toNat
def crossPx (m p:Nat):Nat:=argb (pA p) ((pR p+deltaB (pB m) (pG p)) % 256) (pG p) ((pB p+deltaB (pG m) (pG p)+deltaB (pR m) ((pR p+deltaB (pB m) (pG p)) % 256)) % 256)
def blkAt (w b at_:Nat):Nat:=tilesN w b * (at_ / w / 2 ^ b)+at_ % w / 2 ^ b
def greenF (acc:List Nat) (p:Nat):Nat:=greenPx p
def crossF (w b:Nat) (px:List Nat) (acc:List Nat) (p:Nat):Nat:=crossPx (px.getD (blkAt w b acc.length) 0) p
theorem deltaB_lt (a b:Nat):deltaB a b<256:=by unfold deltaB;omega
theorem greenPx_parts (p:Nat):pA (greenPx p)=pA p∧pR (greenPx p)=(pR p+pG p) % 256∧pG (greenPx p)=pG p∧pB (greenPx p)=(pB p+pG p) % 256∧greenPx p<2 ^ 32 :=
 argb_parts (parts_lt p).1 (Nat.mod_lt _ (by omega)) (parts_lt p).2.2.1 (Nat.mod_lt _ (by omega))
structure TrAt (w:World) (b off:Nat) (t:Tr) (pv:Value):Prop where
 kind:w.cell? ⟨b,off+0,none⟩=some (.int .u32 (t.kind:Nat))
 wd:w.cell? ⟨b,off+1,none⟩=some (.int .i32 (t.wd:Nat))
 bits:w.cell? ⟨b,off+2,none⟩=some (.int .u32 (t.bits:Nat))
 px:w.cell? ⟨b,off+3,none⟩=some pv
def InvPost (bp:Nat) (out:List Nat) (w:World) (e:Ending) (w':World):Prop :=
 ∃ b' cap',e=.returned (.slice (some ⟨b',0,none⟩) (4 * out.length) cap')∧4 * out.length≤cap'∧cap'≤1073742848∧(b'=bp∨w.heap.size≤b')∧Blk w' b' (rowK .u8 (byteAt out) cap') 5∧Frm [bp] w w'
theorem green_any (W:World) (tp:Value) (bp cap ht:Nat) (inp:List Nat) (hb:Blk W bp (rowK .u8 (byteAt inp) cap) 5) (hcap:4 * inp.length≤cap) (hc2:cap≤1073742848) :
  Calls Tryd.prog 118 #[tp,.slice (some ⟨bp,0,none⟩) (4 * inp.length) cap,.int .i32 (ht:Nat)] W (InvPost bp (scan greenF [] inp) W):=by
 have H:St W [bp] [blkR bp (rowK .u8 (byteAt inp) cap) 5] W:=St.ofBlk hb
 refine enter (m:=37) Tryd.func118 O Tryd.ntmps118 O (Cy (Lo O (Y.asg O) (Lt (Cs (Cy (Lo O (AI O) (Lt (Cb ?_))))))))
 rw [← mix_zero (f:=greenF) inp] at H
 refine Cl (fun mm ρ w' => ∃ i,mm=inp.length - i∧i≤inp.length∧ρ 1=.slice (some ⟨bp,0,none⟩) (4 * inp.length) cap∧ρ 7=.int .i64 ((4 * i:Nat):Int)∧St W [bp] [blkR bp (rowK .u8 (byteAt (mix greenF inp i)) cap) 5] w') inp.length
  ⟨0,rfl,by omega,rfl,rfl,H⟩ ?_
 clear H
 rintro mm ρ w1 ⟨i,rfl,hi,h1,h7,H⟩
 refine Cs (Cy (Lo O (YI (by assumption)) (Lo O (YS (by assumption)) (Lo O (Y.len sl_24 O) (Lo O (Y.lss O O) (Lt ?_))))))
 by_cases hlt:i<inp.length
 case pos =>
  have hst:=mix_step (f:=greenF) hlt
  have hml:=mix_length (f:=greenF) hi
  have hge:=mix_ge (f:=greenF) hi (Nat.le_refl i)
  rw [show greenF (made greenF inp i) (inp.getD i 0)=greenPx (inp.getD i 0) from rfl,← hge] at hst
  generalize mix greenF inp i=M at *
  have hA0:=byteAt_0 M i
  have hA1:=byteAt_1 M i
  have hA2:=byteAt_2 M i
  have hA3:=byteAt_3 M i
  clear hge
  generalize M.getD i 0=A at *
  obtain ⟨hq1,hq2,hq3,hq4,_⟩:=greenPx_parts A
  have hset:=byteAt_set (l:=M) (i:=i) (by omega) (greenPx A)
  rw [hq1,hq2,hq3,hq4] at hset
  refine CT O (by omega) (Ck (tn (Cs (Cb (Cy (Lo O (YS (by assumption)) (Lo O (YI (by assumption)) (Lo O (Y.add O O (n64 (b:=1) (by omega))) (Lo O (Y.ixS0 _ sl_24 O O O (by omega)) (Lo O (Y.ld (v:=.int .u8 (pG A:Nat)) ld_5 O (H.cell 0 O ((rowK_get (by omega)).trans (by rw [hA1])))) (Lo O (AI O) (Lt (Cy (Lo O (YS (by assumption)) (Lo O (YI (by assumption)) (Lo O (Y.add O O (n64 (b:=0) (by omega))) ?_))))))))))))))))
  refine Lo O (Y.ixS0 _ sl_24 O O O (by omega)) (Lo O (Y.ld (v:=.int .u8 (pR A:Nat)) ld_5 O (H.cell 0 O ((rowK_get (by omega)).trans (by rw [hA0])))) (Lo O (YI O) (Lo O (Y.add O O (nu8)) (Lo O (Y.ixS0 _ sl_24 O O O (by omega)) (VL.putR H 0 st_5 O O O (by omega) ?_)))))
  intro w H
  try simp only [List.set,List.eraseIdx] at H
  refine Lt (Cr (Lo O (YS (by assumption)) (Lo O (YI (by assumption)) (Lo O (Y.add O O (n64 (b:=2) (by omega))) (Lo O (Y.ixS0 _ sl_24 O O O (by omega)) (Lo O (Y.ld (v:=.int .u8 (pB A:Nat)) ld_5 O (H.cell 0 O ((rowK_get (by omega)).trans (by rw [if_neg (by omega),hA2])))) (Lo O (YI O) (Lo O (Y.add O O (nu8)) (Lo O (Y.ixS0 _ sl_24 O O O (by omega)) (VL.putR H 0 st_5 O O O (by omega) ?_))))))))))
  intro w H
  try simp only [List.set,List.eraseIdx] at H
  refine Ln (blk_n (tn ?_))
  rw [rowK_congr (g:=byteAt (M.set i (greenPx A))) (fun j _ => by
   rw [hset]
   by_cases h3:j=4 * i+3
   ·rw [if_pos h3,if_neg (by omega),if_neg (by omega),h3,hA3]
   ·rw [if_neg h3]
    by_cases h2:j=4 * i+2
    ·rw [if_pos h2,if_pos h2]
    ·rw [if_neg h2,if_neg h2]
     by_cases h1:j=4 * i+1
     ·rw [if_pos h1,if_neg (by omega),h1,hA1]
     ·rw [if_neg h1]),hst] at H
  refine Cr (Lo O (YI (by assumption)) (Lo O (Y.add O O (n64 (b:=4) (by omega))) (Lo O (AI O) (Lt ?_))))
  exact ⟨inp.length - (i+1),by omega,i+1,rfl,by omega,h1,rfl,H⟩
 case neg =>
 have hl:(scan greenF [] inp).length=inp.length:=by rw [scan_length];simp
 obtain rfl:i=inp.length:=by omega
 rw [mix_all] at H
 refine CF O (by omega) (Cx (thn_x (thn_x (blk_x (tn (Cy (Lo O (YS (by assumption)) (Lo O (AS O) (Lt (Ct ?_))))))))))
 exact Done.ret1 O O ⟨bp,cap,by rw [hl];rfl,by omega,hc2,.inl rfl,H.blk (i:=0) rfl,H.frm⟩
theorem sg_wrap (x:Nat) (h:x<256):IntKind.i8.wrap (x:Int)=sg x:=by
 unfold sg
 split
 ·exact wi8 (by omega)
 ·simp only [IntKind.wrap,IntKind.bits,IntKind.signed]
  simp
  omega
theorem sg_range (x:Nat) (h:x<256):-128≤sg x∧sg x≤127:=by unfold sg;split <;> omega
theorem sg_mul (a b:Nat) (ha:a<256) (hb:b<256):-16384≤sg a * sg b∧sg a * sg b≤16384:=by
 have h1:=sg_range a ha
 have h2:=sg_range b hb
 generalize sg a=x at *
 generalize sg b=y at *
 obtain ⟨h1a,h1b⟩:=h1
 obtain ⟨h2a,h2b⟩:=h2
 have e1:0≤(x+128) * (y+128):=Int.mul_nonneg (by omega) (by omega)
 have e2:0≤(128 - x) * (128 - y):=Int.mul_nonneg (by omega) (by omega)
 have e3:0≤(x+128) * (128 - y):=Int.mul_nonneg (by omega) (by omega)
 have e4:0≤(128 - x) * (y+128):=Int.mul_nonneg (by omega) (by omega)
 simp only [Int.add_mul,Int.sub_mul,Int.mul_add,Int.mul_sub] at e1 e2 e3 e4
 omega
theorem crossR (a b:Nat) (ha:a<256) (hb:b<256):IntKind.u8.wrap ((IntKind.u32.wrap (IntKind.i32.wrap (sg a * sg b))).fdiv (2 ^ min (5:Int).toNat IntKind.u32.bits))=(deltaB a b:Nat):=by
 have h:=sg_mul a b ha hb
 unfold deltaB
 generalize sg a * sg b=x at *
 rw [w32 (by omega),wu32m,wu8m]
 show (x % 4294967296).fdiv 32 % 256=_
 rw [Int.fdiv_eq_ediv_of_nonneg _ (by omega)]
 omega
theorem div_step {x t:Nat} (ht:0<t) (hx:0<x):(x % t=0→x / t=(x - 1) / t+1)∧(x % t≠0→x / t=(x - 1) / t):=by
 have e1:=Nat.div_add_mod x t
 have e2:=Nat.div_add_mod (x - 1) t
 have l1:=Nat.mod_lt x ht
 have l2:=Nat.mod_lt (x - 1) ht
 generalize x / t=q at *
 generalize x % t=r at *
 generalize (x - 1) / t=q' at *
 generalize (x - 1) % t=r' at *
 have up:q'+2≤q→t * q'+2 * t≤t * q:=fun h => by
  have:=Nat.mul_le_mul_left t h
  rw [Nat.mul_add] at this
  omega
 have dn:q+1≤q'→t * q+t≤t * q':=fun h => by
  have:=Nat.mul_le_mul_left t h
  rw [Nat.mul_add,Nat.mul_one] at this
  exact this
 have same:q=q'→t * q=t * q':=fun h => by rw [h]
 have one:q=q'+1→t * q=t * q'+t:=fun h => by rw [h,Nat.mul_add,Nat.mul_one]
 have tri:q'+2≤q∨q+1≤q'∨q=q'∨q=q'+1:=by omega
 refine ⟨fun h0 => ?_,fun h0 => ?_⟩
 ·rcases tri with h | h | h | h
  ·have:=up h;omega
  ·have:=dn h;omega
  ·have:=same h;omega
  ·exact h
 ·rcases tri with h | h | h | h
  ·have:=up h;omega
  ·have:=dn h;omega
  ·exact h
  ·have:=one h;omega
theorem crossPx_parts (m p:Nat):pA (crossPx m p)=pA p∧pR (crossPx m p)=(pR p+deltaB (pB m) (pG p)) % 256∧pG (crossPx m p)=pG p∧pB (crossPx m p)=(pB p+deltaB (pG m) (pG p)+deltaB (pR m) ((pR p+deltaB (pB m) (pG p)) % 256)) % 256∧crossPx m p<2 ^ 32 :=
 argb_parts (parts_lt p).1 (Nat.mod_lt _ (by omega)) (parts_lt p).2.2.1 (Nat.mod_lt _ (by omega))
theorem cross_any (W:World) (btr off:Nat) (t:Tr) (bpx len capx bp cap ht:Nat) (inp:List Nat) (hT:TrAt W btr off t (.slice (some ⟨bpx,0,none⟩) len capx)) (hO:TrOk ht t) (hk:t.kind≤1)
  (hpx:Blk W bpx (rowK .u8 (byteAt t.px) capx) 5) (hlen:4 * t.px.length≤len) (hlc:len≤capx) (hn1:btr ∉ [bp]) (hn2:bpx ∉ [bp]) (hh:1≤ht) (hh2:ht≤16384)
  (hb:Blk W bp (rowK .u8 (byteAt inp) cap) 5) (hil:inp.length=t.wd * ht) (hcap:4 * inp.length≤cap) (hc2:cap≤1073742848) :
  Calls Tryd.prog 117 #[.pointer (some ⟨btr,off,none⟩),.slice (some ⟨bp,0,none⟩) (4 * inp.length) cap,.int .i32 (ht:Nat)] W (InvPost bp (scan (crossF t.wd t.bits t.px) [] inp) W):=by
 have H:St W [bp] [blkR bp (rowK .u8 (byteAt inp) cap) 5] W:=St.ofBlk hb
 obtain ⟨hb2,hb9,hpl⟩:=hO.tile hk
 obtain ⟨hw,hw2⟩:=hO.wd
 have hT1:=hT.wd
 have hT2:=hT.bits
 have hT3:=hT.px
 have hp9:2 ^ t.bits≤2 ^ 9:=Nat.pow_le_pow_right (by omega) hb9
 have hp1:=Nat.two_pow_pos t.bits
 have hp4:2 ^ 2≤2 ^ t.bits:=Nat.pow_le_pow_right (by omega) hb2
 obtain ⟨F,hF⟩:∃ F,F=crossF t.wd t.bits t.px:=⟨_,rfl⟩
 rw [← hF]
 obtain ⟨tp,htp⟩:∃ tp,tp=tilesN t.wd t.bits:=⟨_,rfl⟩
 have htp2:=tilesN_le (n:=t.wd) (b:=t.bits) hw
 refine enter (m:=150) Tryd.func117 O Tryd.ntmps117 O (Cy (Lo O (Y.asg O) (Lt (Cy (Lo O (AI O) (Lo O (AI O) (Lo O (AI O) (Lt (Cs ?_)))))))))
 refine VC.held (Frm [bp] W) mixedP (by with_reducible repeat (first | refine NoP.thn ?_ | refine NoP.blk ?_ | refine NoP.jmp ?_ | refine NoP.nojmp ?_ | exact NoP.done)) ?_
 intro w hsame
 replace H:=H.same hsame
 refine Ht 0 O (by kernel_rfl) (by kernel_rfl) (by kernel_rfl) O H.frm (fun w hI => YP O) (Ht 1 O (by kernel_rfl) (by kernel_rfl) (by kernel_rfl) O H.frm (fun w hI => Y.nilP O) (Ht 2 O (by kernel_rfl) (by kernel_rfl) (by kernel_rfl) O H.frm (fun w hI => Y.fa fa_87_2 O) (Ht 3 O (by kernel_rfl) (by kernel_rfl) (by kernel_rfl) O H.frm (fun w hI => Y.ld ld_36 O (hI.cell hT2 hn1)) (Ht 4 O (by kernel_rfl) (by kernel_rfl) (by kernel_rfl) O H.frm (fun w hI => Y.shl (r:=((2 ^ t.bits:Nat):Int)) O O (by omega) (by rw [← Nat.one_mul (2 ^ t.bits)];exact l32 (a:=1) (by omega))) (Ht 5 O (by kernel_rfl) (by kernel_rfl) (by kernel_rfl) O H.frm (fun w hI => (Y.sub O O (s32 (b:=1) (by omega)))) (Ht 6 O (by kernel_rfl) (by kernel_rfl) (by kernel_rfl) O H.frm (fun w hI => YP O) (Ht 7 O (by kernel_rfl) (by kernel_rfl) (by kernel_rfl) O H.frm (fun w hI => Y.nilP O) (Ht 8 O (by kernel_rfl) (by kernel_rfl) (by kernel_rfl) O H.frm (fun w hI => Y.fa fa_87_1 O) (Ht 9 O (by kernel_rfl) (by kernel_rfl) (by kernel_rfl) O H.frm (fun w hI => Y.ld ld_21 O (hI.cell hT1 hn1)) (Ht 10 O (by kernel_rfl) (by kernel_rfl) (by kernel_rfl) O H.frm (fun w hI => YP O) (Ht 11 O (by kernel_rfl) (by kernel_rfl) (by kernel_rfl) O H.frm (fun w hI => Y.nilP O) (Ht 12 O (by kernel_rfl) (by kernel_rfl) (by kernel_rfl) O H.frm (fun w hI => Y.fa fa_87_2 O) (Ht 13 O (by kernel_rfl) (by kernel_rfl) (by kernel_rfl) O H.frm (fun w hI => Y.ld ld_36 O (hI.cell hT2 hn1)) (VH.callP 14 O (by kernel_rfl) O ent_55 (nTiles_any _ t.wd t.bits hw (by omega) hb9) O H.frm (Ht 15 O (by kernel_rfl) (by kernel_rfl) (by kernel_rfl) O H.frm (fun w hI => AI O) (Ht 16 O (by kernel_rfl) (by kernel_rfl) (by kernel_rfl) O H.frm (fun w hI => AI O) (Ht 17 O (by kernel_rfl) (by kernel_rfl) (by kernel_rfl) O H.frm (fun w hI => AI O) (VH.nil (by kernel_rfl) (tn ?_)))))))))))))))))))
 rw [← htp]
 rw [← htp] at htp2
 refine Cs (Cy (Lo O (AI O) (Lt (Cb ?_))))
 rw [← mix_zero (f:=F) inp] at H
 refine Cl (fun mm ρ w' => ∃ y P,mm=ht - y∧y≤ht∧P=4 * (y * t.wd)∧ρ 0=.pointer (some ⟨btr,off,none⟩)∧ρ 1=.slice (some ⟨bp,0,none⟩) (4 * inp.length) cap∧ρ 2=.int .i32 (ht:Nat)∧ρ 10=.int .i32 (P:Nat)∧ρ 11=.int .i32 ((2 ^ t.bits - 1:Nat):Int)∧ρ 12=.int .i32 (tp:Nat)∧ρ 13=.int .i32 (y:Nat) ∧
  (∃ f7 f8 f9,ρ 7=.int .i32 f7∧ρ 8=.int .i32 f8∧ρ 9=.int .i32 f9)∧St W [bp] [blkR bp (rowK .u8 (byteAt (mix F inp (y * t.wd))) cap) 5] w') ht
  ⟨0,0,rfl,by omega,by omega,rfl,rfl,rfl,rfl,rfl,rfl,rfl,⟨_,_,_,rfl,rfl,rfl⟩,by rw [Nat.zero_mul];exact H⟩ ?_
 clear H
 rintro mm ρ w1 ⟨y,P,rfl,hy,hP,h0,h1,h2,h10,h11,h12,h13,⟨f7,f8,f9,h7,h8,h9⟩,H⟩
 refine Cs (Cy (Lo O (YI (by assumption)) (Lo O (YI (by assumption)) (Lo O (Y.lss O O) (Lt ?_)))))
 by_cases hlt:y<ht
 case neg =>
  have hl:(scan F [] inp).length=inp.length:=by rw [scan_length];simp
  obtain rfl:y=ht:=by omega
  rw [show y * t.wd=inp.length by rw [hil,Nat.mul_comm],mix_all] at H
  refine CF O (by omega) (Cx (thn_x (thn_x (blk_x (tn (Cy (Lo O (YS (by assumption)) (Lo O (AS O) (Lt (Ct ?_))))))))))
  exact Done.ret1 O O ⟨bp,cap,by rw [hl];rfl,by omega,hc2,.inl rfl,H.blk (i:=0) rfl,H.frm⟩
 case pos =>
 have hyw:(y+1) * t.wd≤inp.length:=by rw [hil,Nat.mul_comm];exact Nat.mul_le_mul_left _ hlt
 rw [Nat.succ_mul] at hyw
 obtain ⟨qy,hqy⟩:∃ q,q=y / 2 ^ t.bits:=⟨_,rfl⟩
 have hqy2:qy≤y:=by rw [hqy];exact Nat.div_le_self _ _
 have hmul:tp * qy≤16384 * 16384:=Nat.mul_le_mul (by omega) (by omega)
 have hmul2:qy * tp=tp * qy:=Nat.mul_comm _ _
 obtain ⟨Y0,hY0⟩:∃ Y0,Y0=y * t.wd:=⟨_,rfl⟩
 rw [← hY0] at hyw hP H
 have hpl2:t.px.length≤268435456:=by
  rw [hpl]
  have h2:=(tilesN_le (b:=t.bits) hh).2
  rw [← htp]
  exact Nat.mul_le_mul (show _≤16384 by omega) (show _≤16384 by omega)
 refine CT O (by omega) (Ck (tn (Cs (Cb (Cy (Lo O (YI (by assumption)) (Lo O (YP (by assumption)) (Lo O (Y.nilP O) (Lo O (Y.fa fa_87_2 O) (Lo O (Y.ld ld_36 O (H.old (by assumption) (by assumption))) (Lo O (Y.shr (r:=(qy:Int)) O O (by omega) (by rw [hqy];exact shrK (k:=.i32) (b:=t.bits) (by show t.bits≤32;omega))) (Lo O (Y.mul (r:=((4 * qy:Nat):Int)) O O (m32 (a:=4) (by omega))) (Lo O (YI (by assumption)) (Lo O (Y.mul (r:=((4 * (tp * qy):Nat):Int)) O O (by rw [m32 (by rw [Nat.mul_assoc,hmul2];omega),Nat.mul_assoc,hmul2])) (Lo O (AI O) (Lt (Cs ?_)))))))))))))))))
 refine Cr (Lo O (AI O) (Lt (Cb ?_)))
 refine Cl (fun mm ρ w' => ∃ x nq P,mm=t.wd - x∧x≤t.wd∧P=4 * (Y0+x)∧ρ 0=.pointer (some ⟨btr,off,none⟩)∧ρ 1=.slice (some ⟨bp,0,none⟩) (4 * inp.length) cap∧ρ 2=.int .i32 (ht:Nat)∧ρ 10=.int .i32 (P:Nat)∧ρ 11=.int .i32 ((2 ^ t.bits - 1:Nat):Int)∧ρ 12=.int .i32 (tp:Nat)∧ρ 13=.int .i32 (y:Nat)∧ρ 15=.int .i32 (x:Nat)∧ρ 14=.int .i32 ((4 * (tp * qy+nq):Nat):Int) ∧
  (∃ f7 f8 f9,ρ 7=.int .i32 f7∧ρ 8=.int .i32 f8∧ρ 9=.int .i32 f9∧((x=0∧nq=0)∨(0<x∧nq=(x - 1) / 2 ^ t.bits+1∧f7=sg (pB (t.px.getD (tp * qy+(x - 1) / 2 ^ t.bits) 0))∧f8=sg (pG (t.px.getD (tp * qy+(x - 1) / 2 ^ t.bits) 0))∧f9=sg (pR (t.px.getD (tp * qy+(x - 1) / 2 ^ t.bits) 0))))) ∧
  St W [bp] [blkR bp (rowK .u8 (byteAt (mix F inp (Y0+x))) cap) 5] w') t.wd
  ⟨0,0,P,rfl,by omega,by omega,h0,h1,h2,h10,h11,h12,h13,rfl,rfl,⟨f7,f8,f9,h7,h8,h9,.inl ⟨rfl,rfl⟩⟩,H⟩ ?_
 clear h0 h1 h2 h10 h11 h12 h13 h7 h8 h9 f7 f8 f9 H hP P
 clear ρ
 rintro mm ρ w2 ⟨x,nq,P,rfl,hx,hP,h0,h1,h2,h10,h11,h12,h13,h15,h14,⟨f7,f8,f9,h7,h8,h9,hf⟩,H⟩
 refine Cs (Cy (Lo O (YI (by assumption)) (Lo O (YP (by assumption)) (Lo O (Y.nilP O) (Lo O (Y.fa fa_87_1 O) (Lo O (Y.ld ld_21 O (H.old (by assumption) (by assumption))) (Lo O (Y.lss O O) (Lt ?_))))))))
 by_cases hxw:x<t.wd
 case neg =>
  obtain hxe:x=t.wd:=by omega
  rw [hxe] at H hP
  refine CF O (by omega) (Cx (thn_x (thn_x (blk_x (blk_n (tn (Cr (Lo O (YI (by assumption)) (Lo O (Y.add O O (n32 (b:=1) (by omega))) (Lo O (AI O) (Lt ?_)))))))))))
  exact ⟨ht - (y+1),by omega,y+1,P,rfl,by omega,by rw [show (y+1) * t.wd=Y0+t.wd by rw [Nat.succ_mul,hY0]];exact hP,h0,h1,h2,h10,h11,h12,rfl,⟨f7,f8,f9,h7,h8,h9⟩,by rw [show (y+1) * t.wd=Y0+t.wd by rw [Nat.succ_mul,hY0]];exact H⟩
 case pos =>
 have hti:=tile_index (b:=t.bits) hxw hlt
 rw [← hpl,← htp,← hqy] at hti
 have hdiv:x≠0→_:=fun h => div_step (x:=x) (t:=2 ^ t.bits) hp1 (by omega)
 have hand:x &&& (2 ^ t.bits - 1)=x % 2 ^ t.bits:=Nat.and_two_pow_sub_one_eq_mod x _
 have hxm:x % 2 ^ t.bits≤x:=Nat.mod_le _ _
 have hx0:x=0→x % 2 ^ t.bits=0∧x / 2 ^ t.bits=0:=fun h => by rw [h];exact ⟨Nat.zero_mod _,Nat.zero_div _⟩
 obtain ⟨qx,hqx⟩:∃ q,q=x / 2 ^ t.bits:=⟨_,rfl⟩
 rw [← hqx] at hti hdiv hx0
 obtain ⟨m,hm⟩:∃ m,m=t.px.getD (tp * qy+qx) 0:=⟨_,rfl⟩
 refine CT O (by omega) (Ck (tn (Cs (Cb (Cs (Cy (Lo O (YI (by assumption)) (Lo O (YI (by assumption)) (Lo O (Y.and (r:=(x % 2 ^ t.bits:Nat)) O O (by rw [← hand];exact a32 (by omega))) (Lo O (Y.eql O O) (Lt ?_)))))))))))
 refine VC.join (fun ρ w' => ρ 0=.pointer (some ⟨btr,off,none⟩)∧ρ 1=.slice (some ⟨bp,0,none⟩) (4 * inp.length) cap∧ρ 2=.int .i32 (ht:Nat)∧ρ 10=.int .i32 (P:Nat)∧ρ 11=.int .i32 ((2 ^ t.bits - 1:Nat):Int)∧ρ 12=.int .i32 (tp:Nat)∧ρ 13=.int .i32 (y:Nat)∧ρ 15=.int .i32 (x:Nat)∧ρ 14=.int .i32 ((4 * (tp * qy+(qx+1)):Nat):Int) ∧
  ρ 7=.int .i32 (sg (pB m))∧ρ 8=.int .i32 (sg (pG m))∧ρ 9=.int .i32 (sg (pR m))∧w2=w') ?_ ?_
 case refine_1 =>
  by_cases hxz:x % 2 ^ t.bits=0
  case neg =>
   have hxp:x≠0:=fun h => hxz (hx0 h).1
   have hd:=(hdiv hxp).2 hxz
   rcases hf with ⟨h,_⟩ | ⟨_,hnq,hf7,hf8,hf9⟩
   ·exact absurd h hxp
   rw [← hd,← hm] at hf7 hf8 hf9
   rw [← hd] at hnq
   subst hf7 hf8 hf9 hnq
   refine CF O (by omega) (Ck (tn ?_))
   exact ⟨h0,h1,h2,h10,h11,h12,h13,h15,h14,h7,h8,h9,rfl⟩
  case pos =>
   have hnq:nq=qx:=by
    by_cases hxp:x=0
    ·rcases hf with ⟨_,h⟩ | ⟨h,_⟩
     ·rw [h,(hx0 hxp).2]
     ·omega
    ·have hd:=(hdiv hxp).1 hxz
     rcases hf with ⟨h,_⟩ | ⟨_,h,_⟩
     ·exact absurd h hxp
     ·rw [h,hd]
   subst hnq
   have hA0:=byteAt_0 t.px (tp * qy+nq)
   have hA1:=byteAt_1 t.px (tp * qy+nq)
   have hA2:=byteAt_2 t.px (tp * qy+nq)
   rw [← hm] at hA0 hA1 hA2
   obtain ⟨g1,g2,g3,g4⟩:=parts_lt m
   have k0:=H.old (hpx.cellv (rowK_get (k:=.u8) (f:=byteAt t.px) (j:=4 * (tp * qy+nq)+0) (by omega))) hn2
   have k1:=H.old (hpx.cellv (rowK_get (k:=.u8) (f:=byteAt t.px) (j:=4 * (tp * qy+nq)+1) (by omega))) hn2
   have k2:=H.old (hpx.cellv (rowK_get (k:=.u8) (f:=byteAt t.px) (j:=4 * (tp * qy+nq)+2) (by omega))) hn2
   rw [hA0] at k0
   rw [hA1] at k1
   rw [hA2] at k2
   refine CT O (by omega) (Cy (Lo O (YP (by assumption)) (Lo O (Y.nilP O) (Lo O (Y.fa fa_87_3 O) (Lo O (Y.ld ld_24 O (H.old (by assumption) (by assumption))) (Lo O (YI (by assumption)) (Lo O (Y.add O O (n32 (b:=0) (by omega))) (Lo O (Y.ixS0 _ sl_24 O O O (by omega)) (Lo O (Y.ld ld_5 O k0) (Lo O (Y.cv int_5_151 O (sg_wrap _ g2)) (Lo O (Y.cv int_151_21 O (w32 (by have:=sg_range _ g2;omega))) (Lo O (AI O) (Lt (Cy (Lo O (YP (by assumption)) (Lo O (Y.nilP O) ?_))))))))))))))))
   refine Lo O (Y.fa fa_87_3 O) (Lo O (Y.ld ld_24 O (H.old (by assumption) (by assumption))) (Lo O (YI (by assumption)) (Lo O (Y.add O O (n32 (b:=1) (by omega))) (Lo O (Y.ixS0 _ sl_24 O O O (by omega)) (Lo O (Y.ld ld_5 O k1) (Lo O (Y.cv int_5_151 O (sg_wrap _ g3)) (Lo O (Y.cv int_151_21 O (w32 (by have:=sg_range _ g3;omega))) (Lo O (AI O) (Lt (Cy (Lo O (YP (by assumption)) (Lo O (Y.nilP O) (Lo O (Y.fa fa_87_3 O) (Lo O (Y.ld ld_24 O (H.old (by assumption) (by assumption))) (Lo O (YI (by assumption)) (Lo O (Y.add O O (n32 (b:=2) (by omega))) (Lo O (Y.ixS0 _ sl_24 O O O (by omega)) ?_)))))))))))))))))
   refine Lo O (Y.ld ld_5 O k2) (Lo O (Y.cv int_5_151 O (sg_wrap _ g4)) (Lo O (Y.cv int_151_21 O (w32 (by have:=sg_range _ g4;omega))) (Lo O (AI O) (Lt (Cr (Lo O (YI (by assumption)) (Lo O (Y.add O O (n32 (b:=4) (by omega))) (Lo O (AI O) (Lt ?_)))))))))
   exact ⟨h0,h1,h2,h10,h11,h12,h13,h15,rfl,rfl,rfl,rfl,rfl⟩
 case refine_2 =>
 clear h0 h1 h2 h10 h11 h12 h13 h15 h14 h7 h8 h9 hf f7 f8 f9 ρ
 rintro ρ w' ⟨h0,h1,h2,h10,h11,h12,h13,h15,h14,h7,h8,h9,rfl⟩
 obtain ⟨i,hi⟩:∃ i,i=Y0+x:=⟨_,rfl⟩
 rw [← hi] at H hP
 have hil2:i<inp.length:=by omega
 have hst:=mix_step (f:=F) hil2
 have hml:=mix_length (f:=F) (l:=inp) (i:=i) (by omega)
 have hge:=mix_ge (f:=F) (l:=inp) (i:=i) (by omega) (Nat.le_refl i)
 have hFF:F (made F inp i) (inp.getD i 0)=crossPx m (inp.getD i 0):=by
  have e:∀ (l:List Nat) (p:Nat),l.length=i→F l p=crossPx m p:=fun l p hl => by
   rw [hF]
   unfold crossF blkAt
   obtain ⟨e1,e2⟩:=divmod (show y * t.wd+x=i by omega) hxw
   rw [hl,e1,e2,hm,htp,hqy,hqx]
  exact e _ _ (made_length (by omega))
 rw [hFF,← hge] at hst
 generalize mix F inp i=M at *
 have hA0:=byteAt_0 M i
 have hA1:=byteAt_1 M i
 have hA2:=byteAt_2 M i
 have hA3:=byteAt_3 M i
 rw [← hP] at hA0 hA1 hA2 hA3
 clear hge hFF
 generalize M.getD i 0=A at *
 obtain ⟨hq1,hq2,hq3,hq4,_⟩:=crossPx_parts m A
 have hset:=byteAt_set (l:=M) (i:=i) (by omega) (crossPx m A)
 rw [hq1,hq2,hq3,hq4,← hP] at hset
 obtain ⟨m1,m2,m3,m4⟩:=parts_lt m
 obtain ⟨a1,a2,a3,a4⟩:=parts_lt A
 refine Cy (Lo O (YS (by assumption)) (Lo O (YI (by assumption)) (Lo O (Y.add O O (n32 (b:=0) (by omega))) (Lo O (Y.ixS0 _ sl_24 O O O (by omega)) (Lo O (Y.ld (v:=.int .u8 (pR A:Nat)) ld_5 O (H.cell 0 O ((rowK_get (by omega)).trans (by rw [hA0])))) (Lo O (AI O) (Lt (Cy (Lo O (YS (by assumption)) (Lo O (YI (by assumption)) (Lo O (Y.add O O (n32 (b:=1) (by omega))) (Lo O (Y.ixS0 _ sl_24 O O O (by omega)) (Lo O (Y.ld (v:=.int .u8 (pG A:Nat)) ld_5 O (H.cell 0 O ((rowK_get (by omega)).trans (by rw [hA1])))) (Lo O (AI O) (Lt ?_)))))))))))))))
 refine Cy (Lo O (YS (by assumption)) (Lo O (YI (by assumption)) (Lo O (Y.add O O (n32 (b:=2) (by omega))) (Lo O (Y.ixS0 _ sl_24 O O O (by omega)) (Lo O (Y.ld (v:=.int .u8 (pB A:Nat)) ld_5 O (H.cell 0 O ((rowK_get (by omega)).trans (by rw [hA2])))) (Lo O (AI O) (Lt (Cy (Lo O (YI O) (Lo O (YI (by assumption)) (Lo O (YI O) (Lo O (Y.cv int_5_151 O (sg_wrap _ a3)) (Lo O (Y.cv int_151_21 O (w32 (by have:=sg_range _ a3;omega))) (Lo O (Y.mulW O O) (Lo O (Y.cv int_21_36 O O) (Lo O (Y.shrW O O (by omega)) ?_))))))))))))))))
 refine Lo O (Y.cv (r:=(deltaB (pB m) (pG A):Nat)) int_36_5 O (crossR _ _ m4 a3)) (Lo O (Y.add O O (nu8)) (Lo O (AI O) (Lt (Cy (Lo O (YI O) (Lo O (YI (by assumption)) (Lo O (YI O) (Lo O (Y.cv int_5_151 O (sg_wrap _ a3)) (Lo O (Y.cv int_151_21 O (w32 (by have:=sg_range _ a3;omega))) (Lo O (Y.mulW O O) (Lo O (Y.cv int_21_36 O O) (Lo O (Y.shrW O O (by omega)) (Lo O (Y.cv (r:=(deltaB (pG m) (pG A):Nat)) int_36_5 O (crossR _ _ m3 a3)) (Lo O (Y.add O O (nu8)) (Lo O (AI O) (Lt ?_))))))))))))))))
 have hR8:(pR A+deltaB (pB m) (pG A)) % 256<256:=Nat.mod_lt _ (by omega)
 refine Cy (Lo O (YI O) (Lo O (YI (by assumption)) (Lo O (YI O) (Lo O (Y.cv int_5_151 O (sg_wrap _ hR8)) (Lo O (Y.cv int_151_21 O (w32 (by have:=sg_range _ hR8;omega))) (Lo O (Y.mulW O O) (Lo O (Y.cv int_21_36 O O) (Lo O (Y.shrW O O (by omega)) (Lo O (Y.cv (r:=(deltaB (pR m) ((pR A+deltaB (pB m) (pG A)) % 256):Nat)) int_36_5 O (crossR _ _ m2 hR8)) (Lo O (Y.add O O (nu8)) (Lo O (AI O) (Lt (Cy (Lo O (YS (by assumption)) (Lo O (YI (by assumption)) (Lo O (Y.add O O (n32 (b:=0) (by omega))) ?_))))))))))))))))
 refine Lo O (YI O) (Lo O (Y.ixS0 _ sl_24 O O O (by omega)) (VL.putR H 0 st_5 O O O (by omega) ?_))
 intro w H
 try simp only [List.set,List.eraseIdx] at H
 refine Lt (Cy (Lo O (YS (by assumption)) (Lo O (YI (by assumption)) (Lo O (Y.add O O (n32 (b:=2) (by omega))) (Lo O (YI O) (Lo O (Y.ixS0 _ sl_24 O O O (by omega)) (VL.putR H 0 st_5 O O O (by omega) ?_)))))))
 intro w H
 try simp only [List.set,List.eraseIdx] at H
 refine Lt ?_
 rw [rowK_congr (g:=byteAt (M.set i (crossPx m A))) (fun j _ => by
  rw [hset]
  by_cases h3:j=P+3
  ·rw [if_pos h3,if_neg (by omega),if_neg (by omega),h3,hA3]
  ·rw [if_neg h3]
   by_cases h2:j=P+2
   ·rw [if_pos h2,if_pos h2,Nat.mod_add_mod]
   ·rw [if_neg h2,if_neg h2]
    by_cases h1:j=P+1
    ·rw [if_pos h1,if_neg (by omega),h1,hA1]
    ·rw [if_neg h1]),hst] at H
 refine Cr (Lo O (YI (by assumption)) (Lo O (Y.add O O (n32 (b:=4) (by omega))) (Lo O (AI O) (Ln (blk_n (tn (Cr (Lo O (YI (by assumption)) (Lo O (Y.add O O (n32 (b:=1) (by omega))) (Lo O (AI O) (Lt ?_)))))))))))
 exact ⟨t.wd - (x+1),by omega,x+1,qx+1,P+4,rfl,by omega,by omega,h0,h1,h2,rfl,h11,h12,h13,rfl,h14,⟨_,_,_,h7,h8,h9,.inr ⟨by omega,by rw [Nat.add_sub_cancel,hqx],by rw [Nat.add_sub_cancel,← hqx,hm],by rw [Nat.add_sub_cancel,← hqx,hm],by rw [Nat.add_sub_cancel,← hqx,hm]⟩⟩,by rw [← Nat.add_assoc,← hi];exact H⟩
def idxPx (w b:Nat) (tab inp:List Nat) (at_:Nat):Nat:=tab.getD (pG (inp.getD (at_ / w * tilesN w b+at_ % w / 2 ^ b) 0) / 2 ^ (8 / 2 ^ b * (at_ % w % 2 ^ b)) % 2 ^ (8 / 2 ^ b)) 0
def indexOut (w h b:Nat) (tab inp:List Nat):List Nat:=(List.range (w * h)).map (idxPx w b tab inp)
def idxF (tab:List Nat) (acc:List Nat) (p:Nat):Nat:=tab.getD (pG p) 0
theorem scan_map (g:Nat→Nat):∀ (l acc:List Nat),scan (fun _ p => g p) acc l=acc++l.map g
 | [],acc => by simp [scan]
 | p :: l,acc => by rw [scan,scan_map g l];simp
theorem indexOut_zero {w h:Nat} (tab inp:List Nat) (hw:1≤w) (hl:inp.length=w * h):indexOut w h 0 tab inp=scan (idxF tab) [] inp:=by
 rw [show scan (idxF tab) [] inp=inp.map (fun p => tab.getD (pG p) 0) from by rw [show idxF tab=fun _ p => tab.getD (pG p) 0 from rfl,scan_map];simp]
 unfold indexOut
 rw [← hl]
 apply List.ext_getElem
 ·simp
 ·intro i h1 h2
  simp only [List.length_map,List.length_range] at h1
  simp only [List.getElem_map,List.getElem_range,idxPx]
  have e1:tilesN w 0=w:=by unfold tilesN;simp
  have e2:i / w * w+i % w / 2 ^ 0=i:=by rw [Nat.pow_zero,Nat.div_one,Nat.mul_comm];exact Nat.div_add_mod i w
  have e3:=(parts_lt inp[i]).2.2.1
  rw [e1,e2,show inp.getD i 0=inp[i] by simp [h1]]
  simp only [Nat.pow_zero,Nat.div_one,Nat.mod_one,Nat.mul_zero]
  rw [Nat.mod_eq_of_lt (by omega)]
theorem indexOut_length (w h b:Nat) (tab inp:List Nat):(indexOut w h b tab inp).length=w * h:=by simp [indexOut]
theorem indexOut_get {w h b i:Nat} {tab inp:List Nat} (hi:i<w * h):(indexOut w h b tab inp).getD i 0=idxPx w b tab inp i:=by simp [indexOut,hi]
theorem index_any (W:World) (btr off:Nat) (t:Tr) (bpx capx bp cap ht:Nat) (inp:List Nat) (hT:TrAt W btr off t (.slice (some ⟨bpx,0,none⟩) 1024 capx)) (hO:TrOk ht t) (hk:t.kind=3)
  (hpx:Blk W bpx (rowK .u8 (byteAt t.px) capx) 5) (hlc:1024≤capx) (hn1:btr ∉ [bp]) (hn2:bpx ∉ [bp]) (hh:1≤ht) (hh2:ht≤16384)
  (hb:Blk W bp (rowK .u8 (byteAt inp) cap) 5) (hil:inp.length=tilesN t.wd t.bits * ht) (hcap:4 * inp.length≤cap) (hc2:cap≤1073742848) :
  Calls Tryd.prog 119 #[.pointer (some ⟨btr,off,none⟩),.slice (some ⟨bp,0,none⟩) (4 * inp.length) cap,.int .i32 (ht:Nat)] W (InvPost bp (indexOut t.wd ht t.bits t.px inp) W):=by
 have H:St W [bp] [blkR bp (rowK .u8 (byteAt inp) cap) 5] W:=St.ofBlk hb
 obtain ⟨hb3,hpl⟩:=hO.index hk
 obtain ⟨hw,hw2⟩:=hO.wd
 have hT1:=hT.wd
 have hT2:=hT.bits
 have hT3:=hT.px
 have hkp:∀ (w:World),St W [bp] [] w→True:=fun _ _ => trivial
 refine enter (m:=192) Tryd.func119 O Tryd.ntmps119 O (Cy (Lo O (Y.asg O) (Lt (Cs (Cy (Lo O (YP O) (Lo O (Y.nilP O) (Lo O (Y.fa fa_87_2 O) (Lo O (Y.ld ld_36 O (H.old (by assumption) (by assumption))) (Lo O (Y.eql O O) (Lt ?_)))))))))))
 by_cases hb0:t.bits=0
 case pos =>
  have hout:=indexOut_zero (w:=t.wd) (h:=ht) t.px inp hw (by rw [hil,hb0];unfold tilesN;simp)
  rw [← hb0] at hout
  rw [hout]
  refine CT O (by omega) (Cs (Cy (Lo O (AI O) (Lt ?_))))
  rw [← mix_zero (f:=idxF t.px) inp] at H
  refine Cb ?_
  refine Cl (fun mm ρ w' => ∃ i,mm=inp.length - i∧i≤inp.length∧ρ 0=.pointer (some ⟨btr,off,none⟩)∧ρ 1=.slice (some ⟨bp,0,none⟩) (4 * inp.length) cap∧ρ 7=.int .i64 ((4 * i:Nat):Int)∧St W [bp] [blkR bp (rowK .u8 (byteAt (mix (idxF t.px) inp i)) cap) 5] w') inp.length
   ⟨0,rfl,by omega,rfl,rfl,rfl,H⟩ ?_
  clear H
  rintro mm ρ w1 ⟨i,rfl,hi,h0,h1,h7,H⟩
  refine Cs (Cy (Lo O (YI (by assumption)) (Lo O (YS (by assumption)) (Lo O (Y.len sl_24 O) (Lo O (Y.lss O O) (Lt ?_))))))
  by_cases hlt:i<inp.length
  case pos =>
   have hst:=mix_step (f:=idxF t.px) hlt
   have hml:=mix_length (f:=idxF t.px) hi
   have hge:=mix_ge (f:=idxF t.px) hi (Nat.le_refl i)
   rw [show idxF t.px (made (idxF t.px) inp i) (inp.getD i 0)=t.px.getD (pG (inp.getD i 0)) 0 from rfl,← hge] at hst
   generalize mix (idxF t.px) inp i=M at *
   have hA1:=byteAt_1 M i
   obtain ⟨_,_,g8,_⟩:=parts_lt (M.getD i 0)
   clear hge
   generalize pG (M.getD i 0)=g at *
   obtain ⟨q,hq⟩:∃ q,q=t.px.getD g 0:=⟨_,rfl⟩
   rw [← hq] at hst
   have e0:=byteAt_0 t.px g
   have e1:=byteAt_1 t.px g
   have e2:=byteAt_2 t.px g
   have e3:=byteAt_3 t.px g
   rw [← hq] at e0 e1 e2 e3
   have c0:=hpx.cellv (rowK_get (k:=.u8) (f:=byteAt t.px) (j:=4 * g+0) (by omega))
   have c1:=hpx.cellv (rowK_get (k:=.u8) (f:=byteAt t.px) (j:=4 * g+1) (by omega))
   have c2:=hpx.cellv (rowK_get (k:=.u8) (f:=byteAt t.px) (j:=4 * g+2) (by omega))
   have c3:=hpx.cellv (rowK_get (k:=.u8) (f:=byteAt t.px) (j:=4 * g+3) (by omega))
   rw [e0] at c0
   rw [e1] at c1
   rw [e2] at c2
   rw [e3] at c3
   have hset:=byteAt_set (l:=M) (i:=i) (by omega) q
   refine CT O (by omega) (Ck (tn (Cs (Cb (Cy (Lo O (YS (by assumption)) (Lo O (YI (by assumption)) (Lo O (Y.add O O (n64 (b:=1) (by omega))) (Lo O (Y.ixS0 _ sl_24 O O O (by omega)) (Lo O (Y.ld (v:=.int .u8 (g:Nat)) ld_5 O (H.cell 0 O ((rowK_get (by omega)).trans (by rw [hA1])))) (Lo O (Y.cv int_5_36 O (wu32 (by omega))) (Lo O (Y.mul O O (mu32 (a:=4) (by omega))) (Lo O (AI O) (Lt (Cy (Lo O (YS (by assumption)) ?_))))))))))))))))
   refine Lo O (YI (by assumption)) (Lo O (Y.add O O (n64 (b:=0) (by omega))) (Lo O (YP (by assumption)) (Lo O (Y.nilP O) (Lo O (Y.fa fa_87_3 O) (Lo O (Y.ld ld_24 O (H.old (by assumption) (by assumption))) (Lo O (YI O) (Lo O (Y.add O O (nu32 (b:=0) (by omega))) (Lo O (Y.ixS0 _ sl_24 O O O (by omega)) (Lo O (Y.ld (v:=.int .u8 (pR q:Nat)) ld_5 O (H.old c0 hn2)) (Lo O (Y.ixS0 _ sl_24 O O O (by omega)) (VL.putR H 0 st_5 O O O (by omega) ?_)))))))))))
   intro w H
   try simp only [List.set,List.eraseIdx] at H
   refine Lt (Cy (Lo O (YS (by assumption)) (Lo O (YI (by assumption)) (Lo O (Y.add O O (n64 (b:=1) (by omega))) (Lo O (YP (by assumption)) (Lo O (Y.nilP O) (Lo O (Y.fa fa_87_3 O) (Lo O (Y.ld ld_24 O (H.old (by assumption) (by assumption))) (Lo O (YI O) (Lo O (Y.add O O (nu32 (b:=1) (by omega))) (Lo O (Y.ixS0 _ sl_24 O O O (by omega)) (Lo O (Y.ld (v:=.int .u8 (pG q:Nat)) ld_5 O (H.old c1 hn2)) (Lo O (Y.ixS0 _ sl_24 O O O (by omega)) (VL.putR H 0 st_5 O O O (by omega) ?_))))))))))))))
   intro w H
   try simp only [List.set,List.eraseIdx] at H
   refine Lt (Cy (Lo O (YS (by assumption)) (Lo O (YI (by assumption)) (Lo O (Y.add O O (n64 (b:=2) (by omega))) (Lo O (YP (by assumption)) (Lo O (Y.nilP O) (Lo O (Y.fa fa_87_3 O) (Lo O (Y.ld ld_24 O (H.old (by assumption) (by assumption))) (Lo O (YI O) (Lo O (Y.add O O (nu32 (b:=2) (by omega))) (Lo O (Y.ixS0 _ sl_24 O O O (by omega)) (Lo O (Y.ld (v:=.int .u8 (pB q:Nat)) ld_5 O (H.old c2 hn2)) (Lo O (Y.ixS0 _ sl_24 O O O (by omega)) (VL.putR H 0 st_5 O O O (by omega) ?_))))))))))))))
   intro w H
   try simp only [List.set,List.eraseIdx] at H
   refine Lt (Cr (Lo O (YS (by assumption)) (Lo O (YI (by assumption)) (Lo O (Y.add O O (n64 (b:=3) (by omega))) (Lo O (YP (by assumption)) (Lo O (Y.nilP O) (Lo O (Y.fa fa_87_3 O) (Lo O (Y.ld ld_24 O (H.old (by assumption) (by assumption))) (Lo O (YI O) (Lo O (Y.add O O (nu32 (b:=3) (by omega))) (Lo O (Y.ixS0 _ sl_24 O O O (by omega)) (Lo O (Y.ld (v:=.int .u8 (pA q:Nat)) ld_5 O (H.old c3 hn2)) (Lo O (Y.ixS0 _ sl_24 O O O (by omega)) (VL.putR H 0 st_5 O O O (by omega) ?_))))))))))))))
   intro w H
   try simp only [List.set,List.eraseIdx] at H
   refine Ln (blk_n (tn ?_))
   rw [rowK_congr (g:=byteAt (M.set i q)) (fun j _ => hset j),hst] at H
   refine Cr (Lo O (YI (by assumption)) (Lo O (Y.add O O (n64 (b:=4) (by omega))) (Lo O (AI O) (Lt ?_))))
   exact ⟨inp.length - (i+1),by omega,i+1,rfl,by omega,h0,h1,rfl,H⟩
  case neg =>
  have hl:(scan (idxF t.px) [] inp).length=inp.length:=by rw [scan_length];simp
  obtain rfl:i=inp.length:=by omega
  rw [mix_all] at H
  refine CF O (by omega) (Cx (thn_x (thn_x (blk_x (tn (Cy (Lo O (YS (by assumption)) (Lo O (AS O) (Lt (Ct (thn_r ?_)))))))))))
  exact Done.ret1 O O ⟨bp,cap,by rw [hl];rfl,by omega,hc2,.inl rfl,H.blk (i:=0) rfl,H.frm⟩
 case neg =>
 obtain ⟨ea,hea⟩:∃ ea,ea=8 / 2 ^ t.bits:=⟨_,rfl⟩
 obtain ⟨ub,hub⟩:∃ ub,ub=2 ^ t.bits:=⟨_,rfl⟩
 have hcase:(t.bits=1∧ea=4∧ub=2)∨(t.bits=2∧ea=2∧ub=4)∨(t.bits=3∧ea=1∧ub=8):=by
  have:t.bits=1∨t.bits=2∨t.bits=3:=by omega
  rcases this with h | h | h <;> rw [hea,hub,h] <;> decide
 refine CF O (by omega) (Ck (tn (Cs (Cd mixedP (by kernel_rfl) ?_))))
 intro w hsame
 replace H:=H.same hsame
 refine So O (YP O) (So O (Y.nilP O) (So O (Y.fa fa_87_2 O) (So O (Y.ld ld_36 O (H.old (by assumption) (by assumption))) (So O (Y.shr (r:=(ea:Int)) O O (by omega) (by rw [hea];exact shrK (k:=.u32) (a:=8) (b:=t.bits) (by show t.bits≤32;omega))) (So O (AI O) (So O (AI O) (So O (AI O) (Sn (tn (Cs (Cy (Lo O (YP O) (Lo O (Y.nilP O) (Lo O (Y.fa fa_87_2 O) (Lo O (Y.ld ld_36 O (H.old (by assumption) (by assumption))) (Lt ?_))))))))))))))))
 refine VC.join (fun ρ w' => ρ 0=.pointer (some ⟨btr,off,none⟩)∧ρ 1=.slice (some ⟨bp,0,none⟩) (4 * inp.length) cap∧ρ 2=.int .i32 (ht:Nat)∧ρ 9=.int .u32 ((2 ^ ea - 1:Nat):Int)∧ρ 10=.int .i32 ((ub - 1:Nat):Int)∧ρ 11=.int .u32 (ea:Nat)∧St W [bp] [blkR bp (rowK .u8 (byteAt inp) cap) 5] w') ?_ ?_
 case refine_1 =>
  refine Cb ?_
  rcases hcase with ⟨h1,h2,h3⟩ | ⟨h1,h2,h3⟩ | ⟨h1,h2,h3⟩
  case inl =>
   refine Cy (Lo O (Y.eql O O) (Lo O (Y.asgB O) (Lt (CT O (by omega) (Cr (Lo O (AI O) (Lo O (AI O) (Ln (blk_n (tn ?_))))))))))
   exact ⟨rfl,rfl,rfl,by rw [h2];rfl,by rw [h3];rfl,rfl,H⟩
  case inr.inl =>
   refine Cy (Lo O (Y.eql O O) (Lo O (Y.asgB O) (Lt (CF O (by omega) (Cy (Lo O (Y.eql O O) (Lo O (Y.asgB O) (Lt (CT O (by omega) (Cr (Lo O (AI O) (Lo O (AI O) (Ln (blk_n (tn ?_)))))))))))))))
   exact ⟨rfl,rfl,rfl,by rw [h2];rfl,by rw [h3];rfl,rfl,H⟩
  case inr.inr =>
   refine Cy (Lo O (Y.eql O O) (Lo O (Y.asgB O) (Lt (CF O (by omega) (Cy (Lo O (Y.eql O O) (Lo O (Y.asgB O) (Lt (CF O (by omega) (Cy (Lo O (Y.eql O O) (Lo O (Y.asgB O) (Lt ?_)))))))))))))
   refine CT O (by omega) (Cr (Lo O (AI O) (Lo O (AI O) (Ln (blk_n (tn ?_))))))
   exact ⟨rfl,rfl,rfl,by rw [h2];rfl,by rw [h3];rfl,rfl,H⟩
 case refine_2 =>
 clear H
 rintro ρ w1 ⟨h0,h1,h2,h9,h10,h11,H⟩
 obtain ⟨n,hn⟩:∃ n,n=t.wd * ht:=⟨_,rfl⟩
 have hnB:n≤268435456:=by rw [hn];exact Nat.mul_le_mul (show _≤16384 by omega) (show _≤16384 by omega)
 have h4n:4 * t.wd * ht=4 * n:=by rw [hn,Nat.mul_assoc]
 obtain ⟨out,hout⟩:∃ out,out=indexOut t.wd ht t.bits t.px inp:=⟨_,rfl⟩
 have hol:out.length=n:=by rw [hout,indexOut_length,hn]
 have hog:∀ i,i<n→out.getD i 0=idxPx t.wd t.bits t.px inp i:=fun i hi => by rw [hout];exact indexOut_get (by omega)
 rw [← hout]
 clear hout
 refine Cs ?_
 refine VC.held (Frm [bp] W) mixedP (by with_reducible repeat (first | refine NoP.thn ?_ | refine NoP.blk ?_ | refine NoP.jmp ?_ | refine NoP.nojmp ?_ | exact NoP.done)) ?_
 intro w hsame
 replace H:=H.same hsame
 refine Ht 0 O (by kernel_rfl) (by kernel_rfl) (by kernel_rfl) O H.frm (fun w hI => YP (by assumption)) (Ht 1 O (by kernel_rfl) (by kernel_rfl) (by kernel_rfl) O H.frm (fun w hI => Y.nilP O) (Ht 2 O (by kernel_rfl) (by kernel_rfl) (by kernel_rfl) O H.frm (fun w hI => Y.fa fa_87_1 O) (Ht 3 O (by kernel_rfl) (by kernel_rfl) (by kernel_rfl) O H.frm (fun w hI => Y.ld ld_21 O (hI.cell hT1 hn1)) (Ht 4 O (by kernel_rfl) (by kernel_rfl) (by kernel_rfl) O H.frm (fun w hI => Y.mul O O (m32 (a:=4) (by omega))) (Ht 5 O (by kernel_rfl) (by kernel_rfl) (by kernel_rfl) O H.frm (fun w hI => YI (by assumption)) (Ht 6 O (by kernel_rfl) (by kernel_rfl) (by kernel_rfl) O H.frm (fun w hI => Y.mul (r:=((4 * n:Nat):Int)) O O (by rw [← h4n];exact m32 (by omega))) (Ht 8 O (by kernel_rfl) (by kernel_rfl) (by kernel_rfl) O H.frm (fun w hI => AI O) (Ht 9 O (by kernel_rfl) (by kernel_rfl) (by kernel_rfl) O H.frm (fun w hI => AI O) (Ht 10 O (by kernel_rfl) (by kernel_rfl) (by kernel_rfl) O H.frm (fun w hI => AI O) (VH.make 7 O (by kernel_rfl) H mk_24 (4 * n) (4 * n) O O O O (by omega) (by omega) (by omega) O ?_))))))))))
 intro w bd hnd hbd H
 refine Ht 11 O (by kernel_rfl) (by kernel_rfl) (by kernel_rfl) O H.frm (fun w hI => AS O) (VH.nil (by kernel_rfl) (tn ?_))
 rw [mkCells_one,rowK_zero] at H
 have hstart:rowK .u8 (fun _ => 0) (4 * n)=rowK .u8 (fun j => if j<0 then byteAt out j else 0) (4 * n):=rowK_congr fun j _ => if_neg (by omega)
 rw [hstart] at H
 obtain ⟨sh,hsh⟩:∃ sh,sh=tilesN t.wd t.bits:=⟨_,rfl⟩
 obtain ⟨hs1,hs2⟩:=tilesN_le (n:=t.wd) (b:=t.bits) hw
 rw [← hsh] at hs1 hs2 hil
 have hub1:0<ub:=by rw [hub];exact Nat.two_pow_pos _
 have hub8:2≤ub∧ub≤8:=by omega
 have hea8:1≤ea∧ea≤4:=by omega
 refine Cs (Cy (Lo O (AI O) (Lt (Cb ?_))))
 refine Cl (fun mm ρ w' => ∃ y D P,mm=ht - y∧y≤ht∧D=4 * (y * t.wd)∧P=4 * (y * sh)∧ρ 0=.pointer (some ⟨btr,off,none⟩)∧ρ 1=.slice (some ⟨bp,0,none⟩) (4 * inp.length) cap∧ρ 2=.int .i32 (ht:Nat)∧ρ 9=.int .u32 ((2 ^ ea - 1:Nat):Int)∧ρ 10=.int .i32 ((ub - 1:Nat):Int)∧ρ 11=.int .u32 (ea:Nat) ∧
  ρ 12=.int .i64 (D:Nat)∧ρ 13=.int .i64 (P:Nat)∧(∃ v:Nat,ρ 14=.int .u32 (v:Nat))∧ρ 15=.slice (some ⟨bd,0,none⟩) (4 * n) (4 * n)∧ρ 16=.int .i32 (y:Nat) ∧
  St W [bp] [blkR bd (rowK .u8 (fun j => if j<D then byteAt out j else 0) (4 * n)) 5,blkR bp (rowK .u8 (byteAt inp) cap) 5] w') ht
  ⟨0,0,0,rfl,by omega,by omega,by omega,h0,h1,h2,h9,h10,h11,rfl,rfl,⟨0,rfl⟩,rfl,rfl,H⟩ ?_
 clear h0 h1 h2 h9 h10 h11 H hstart ρ
 rintro mm ρ w2 ⟨y,D,P,rfl,hy,hD,hP,h0,h1,h2,h9,h10,h11,h12,h13,⟨v,h14⟩,h15,h16,H⟩
 refine Cs (Cy (Lo O (YI (by assumption)) (Lo O (YI (by assumption)) (Lo O (Y.lss O O) (Lt ?_)))))
 by_cases hlt:y<ht
 case neg =>
  obtain rfl:y=ht:=by omega
  have hDn:D=4 * n:=by rw [hD,hn,Nat.mul_comm y]
  rw [rowK_congr (g:=byteAt out) (fun j hj => by rw [if_pos (by omega)])] at H
  refine CF O (by omega) (Cx (thn_x (thn_x (blk_x (tn (Cy (Lo O (YS (by assumption)) (Lo O (AS O) (Lt (Ct ?_))))))))))
  exact Done.ret1 O O ⟨bd,4 * n,by rw [hol];rfl,by omega,by omega,.inr (by have:=H.high;omega),H.blk (i:=0) rfl,H.frm⟩
 case pos =>
 have hyw:(y+1) * t.wd≤n:=by rw [hn,Nat.mul_comm];exact Nat.mul_le_mul_left _ hlt
 have hys:(y+1) * sh≤inp.length:=by rw [hil,Nat.mul_comm];exact Nat.mul_le_mul_left _ hlt
 rw [Nat.succ_mul] at hyw hys
 obtain ⟨Y0,hY0⟩:∃ Y0,Y0=y * t.wd:=⟨_,rfl⟩
 obtain ⟨S0,hS0⟩:∃ S0,S0=y * sh:=⟨_,rfl⟩
 rw [← hY0] at hyw hD
 rw [← hS0] at hys hP
 refine CT O (by omega) (Ck (tn (Cs (Cb (Cy (Lo O (AI O) (Lt (Cb ?_))))))))
 refine Cl (fun mm ρ w' => ∃ x nq D P v,mm=t.wd - x∧x≤t.wd∧D=4 * (Y0+x)∧P=4 * (S0+nq)∧((x=0∧nq=0)∨(0<x∧nq=(x - 1) / ub+1∧v=pG (inp.getD (S0+(x - 1) / ub) 0) / 2 ^ (ea * ((x - 1) % ub+1)))) ∧
  ρ 0=.pointer (some ⟨btr,off,none⟩)∧ρ 1=.slice (some ⟨bp,0,none⟩) (4 * inp.length) cap∧ρ 2=.int .i32 (ht:Nat)∧ρ 9=.int .u32 ((2 ^ ea - 1:Nat):Int)∧ρ 10=.int .i32 ((ub - 1:Nat):Int)∧ρ 11=.int .u32 (ea:Nat) ∧
  ρ 12=.int .i64 (D:Nat)∧ρ 13=.int .i64 (P:Nat)∧ρ 14=.int .u32 (v:Nat)∧ρ 15=.slice (some ⟨bd,0,none⟩) (4 * n) (4 * n)∧ρ 16=.int .i32 (y:Nat)∧ρ 17=.int .i32 (x:Nat) ∧
  St W [bp] [blkR bd (rowK .u8 (fun j => if j<D then byteAt out j else 0) (4 * n)) 5,blkR bp (rowK .u8 (byteAt inp) cap) 5] w') t.wd
  ⟨0,0,D,P,v,rfl,by omega,by omega,by omega,.inl ⟨rfl,rfl⟩,h0,h1,h2,h9,h10,h11,h12,h13,h14,h15,h16,rfl,H⟩ ?_
 clear h0 h1 h2 h9 h10 h11 h12 h13 h14 h15 h16 H hD hP D P v
 clear ρ
 rintro mm ρ w3 ⟨x,nq,D,P,v,rfl,hx,hD,hP,hv,h0,h1,h2,h9,h10,h11,h12,h13,h14,h15,h16,h17,H⟩
 refine Cs (Cy (Lo O (YI (by assumption)) (Lo O (YP (by assumption)) (Lo O (Y.nilP O) (Lo O (Y.fa fa_87_1 O) (Lo O (Y.ld ld_21 O (H.old (by assumption) (by assumption))) (Lo O (Y.lss O O) (Lt ?_))))))))
 by_cases hxw:x<t.wd
 case neg =>
  obtain hxe:x=t.wd:=by omega
  have hnq:nq=sh:=by
   rcases hv with ⟨h,_⟩ | ⟨_,h,_⟩
   ·omega
   ·rw [h,hxe,hsh]
    unfold tilesN
    rw [← hub]
    have e1:t.wd+ub - 1=(t.wd - 1)+ub:=by omega
    rw [e1,Nat.add_div_right _ hub1]
  rw [hxe] at hD
  rw [hnq] at hP
  refine CF O (by omega) (Cx (thn_x (thn_x (blk_x (blk_n (tn (Cr (Lo O (YI (by assumption)) (Lo O (Y.add O O (n32 (b:=1) (by omega))) (Lo O (AI O) (Lt ?_)))))))))))
  exact ⟨ht - (y+1),by omega,y+1,D,P,rfl,by omega,by rw [show (y+1) * t.wd=Y0+t.wd by rw [Nat.succ_mul,hY0]];exact hD,by rw [show (y+1) * sh=S0+sh by rw [Nat.succ_mul,hS0]];exact hP,h0,h1,h2,h9,h10,h11,h12,h13,⟨v,h14⟩,h15,rfl,H⟩
 case pos =>
 have hti:=tile_lt (b:=t.bits) hxw
 rw [← hsh,← hub] at hti
 obtain ⟨qx,hqx⟩:∃ q,q=x / ub:=⟨_,rfl⟩
 rw [← hqx] at hti
 have hdiv:x≠0→_:=fun h => div_step (x:=x) (t:=ub) hub1 (by omega)
 rw [← hqx] at hdiv
 have hx0:x=0→x % ub=0∧qx=0:=fun h => by rw [hqx,h];exact ⟨Nat.zero_mod _,Nat.zero_div _⟩
 have hxm:x % ub<ub:=Nat.mod_lt _ hub1
 have hmods:x % ub≠0→x≠0→(x - 1) % ub+1=x % ub:=fun h hx0' => by
  have e1:=Nat.div_add_mod x ub
  have e2:=Nat.div_add_mod (x - 1) ub
  rw [← (hdiv hx0').2 h] at e2
  rw [← hqx] at e1
  omega
 have hand:x &&& (ub - 1)=x % ub:=by rw [hub];exact Nat.and_two_pow_sub_one_eq_mod x _
 obtain ⟨g,hg⟩:∃ g,g=pG (inp.getD (S0+qx) 0):=⟨_,rfl⟩
 have hg8:g<256:=by rw [hg];exact (parts_lt _).2.2.1
 refine CT O (by omega) (Ck (tn (Cs (Cb (Cs (Cy (Lo O (YI (by assumption)) (Lo O (YI (by assumption)) (Lo O (Y.and (r:=(x % ub:Nat)) O O (by rw [← hand];exact a32 (by omega))) (Lo O (Y.eql O O) (Lt ?_)))))))))))
 refine VC.join (fun ρ w' => ∃ P,P=4 * (S0+(qx+1))∧ρ 0=.pointer (some ⟨btr,off,none⟩)∧ρ 1=.slice (some ⟨bp,0,none⟩) (4 * inp.length) cap∧ρ 2=.int .i32 (ht:Nat)∧ρ 9=.int .u32 ((2 ^ ea - 1:Nat):Int)∧ρ 10=.int .i32 ((ub - 1:Nat):Int)∧ρ 11=.int .u32 (ea:Nat) ∧
  ρ 12=.int .i64 (D:Nat)∧ρ 13=.int .i64 (P:Nat)∧ρ 14=.int .u32 (g / 2 ^ (ea * (x % ub)):Nat)∧ρ 15=.slice (some ⟨bd,0,none⟩) (4 * n) (4 * n)∧ρ 16=.int .i32 (y:Nat)∧ρ 17=.int .i32 (x:Nat)∧w3=w') ?_ ?_
 case refine_1 =>
  by_cases hxz:x % ub=0
  case neg =>
   have hxp:x≠0:=fun h => hxz (hx0 h).1
   have hd:=(hdiv hxp).2 hxz
   rcases hv with ⟨h,_⟩ | ⟨_,hnq,hv⟩
   ·exact absurd h hxp
   rw [← hd] at hnq hv
   rw [← hg,hmods hxz hxp] at hv
   refine CF O (by omega) (Ck (tn ?_))
   exact ⟨P,by rw [← hnq];exact hP,h0,h1,h2,h9,h10,h11,h12,h13,by rw [← hv];exact h14,h15,h16,h17,rfl⟩
  case pos =>
   have hnq:nq=qx:=by
    by_cases hxp:x=0
    ·rcases hv with ⟨_,h⟩ | ⟨h,_⟩
     ·rw [h,(hx0 hxp).2]
     ·omega
    ·have hd:=(hdiv hxp).1 hxz
     rcases hv with ⟨h,_⟩ | ⟨_,h,_⟩
     ·exact absurd h hxp
     ·rw [h,hd]
   rw [hnq] at hP
   have e1:=byteAt_1 inp (S0+qx)
   rw [← hg,← hP] at e1
   refine CT O (by omega) (Cy (Lo O (YS (by assumption)) (Lo O (YI (by assumption)) (Lo O (Y.add O O (n64 (b:=1) (by omega))) (Lo O (Y.ixS0 _ sl_24 O O O (by omega)) (Lo O (Y.ld (v:=.int .u8 (g:Nat)) ld_5 O (H.cell 1 O ((rowK_get (by omega)).trans (by rw [e1])))) (Lo O (Y.cv int_5_36 O (wu32 (by omega))) (Lo O (AI O) (Lt (Cr (Lo O (YI (by assumption)) (Lo O (Y.add O O (n64 (b:=4) (by omega))) (Lo O (AI O) (Lt ?_))))))))))))))
   exact ⟨P+4,by omega,h0,h1,h2,h9,h10,h11,h12,rfl,by rw [hxz,Nat.mul_zero,Nat.pow_zero,Nat.div_one];rfl,h15,h16,h17,rfl⟩
 case refine_2 =>
 clear h0 h1 h2 h9 h10 h11 h12 h13 h14 h15 h16 h17 hv v hP P
 clear ρ
 rintro ρ w' ⟨P,hP,h0,h1,h2,h9,h10,h11,h12,h13,h14,h15,h16,h17,rfl⟩
 obtain ⟨i,hi⟩:∃ i,i=Y0+x:=⟨_,rfl⟩
 rw [← hi] at hD
 have hpx2:idxPx t.wd t.bits t.px inp i=t.px.getD (g / 2 ^ (ea * (x % ub)) % 2 ^ ea) 0:=by
  unfold idxPx
  obtain ⟨d1,d2⟩:=divmod (show y * t.wd+x=i by omega) hxw
  rw [d1,d2,← hea,← hsh,← hS0,← hub,← hqx,← hg]
 have hogi:=hog i (by omega)
 rw [hpx2] at hogi
 obtain ⟨v,hv⟩:∃ v,v=g / 2 ^ (ea * (x % ub)):=⟨_,rfl⟩
 have hvg:v≤g:=by rw [hv];exact Nat.div_le_self _ _
 have hp16:2 ^ ea≤2 ^ 4:=Nat.pow_le_pow_right (by omega) hea8.2
 have hp0:=Nat.two_pow_pos ea
 have hvm:v % 2 ^ ea<2 ^ ea:=Nat.mod_lt _ hp0
 rw [← hv] at h14 hogi
 have hvand:v &&& (2 ^ ea - 1)=v % 2 ^ ea:=Nat.and_two_pow_sub_one_eq_mod v ea
 obtain ⟨k,hk2⟩:∃ k,k=v % 2 ^ ea:=⟨_,rfl⟩
 rw [← hk2] at hogi hvm hvand
 obtain ⟨q,hq⟩:∃ q,q=t.px.getD k 0:=⟨_,rfl⟩
 rw [← hq] at hogi
 have e0:=byteAt_0 t.px k
 have e1:=byteAt_1 t.px k
 have e2:=byteAt_2 t.px k
 have e3:=byteAt_3 t.px k
 rw [← hq] at e0 e1 e2 e3
 have o0:=byteAt_0 out i
 have o1:=byteAt_1 out i
 have o2:=byteAt_2 out i
 have o3:=byteAt_3 out i
 rw [hogi,← hD] at o0 o1 o2 o3
 have c0:=hpx.cellv (rowK_get (k:=.u8) (f:=byteAt t.px) (j:=4 * k+0) (by omega))
 have c1:=hpx.cellv (rowK_get (k:=.u8) (f:=byteAt t.px) (j:=4 * k+1) (by omega))
 have c2:=hpx.cellv (rowK_get (k:=.u8) (f:=byteAt t.px) (j:=4 * k+2) (by omega))
 have c3:=hpx.cellv (rowK_get (k:=.u8) (f:=byteAt t.px) (j:=4 * k+3) (by omega))
 rw [e0] at c0
 rw [e1] at c1
 rw [e2] at c2
 rw [e3] at c3
 refine Cy (Lo O (YI (by assumption)) (Lo O (YI (by assumption)) (Lo O (Y.and (r:=(k:Int)) O O (by rw [← hvand];exact au32 (by omega))) (Lo O (Y.mul O O (mu32 (a:=4) (by omega))) (Lo O (AI O) (Lt (Cy (Lo O (YS (by assumption)) (Lo O (YI (by assumption)) (Lo O (Y.add O O (n64 (b:=0) (by omega))) (Lo O (YP (by assumption)) (Lo O (Y.nilP O) (Lo O (Y.fa fa_87_3 O) (Lo O (Y.ld ld_24 O (H.old (by assumption) (by assumption))) (Lo O (YI O) (Lo O (Y.add O O (nu32 (b:=0) (by omega))) ?_))))))))))))))))
 refine Lo O (Y.ixS0 _ sl_24 O O O (by omega)) (Lo O (Y.ld (v:=.int .u8 (pR q:Nat)) ld_5 O (H.old c0 hn2)) (Lo O (Y.ixS0 _ sl_24 O O O (by omega)) (VL.putR H 0 st_5 O O O (by omega) ?_)))
 intro w H
 try simp only [List.set,List.eraseIdx] at H
 refine Lt (Cy (Lo O (YS (by assumption)) (Lo O (YI (by assumption)) (Lo O (Y.add O O (n64 (b:=1) (by omega))) (Lo O (YP (by assumption)) (Lo O (Y.nilP O) (Lo O (Y.fa fa_87_3 O) (Lo O (Y.ld ld_24 O (H.old (by assumption) (by assumption))) (Lo O (YI O) (Lo O (Y.add O O (nu32 (b:=1) (by omega))) (Lo O (Y.ixS0 _ sl_24 O O O (by omega)) (Lo O (Y.ld (v:=.int .u8 (pG q:Nat)) ld_5 O (H.old c1 hn2)) (Lo O (Y.ixS0 _ sl_24 O O O (by omega)) (VL.putR H 0 st_5 O O O (by omega) ?_))))))))))))))
 intro w H
 try simp only [List.set,List.eraseIdx] at H
 refine Lt (Cy (Lo O (YS (by assumption)) (Lo O (YI (by assumption)) (Lo O (Y.add O O (n64 (b:=2) (by omega))) (Lo O (YP (by assumption)) (Lo O (Y.nilP O) (Lo O (Y.fa fa_87_3 O) (Lo O (Y.ld ld_24 O (H.old (by assumption) (by assumption))) (Lo O (YI O) (Lo O (Y.add O O (nu32 (b:=2) (by omega))) (Lo O (Y.ixS0 _ sl_24 O O O (by omega)) (Lo O (Y.ld (v:=.int .u8 (pB q:Nat)) ld_5 O (H.old c2 hn2)) (Lo O (Y.ixS0 _ sl_24 O O O (by omega)) (VL.putR H 0 st_5 O O O (by omega) ?_))))))))))))))
 intro w H
 try simp only [List.set,List.eraseIdx] at H
 refine Lt (Cy (Lo O (YS (by assumption)) (Lo O (YI (by assumption)) (Lo O (Y.add O O (n64 (b:=3) (by omega))) (Lo O (YP (by assumption)) (Lo O (Y.nilP O) (Lo O (Y.fa fa_87_3 O) (Lo O (Y.ld ld_24 O (H.old (by assumption) (by assumption))) (Lo O (YI O) (Lo O (Y.add O O (nu32 (b:=3) (by omega))) (Lo O (Y.ixS0 _ sl_24 O O O (by omega)) (Lo O (Y.ld (v:=.int .u8 (pA q:Nat)) ld_5 O (H.old c3 hn2)) (Lo O (Y.ixS0 _ sl_24 O O O (by omega)) (VL.putR H 0 st_5 O O O (by omega) ?_))))))))))))))
 intro w H
 try simp only [List.set,List.eraseIdx] at H
 refine Lt ?_
 rw [rowK_congr (g:=fun j => if j<D+4 then byteAt out j else 0) (fun j _ => by
  by_cases h3:j=D+3
  ·rw [if_pos h3,if_pos (by omega),h3,o3]
  ·rw [if_neg h3]
   by_cases h2:j=D+2
   ·rw [if_pos h2,if_pos (by omega),h2,o2]
   ·rw [if_neg h2]
    by_cases h1:j=D+1
    ·rw [if_pos h1,if_pos (by omega),h1,o1]
    ·rw [if_neg h1]
     by_cases h0:j=D+0
     ·rw [if_pos h0,if_pos (by omega),h0,o0]
     ·rw [if_neg h0]
      by_cases hj:j<D
      ·rw [if_pos hj,if_pos (by omega)]
      ·rw [if_neg hj,if_neg (by omega)])] at H
 refine Cy (Lo O (YI (by assumption)) (Lo O (Y.add O O (n64 (b:=4) (by omega))) (Lo O (AI O) (Lt (Cr (Lo O (YI (by assumption)) (Lo O (YI (by assumption)) (Lo O (Y.shr (r:=(v / 2 ^ ea:Nat)) O O (by omega) (shrK (k:=.u32) (b:=ea) (by show ea≤32;omega))) (Lo O (AI O) (Ln (blk_n (tn (Cr (Lo O (YI (by assumption)) (Lo O (Y.add O O (n32 (b:=1) (by omega))) (Lo O (AI O) (Lt ?_)))))))))))))))))
 have hvn:v / 2 ^ ea=g / 2 ^ (ea * (x % ub+1)):=by rw [hv,Nat.div_div_eq_div_mul,← Nat.pow_add,Nat.mul_add,Nat.mul_one]
 exact ⟨t.wd - (x+1),by omega,x+1,qx+1,D+4,P,v / 2 ^ ea,rfl,by omega,by omega,hP,.inr ⟨by omega,by rw [Nat.add_sub_cancel,hqx],by rw [Nat.add_sub_cancel,← hqx,← hg];exact hvn⟩,h0,h1,h2,h9,h10,h11,rfl,h13,rfl,h15,h16,rfl,H⟩
end Go.Proofs.YtinkhckpckfajaaDoor
set_option maxHeartbeats 16000000
namespace Go.Proofs.YtinkhckpckfajaaDoor
open Go
def avg (a b:Nat):Nat:=(a+b) / 2
def clampF (a b c:Nat):Nat:=if a+b<c then 0 else if 255<a+b - c then 255 else a+b - c
def clampH (a b:Nat):Nat:=if b≤a then (if 255<a+(a - b) / 2 then 255 else a+(a - b) / 2) else a - (b - a) / 2
def absd (a b:Nat):Nat:=if a<b then b - a else a - b
theorem avg_lt {a b:Nat} (ha:a<256) (hb:b<256):avg a b<256:=by unfold avg;omega
theorem absd_lt {a b:Nat} (ha:a<256) (hb:b<256):absd a b<256:=by unfold absd;split <;> omega
theorem clampF_lt (a b c:Nat):clampF a b c<256:=by
 unfold clampF
 split
 ·omega
 ·split <;> omega
theorem clampH_lt {a b:Nat} (ha:a<256):clampH a b<256:=by
 unfold clampH
 split
 ·split <;> omega
 ·omega
def chP (m l t tl tr:Nat):Nat :=
 if m=1 then l else if m=2 then t else if m=3 then tr else if m=4 then tl else if m=5 then avg (avg l tr) t else if m=6 then avg l tl else if m=7 then avg l t
 else if m=8 then avg tl t else if m=9 then avg t tr else if m=10 then avg (avg l tl) (avg t tr) else if m=12 then clampF l t tl else if m=13 then clampH (avg l t) tl else 0
def predMode (m l t tl tr:Nat):Nat :=
 if m=0 then 4278190080
 else if m=11 then (if absd (pR tl) (pR t)+absd (pG tl) (pG t)+absd (pB tl) (pB t)+absd (pA tl) (pA t)<absd (pR tl) (pR l)+absd (pG tl) (pG l)+absd (pB tl) (pB l)+absd (pA tl) (pA l) then l else t)
 else argb (chP m (pA l) (pA t) (pA tl) (pA tr)) (chP m (pR l) (pR t) (pR tl) (pR tr)) (chP m (pG l) (pG t) (pG tl) (pG tr)) (chP m (pB l) (pB t) (pB tl) (pB tr))
theorem chP_lt {m l t tl tr:Nat} (h1:l<256) (h2:t<256) (h3:tl<256) (h4:tr<256):chP m l t tl tr<256:=by
 unfold chP
 have:=avg_lt h1 h4
 have:=avg_lt h1 h3
 have:=avg_lt h2 h4
 repeat' split
 all_goals first | assumption | exact avg_lt (by assumption) (by assumption) | exact clampF_lt _ _ _ | exact clampH_lt (avg_lt (by assumption) (by assumption)) | omega
theorem predMode_ch (m l t tl tr:Nat) (h:m≠0∧m≠11):pR (predMode m l t tl tr)=chP m (pR l) (pR t) (pR tl) (pR tr)∧pG (predMode m l t tl tr)=chP m (pG l) (pG t) (pG tl) (pG tr)∧pB (predMode m l t tl tr)=chP m (pB l) (pB t) (pB tl) (pB tr)∧pA (predMode m l t tl tr)=chP m (pA l) (pA t) (pA tl) (pA tr):=by
 obtain ⟨a1,a2,a3,a4⟩:=parts_lt l
 obtain ⟨b1,b2,b3,b4⟩:=parts_lt t
 obtain ⟨c1,c2,c3,c4⟩:=parts_lt tl
 obtain ⟨d1,d2,d3,d4⟩:=parts_lt tr
 unfold predMode
 rw [if_neg h.1,if_neg h.2]
 obtain ⟨e1,e2,e3,e4,_⟩:=argb_parts (chP_lt (m:=m) a1 b1 c1 d1) (chP_lt (m:=m) a2 b2 c2 d2) (chP_lt (m:=m) a3 b3 c3 d3) (chP_lt (m:=m) a4 b4 c4 d4)
 exact ⟨e2,e3,e4,e1⟩
theorem predMode_high {m:Nat} (h:m=14∨m=15) (l t tl tr:Nat):predMode m l t tl tr=0:=by
 have hc:∀ a b c d,chP m a b c d=0:=fun a b c d => by
  unfold chP
  rcases h with rfl | rfl <;> simp
 unfold predMode
 rw [if_neg (by omega),if_neg (by omega),hc,hc,hc,hc]
 rfl
def predPx (w b:Nat) (px acc:List Nat):Nat :=
 if acc.length / w=0 then (if acc.length % w=0 then 4278190080 else acc.getD (acc.length - 1) 0)
 else if acc.length % w=0 then acc.getD (acc.length - w) 0
 else predMode (pG (px.getD (blkAt w b acc.length) 0) % 16) (acc.getD (acc.length - 1) 0) (acc.getD (acc.length - w) 0) (acc.getD (acc.length - w - 1) 0) (acc.getD (acc.length - w+1) 0)
def predF (w b:Nat) (px acc:List Nat) (p:Nat):Nat:=addPx p (predPx w b px acc)
theorem avg2_any (W:World) (a b:Nat) (ha:a<256) (hb:b<256):Calls Tryd.prog 120 #[.int .u8 (a:Nat),.int .u8 (b:Nat)] W fun e w' => e=.returned (.int .u8 (avg a b:Nat))∧w'=W:=by
 refine enter (m:=12) Tryd.func120 O Tryd.ntmps120 O (Cy (Lo O (AI O) (Lt (Cy (Lo O (YI O) (Lo O (Y.cv int_5_21 O (w32 (by omega))) (Lo O (YI O) (Lo O (Y.cv int_5_21 O (w32 (by omega))) (Lo O (Y.add O O (n32 (by omega))) (Lo O (Y.quo O O (by omega) (q32 (b:=2) (by omega))) (Lo O (Y.cv int_21_5 O (wu8 (by omega))) (Lo O (AI O) (Lt (Ct ?_))))))))))))))
 exact Done.ret1 O O ⟨rfl,rfl⟩
theorem abs_any (W:World) (a b:Nat) (ha:a<256) (hb:b<256):Calls Tryd.prog 121 #[.int .i32 ((a:Int) - (b:Int))] W fun e w' => e=.returned (.int .i32 (absd a b:Nat))∧w'=W:=by
 refine enter (m:=8) Tryd.func121 O Tryd.ntmps121 O (Cy (Lo O (AI O) (Lt (Cs (Cy (Lo O (YI O) (Lo O (Y.lss O O) (Lt ?_))))))))
 by_cases h:a<b
 case pos =>
  refine CT O (by omega) (Cy (Lo O (YI O) (Lo O (Y.neg (r:=(absd a b:Nat)) O (by unfold absd;rw [if_pos h,w32 (by omega)];omega)) (Lo O (AI O) (Lt (Ct (thn_r ?_)))))))
  exact Done.ret1 O O ⟨rfl,rfl⟩
 case neg =>
  refine CF O (by omega) (Ck (tn (Cy (Lo O (YI O) (Lo O (AI O) (Lt (Ct ?_)))))))
  have e:((absd a b:Nat):Int)=(a:Int) - (b:Int):=by unfold absd;rw [if_neg h];omega
  exact Done.ret1 O O ⟨by rw [e];rfl,rfl⟩
theorem clampF_any (W:World) (a b c:Nat) (ha:a<256) (hb:b<256) (hc:c<256):Calls Tryd.prog 122 #[.int .u8 (a:Nat),.int .u8 (b:Nat),.int .u8 (c:Nat)] W fun e w' => e=.returned (.int .u8 (clampF a b c:Nat))∧w'=W:=by
 have hd:clampF a b c=if a+b<c then 0 else if 255<a+b - c then 255 else a+b - c:=rfl
 refine enter (m:=22) Tryd.func122 O Tryd.ntmps122 O (Cy (Lo O (AI O) (Lt ?_)))
 by_cases h1:a+b<c
 case pos =>
  rw [if_pos h1] at hd
  rw [hd]
  refine Cy (Lo O (YI O) (Lo O (Y.cv int_5_21 O (w32 (by omega))) (Lo O (YI O) (Lo O (Y.cv int_5_21 O (w32 (by omega))) (Lo O (Y.add O O (n32 (by omega))) (Lo O (YI O) (Lo O (Y.cv int_5_21 O (w32 (by omega))) (Lo O (Y.sub O O (w32 (by omega))) (Lo O (AI O) (Lt (Cs (Cy (Lo O (YI O) (Lo O (Y.lss O O) (Lt (CT O (by omega) ?_))))))))))))))))
  refine Cy (Lo O (AI O) (Lt (Ct (thn_r ?_))))
  exact Done.ret1 O O ⟨rfl,rfl⟩
 case neg =>
 rw [if_neg h1] at hd
 refine Cy (Lo O (YI O) (Lo O (Y.cv int_5_21 O (w32 (by omega))) (Lo O (YI O) (Lo O (Y.cv int_5_21 O (w32 (by omega))) (Lo O (Y.add O O (n32 (by omega))) (Lo O (YI O) (Lo O (Y.cv int_5_21 O (w32 (by omega))) (Lo O (Y.sub O O (s32 (by omega))) (Lo O (AI O) (Lt (Cs (Cy (Lo O (YI O) (Lo O (Y.lss O O) (Lt (CF O (by omega) ?_))))))))))))))))
 refine Ck (tn (Cs (Cy (Lo O (YI O) (Lo O (Y.gtr O O) (Lt ?_))))))
 by_cases h2:255<a+b - c
 case pos =>
  rw [if_pos h2] at hd
  rw [hd]
  refine CT O (by omega) (Cy (Lo O (AI O) (Lt (Ct (thn_r ?_)))))
  exact Done.ret1 O O ⟨rfl,rfl⟩
 case neg =>
  rw [if_neg h2] at hd
  rw [hd]
  refine CF O (by omega) (Ck (tn (Cy (Lo O (YI O) (Lo O (Y.cv int_21_5 O (wu8 (by omega))) (Lo O (AI O) (Lt (Ct ?_))))))))
  exact Done.ret1 O O ⟨rfl,rfl⟩
theorem clampH_any (W:World) (a b:Nat) (ha:a<256) (hb:b<256):Calls Tryd.prog 123 #[.int .u8 (a:Nat),.int .u8 (b:Nat)] W fun e w' => e=.returned (.int .u8 (clampH a b:Nat))∧w'=W:=by
 have hd:clampH a b=if b≤a then (if 255<a+(a - b) / 2 then 255 else a+(a - b) / 2) else a - (b - a) / 2:=rfl
 refine enter (m:=21) Tryd.func123 O Tryd.ntmps123 O (Cy (Lo O (AI O) (Lt ?_)))
 by_cases h1:b≤a
 case pos =>
  rw [if_pos h1] at hd
  refine Cy (Lo O (YI O) (Lo O (Y.cv int_5_21 O (w32 (by omega))) (Lo O (YI O) (Lo O (Y.cv int_5_21 O (w32 (by omega))) (Lo O (YI O) (Lo O (Y.cv int_5_21 O (w32 (by omega))) (Lo O (Y.sub O O (s32 (by omega))) (Lo O (Y.quo O O (by omega) (q32 (b:=2) (by omega))) (Lo O (Y.add O O (n32 (by omega))) (Lo O (AI O) (Lt (Cs (Cy (Lo O (YI O) (Lo O (Y.lss O O) (Lt ?_))))))))))))))))
  refine CF O (by omega) (Ck (tn (Cs (Cy (Lo O (YI O) (Lo O (Y.gtr O O) (Lt ?_)))))))
  by_cases h2:255<a+(a - b) / 2
  case pos =>
   rw [if_pos h2] at hd
   rw [hd]
   refine CT O (by omega) (Cy (Lo O (AI O) (Lt (Ct (thn_r ?_)))))
   exact Done.ret1 O O ⟨rfl,rfl⟩
  case neg =>
   rw [if_neg h2] at hd
   rw [hd]
   refine CF O (by omega) (Ck (tn (Cy (Lo O (YI O) (Lo O (Y.cv int_21_5 O (wu8 (by omega))) (Lo O (AI O) (Lt (Ct ?_))))))))
   exact Done.ret1 O O ⟨rfl,rfl⟩
 case neg =>
 rw [if_neg h1] at hd
 have hq:IntKind.i32.wrap (((a:Int) - (b:Int)).tdiv 2)=-(((b - a) / 2:Nat):Int):=by
  have e:((a:Int) - (b:Int))=-((b - a:Nat):Int):=by omega
  rw [e,Int.neg_tdiv,show (((b - a:Nat):Int).tdiv 2)=(((b - a) / 2:Nat):Int) from rfl]
  exact w32 (by omega)
 have hneg:¬ a<(b - a) / 2∨a<(b - a) / 2:=by omega
 by_cases h2:a<(b - a) / 2
 case pos =>
  rw [show a - (b - a) / 2=0 by omega] at hd
  rw [hd]
  refine Cy (Lo O (YI O) (Lo O (Y.cv int_5_21 O (w32 (by omega))) (Lo O (YI O) (Lo O (Y.cv int_5_21 O (w32 (by omega))) (Lo O (YI O) (Lo O (Y.cv int_5_21 O (w32 (by omega))) (Lo O (Y.sub O O (w32 (by omega))) (Lo O (Y.quo O O (by omega) hq) (Lo O (Y.add O O (w32 (by omega))) (Lo O (AI O) (Lt (Cs (Cy (Lo O (YI O) (Lo O (Y.lss O O) (Lt ?_))))))))))))))))
  refine CT O (by omega) (Cy (Lo O (AI O) (Lt (Ct (thn_r ?_)))))
  exact Done.ret1 O O ⟨rfl,rfl⟩
 case neg =>
  rw [hd]
  refine Cy (Lo O (YI O) (Lo O (Y.cv int_5_21 O (w32 (by omega))) (Lo O (YI O) (Lo O (Y.cv int_5_21 O (w32 (by omega))) (Lo O (YI O) (Lo O (Y.cv int_5_21 O (w32 (by omega))) (Lo O (Y.sub O O (w32 (by omega))) (Lo O (Y.quo O O (by omega) hq) (Lo O (Y.add (r:=((a - (b - a) / 2:Nat):Int)) O O (by rw [w32 (by omega)];omega)) (Lo O (AI O) (Lt (Cs (Cy (Lo O (YI O) (Lo O (Y.lss O O) (Lt ?_))))))))))))))))
  refine CF O (by omega) (Ck (tn (Cs (Cy (Lo O (YI O) (Lo O (Y.gtr O O) (Lt (CF O (by omega) (Ck (tn (Cy (Lo O (YI O) (Lo O (Y.cv int_21_5 O (wu8 (by omega))) (Lo O (AI O) (Lt (Ct ?_))))))))))))))))
  exact Done.ret1 O O ⟨rfl,rfl⟩
end Go.Proofs.YtinkhckpckfajaaDoor
