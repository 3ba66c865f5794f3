/-
  A picture is written and read: part 7 of 13 (Pred).
-/
import Derived.Test.YtinkhckpckfajaaDoorA06
set_option linter.unusedVariables false
set_option linter.unusedSimpArgs false
set_option maxRecDepth 100000
set_option maxHeartbeats 32000000
namespace Go.Proofs.YtinkhckpckfajaaDoor
open Go
def B8 (x:Nat):Prop:=x<256
theorem parts_b8 (p:Nat):B8 (pA p)∧B8 (pR p)∧B8 (pG p)∧B8 (pB p):=parts_lt p
theorem pred_any (W:World) (btr off:Nat) (t:Tr) (bpx len capx bp cap ht:Nat) (inp:List Nat) (hT:TrAt W btr off t (.slice (some ⟨bpx,0,none⟩) len capx)) (hO:TrOk ht t) (hk:t.kind≤1)
  (hpx:Blk W bpx (rowK .u8 (byteAt t.px) capx) 5) (hlen:4 * t.px.length≤len) (hlc:len≤capx) (hn1:btr ∉ [bp]) (hn2:bpx ∉ [bp]) (hh:1≤ht) (hh2:ht≤16384)
  (hb:Blk W bp (rowK .u8 (byteAt inp) cap) 5) (hil:inp.length=t.wd * ht) (hcap:4 * inp.length≤cap) (hc2:cap≤1073742848) :
  Calls Tryd.prog 116 #[.pointer (some ⟨btr,off,none⟩),.slice (some ⟨bp,0,none⟩) (4 * inp.length) cap,.int .i32 (ht:Nat)] W (InvPost bp (scan (predF t.wd t.bits t.px) [] inp) W):=by
 have H:St W [bp] [blkR bp (rowK .u8 (byteAt inp) cap) 5] W:=St.ofBlk hb
 obtain ⟨hb2,hb9,hpl⟩:=hO.tile hk
 obtain ⟨hw,hw2⟩:=hO.wd
 have hTw:=hT.wd
 have hTb:=hT.bits
 have hTp:=hT.px
 have hp9:2 ^ t.bits≤2 ^ 9:=Nat.pow_le_pow_right (by omega) hb9
 have hp1:=Nat.two_pow_pos t.bits
 have hp4:2 ^ 2≤2 ^ t.bits:=Nat.pow_le_pow_right (by omega) hb2
 have hsetG:∀ (M:List Nat) (i P:Nat),i<M.length→P=4 * i→∀ (A x0 x1 x2 x3 pr:Nat),(pR pr=x0∧pG pr=x1∧pB pr=x2∧pA pr=x3)→∀ j,byteAt (M.set i (addPx A pr)) j =
   if j=P+3 then (pA A+x3) % 256 else if j=P+2 then (pB A+x2) % 256 else if j=P+1 then (pG A+x1) % 256 else if j=P+0 then (pR A+x0) % 256 else byteAt M j:=by
  rintro M i P hi rfl A x0 x1 x2 x3 pr ⟨h0,h1,h2,h3⟩ j
  obtain ⟨e1,e2,e3,e4,_⟩:=addPx_parts A pr
  rw [byteAt_set hi,e1,e2,e3,e4,h0,h1,h2,h3]
 have hinB:inp.length≤268435456:=by rw [hil];exact Nat.mul_le_mul hw2 hh2
 obtain ⟨F,hF⟩:∃ F,F=predF t.wd t.bits t.px:=⟨_,rfl⟩
 rw [← hF]
 obtain ⟨tp,htp⟩:∃ tp,tp=tilesN t.wd t.bits:=⟨_,rfl⟩
 have htp2:=tilesN_le (n:=t.wd) (b:=t.bits) hw
 rw [← htp] at htp2
 have hwi:t.wd≤inp.length:=by rw [hil];exact Nat.le_mul_of_pos_right _ hh
 refine enter (m:=1328) Tryd.func116 O Tryd.ntmps116 O (Cy (Lo O (Y.asg O) (Lt (Cs (Cy (Lo O (YP O) (Lo O (Y.nilP O) (Lo O (Y.fa fa_87_1 O) (Lo O (Y.ld ld_21 O (H.old (by assumption) (by assumption))) (Lo O (Y.eqlD O O (decide_eq_false (by omega))) (Lo O (Y.movB O) (LG O O O O (YI O) (LG O O O O (Y.eqlD O O (decide_eq_false (by omega))) (Lo O (Y.pick O O) (Lt (CB O (fun h => nomatch h) (fun _ => ?_)))))))))))))))))
 refine Ck (tn ?_)
 have hst0:=mix_step (f:=F) (l:=inp) (i:=0) (by omega)
 rw [mix_zero,made_zero] at hst0
 have hF0:F [] (inp.getD 0 0)=addPx (inp.getD 0 0) 4278190080:=by rw [hF];unfold predF predPx;simp
 rw [hF0] at hst0
 have hz3:=byteAt_3 inp 0
 have hz2:=byteAt_2 inp 0
 have hz1:=byteAt_1 inp 0
 have hz0:=byteAt_0 inp 0
 generalize inp.getD 0 0=A0 at *
 obtain ⟨g1,g2,g3,g4⟩:=parts_lt A0
 refine Cy (Lo O (YS O) (Lo O (Y.ixS0 3 sl_24 O O O (by omega)) (Lo O (Y.ld (v:=.int .u8 (pA A0:Nat)) ld_5 O (H.cell 0 O ((rowK_get (by omega)).trans (by rw [show 3=4 * 0+3 by rfl,hz3])))) (Lo O (Y.add O O (nu8 (b:=255))) (Lo O (Y.ixS0 3 sl_24 O O O (by omega)) (VL.putR H 0 st_5 O O O (by omega) ?_))))))
 intro w H
 try simp only [List.set,List.eraseIdx] at H
 refine Lt ?_
 rw [rowK_congr (g:=byteAt (inp.set 0 (addPx A0 4278190080))) (fun j _ => by
  rw [hsetG inp 0 0 (by omega) (by omega) A0 0 0 0 255 4278190080 ⟨rfl,rfl,rfl,rfl⟩]
  by_cases h3:j=3
  ·rw [if_pos (by omega),if_pos h3]
  ·rw [if_neg (by omega),if_neg h3]
   by_cases h2:j=2
   ·rw [if_pos (by omega),h2,show 2=4 * 0+2 by rfl,hz2];omega
   ·rw [if_neg (by omega)]
    by_cases h1:j=1
    ·rw [if_pos (by omega),h1,show 1=4 * 0+1 by rfl,hz1];omega
    ·rw [if_neg (by omega)]
     by_cases h0:j=0
     ·rw [if_pos (by omega),h0,show 0=4 * 0+0 by rfl,hz0];omega
     ·rw [if_neg (by omega)]),hst0] at H
 clear hst0 hF0 hz0 hz1 hz2 hz3 g1 g2 g3 g4
 refine Cs (Cd mixedP (by kernel_rfl) ?_)
 intro w hsame
 replace H:=H.same hsame
 refine So O (YP O) (So O (Y.nilP O) (So O (Y.fa fa_87_2 O) (So O (Y.ld ld_36 O (H.old (by assumption) (by assumption))) (So O (Y.shl (r:=((2 ^ t.bits:Nat):Int)) O O (by omega) (by rw [← Nat.one_mul (2 ^ t.bits)];exact l32 (a:=1) (by omega))) (So O (Y.sub O O (s32 (b:=1) (by omega))) (So O (AI O) (So O (AI O) (Sn (tn (Cs (Cy (Lo O (AI O) (Lt (Cb ?_))))))))))))))
 refine Cl (fun mm ρ w' => ∃ x P,mm=t.wd - x∧1≤x∧x≤t.wd∧P=4 * x∧ρ 0=.pointer (some ⟨btr,off,none⟩)∧ρ 1=.slice (some ⟨bp,0,none⟩) (4 * inp.length) cap∧ρ 2=.int .i32 (ht:Nat)∧ρ 7=.int .i32 (P:Nat)∧ρ 8=.int .i32 ((2 ^ t.bits - 1:Nat):Int)∧ρ 9=.int .i32 (x:Nat) ∧
  St W [bp] [blkR bp (rowK .u8 (byteAt (mix F inp x)) cap) 5] w') (t.wd - 1)
  ⟨1,4,rfl,by omega,by omega,by omega,rfl,rfl,rfl,rfl,rfl,rfl,H⟩ ?_
 clear H
 rintro mm ρ w1 ⟨x,P,rfl,hx1,hx,hP,h0,h1,h2,h7,h8,h9,H⟩
 refine Cs (Cy (Lo O (YI (by assumption)) (Lo O (YP (by assumption)) (Lo O (Y.nilP O) (Lo O (Y.fa fa_87_1 O) (Lo O (Y.ld ld_21 O (H.old (by assumption) (by assumption))) (Lo O (Y.lss O O) (Lt ?_))))))))
 by_cases hxw:x<t.wd
 case pos =>
  have hil2:x<inp.length:=by omega
  have hst:=mix_step (f:=F) hil2
  have hml:=mix_length (f:=F) (l:=inp) (i:=x) (by omega)
  have hge:=mix_ge (f:=F) (l:=inp) (i:=x) (by omega) (Nat.le_refl x)
  have hl1:=mix_lt (f:=F) (l:=inp) (i:=x) (j:=x - 1) (by omega) (by omega)
  have hFF:F (made F inp x) (inp.getD x 0)=addPx (inp.getD x 0) ((made F inp x).getD (x - 1) 0):=by
   have e:∀ (l:List Nat) (p:Nat),l.length=x→F l p=addPx p (l.getD (x - 1) 0):=fun l p hl => by
    rw [hF]
    unfold predF predPx
    rw [hl,Nat.div_eq_of_lt hxw,Nat.mod_eq_of_lt hxw,if_pos rfl,if_neg (by omega)]
   exact e _ _ (made_length (by omega))
  rw [hFF,← hge,← hl1] at hst
  generalize mix F inp x=M at *
  have hA0:=byteAt_0 M x
  have hA1:=byteAt_1 M x
  have hA2:=byteAt_2 M x
  have hA3:=byteAt_3 M x
  have hL0:=byteAt_0 M (x - 1)
  have hL1:=byteAt_1 M (x - 1)
  have hL2:=byteAt_2 M (x - 1)
  have hL3:=byteAt_3 M (x - 1)
  rw [← hP] at hA0 hA1 hA2 hA3
  rw [show 4 * (x - 1)+0=P - 4 by omega] at hL0
  rw [show 4 * (x - 1)+1=P - 3 by omega] at hL1
  rw [show 4 * (x - 1)+2=P - 2 by omega] at hL2
  rw [show 4 * (x - 1)+3=P - 1 by omega] at hL3
  clear hge hl1 hFF
  generalize M.getD x 0=A at *
  generalize M.getD (x - 1) 0=L at *
  have hset:=hsetG M x P (by omega) hP A
  refine CT O (by omega) (Ck (tn (Cs (Cb (Cs (VC.drawTail 12 mixedP (by kernel_rfl) ?_))))))
  intro w hsame
  replace H:=H.same hsame
  refine So O (YS (by assumption)) (So O (YI (by assumption)) (So O (Y.add O O (n32 (b:=0) (by omega))) (So O (Y.ixS0 _ sl_24 O O O (by omega)) (So O (Y.ld (v:=.int .u8 (pR A:Nat)) ld_5 O (H.cell 0 O ((rowK_get (by omega)).trans (by rw [hA0])))) (So O (YS (by assumption)) (So O (YI (by assumption)) (So O (Y.sub O O (s32 (b:=4) (by omega))) (So O (Y.ixS0 _ sl_24 O O O (by omega)) (So O (Y.ld (v:=.int .u8 (pR L:Nat)) ld_5 O (H.cell 0 O ((rowK_get (by omega)).trans (by rw [hL0])))) (So O (Y.add O O (nu8)) (So O (Y.ixS0 _ sl_24 O O O (by omega)) (Sn (VL.putR H 0 st_5 O O O (by omega) ?_)))))))))))))
  intro w H
  try simp only [List.set,List.eraseIdx] at H
  refine Lt (Cs (VC.drawTail 12 mixedP (by kernel_rfl) ?_))
  intro w hsame
  replace H:=H.same hsame
  refine So O (YS (by assumption)) (So O (YI (by assumption)) (So O (Y.add O O (n32 (b:=1) (by omega))) (So O (Y.ixS0 _ sl_24 O O O (by omega)) (So O (Y.ld (v:=.int .u8 (pG A:Nat)) ld_5 O (H.cell 0 O ((rowK_get (by omega)).trans (by rw [if_neg (by omega),hA1])))) (So O (YS (by assumption)) (So O (YI (by assumption)) (So O (Y.sub O O (s32 (b:=3) (by omega))) (So O (Y.ixS0 _ sl_24 O O O (by omega)) (So O (Y.ld (v:=.int .u8 (pG L:Nat)) ld_5 O (H.cell 0 O ((rowK_get (by omega)).trans (by rw [if_neg (by omega),hL1])))) (So O (Y.add O O (nu8)) (So O (Y.ixS0 _ sl_24 O O O (by omega)) (Sn (VL.putR H 0 st_5 O O O (by omega) ?_)))))))))))))
  intro w H
  try simp only [List.set,List.eraseIdx] at H
  refine Lt (Cs (VC.drawTail 12 mixedP (by kernel_rfl) ?_))
  intro w hsame
  replace H:=H.same hsame
  refine So O (YS (by assumption)) (So O (YI (by assumption)) (So O (Y.add O O (n32 (b:=2) (by omega))) (So O (Y.ixS0 _ sl_24 O O O (by omega)) (So O (Y.ld (v:=.int .u8 (pB A:Nat)) ld_5 O (H.cell 0 O ((rowK_get (by omega)).trans (by rw [if_neg (by omega),if_neg (by omega),hA2])))) (So O (YS (by assumption)) (So O (YI (by assumption)) (So O (Y.sub O O (s32 (b:=2) (by omega))) (So O (Y.ixS0 _ sl_24 O O O (by omega)) (So O (Y.ld (v:=.int .u8 (pB L:Nat)) ld_5 O (H.cell 0 O ((rowK_get (by omega)).trans (by rw [if_neg (by omega),if_neg (by omega),hL2])))) (So O (Y.add O O (nu8)) (So O (Y.ixS0 _ sl_24 O O O (by omega)) (Sn (VL.putR H 0 st_5 O O O (by omega) ?_)))))))))))))
  intro w H
  try simp only [List.set,List.eraseIdx] at H
  refine Lt (Cs (VC.drawTail 12 mixedP (by kernel_rfl) ?_))
  intro w hsame
  replace H:=H.same hsame
  refine So O (YS (by assumption)) (So O (YI (by assumption)) (So O (Y.add O O (n32 (b:=3) (by omega))) (So O (Y.ixS0 _ sl_24 O O O (by omega)) (So O (Y.ld (v:=.int .u8 (pA A:Nat)) ld_5 O (H.cell 0 O ((rowK_get (by omega)).trans (by rw [if_neg (by omega),if_neg (by omega),if_neg (by omega),hA3])))) (So O (YS (by assumption)) (So O (YI (by assumption)) (So O (Y.sub O O (s32 (b:=1) (by omega))) (So O (Y.ixS0 _ sl_24 O O O (by omega)) (So O (Y.ld (v:=.int .u8 (pA L:Nat)) ld_5 O (H.cell 0 O ((rowK_get (by omega)).trans (by rw [if_neg (by omega),if_neg (by omega),if_neg (by omega),hL3])))) (So O (Y.add O O (nu8)) (So O (Y.ixS0 _ sl_24 O O O (by omega)) (Sn (VL.putR H 0 st_5 O O O (by omega) ?_)))))))))))))
  intro w H
  try simp only [List.set,List.eraseIdx] at H
  refine Lt ?_
  rw [rowK_congr (g:=byteAt (M.set x (addPx A L))) (fun j _ => hset _ _ _ _ _ ⟨rfl,rfl,rfl,rfl⟩ j),hst] at H
  refine Cr (Lo O (YI (by assumption)) (Lo O (Y.add O O (n32 (b:=4) (by omega))) (Lo O (AI O) (Ln (blk_n (tn (Cr (Lo O (YI (by assumption)) (Lo O (Y.add O O (n32 (b:=1) (by omega))) (Lo O (AI O) (Lt ?_)))))))))))
  exact ⟨t.wd - (x+1),by omega,x+1,P+4,rfl,by omega,by omega,by omega,h0,h1,h2,rfl,h8,rfl,H⟩
 case neg =>
 obtain hxe:x=t.wd:=by omega
 rw [hxe] at H hP
 refine CF O (by omega) (Cx (thn_x (thn_x (blk_x (tn (Cs ?_))))))
 refine VC.held (Frm [bp] W) mixedP (by with_reducible repeat (first | refine NoP.thn ?_ | refine NoP.blk ?_ | refine NoP.jmp ?_ | refine NoP.nojmp ?_ | exact NoP.done)) ?_
 intro w hsame
 replace H:=H.same hsame
 refine Ht 0 O (by kernel_rfl) (by kernel_rfl) (by kernel_rfl) O H.frm (fun w hI => YP (by assumption)) (Ht 1 O (by kernel_rfl) (by kernel_rfl) (by kernel_rfl) O H.frm (fun w hI => Y.nilP O) (Ht 2 O (by kernel_rfl) (by kernel_rfl) (by kernel_rfl) O H.frm (fun w hI => Y.fa fa_87_1 O) (Ht 3 O (by kernel_rfl) (by kernel_rfl) (by kernel_rfl) O H.frm (fun w hI => Y.ld ld_21 O (hI.cell hTw hn1)) (Ht 4 O (by kernel_rfl) (by kernel_rfl) (by kernel_rfl) O H.frm (fun w hI => YP (by assumption)) (Ht 5 O (by kernel_rfl) (by kernel_rfl) (by kernel_rfl) O H.frm (fun w hI => Y.nilP O) (Ht 6 O (by kernel_rfl) (by kernel_rfl) (by kernel_rfl) O H.frm (fun w hI => Y.fa fa_87_2 O) (Ht 7 O (by kernel_rfl) (by kernel_rfl) (by kernel_rfl) O H.frm (fun w hI => Y.ld ld_36 O (hI.cell hTb hn1)) (VH.callP 8 O (by kernel_rfl) O ent_55 (nTiles_any _ t.wd t.bits hw (by omega) hb9) O H.frm (Ht 9 O (by kernel_rfl) (by kernel_rfl) (by kernel_rfl) O H.frm (fun w hI => AI O) (Ht 10 O (by kernel_rfl) (by kernel_rfl) (by kernel_rfl) O H.frm (fun w hI => AI O) (VH.nil (by kernel_rfl) (tn ?_))))))))))))
 rw [← htp]
 refine Cs (Cy (Lo O (AI O) (Lt (Cb ?_))))
 refine Cl (fun mm ρ w' => ∃ y P Q,mm=ht - y∧1≤y∧y≤ht∧P=4 * (y * t.wd)∧Q+4 * t.wd=P∧ρ 0=.pointer (some ⟨btr,off,none⟩)∧ρ 1=.slice (some ⟨bp,0,none⟩) (4 * inp.length) cap∧ρ 2=.int .i32 (ht:Nat)∧ρ 7=.int .i32 (P:Nat)∧ρ 8=.int .i32 ((2 ^ t.bits - 1:Nat):Int)∧ρ 10=.int .i64 (Q:Nat)∧ρ 11=.int .i32 (tp:Nat)∧ρ 12=.int .i32 (y:Nat) ∧
  St W [bp] [blkR bp (rowK .u8 (byteAt (mix F inp (y * t.wd))) cap) 5] w') (ht - 1)
  ⟨1,P,0,rfl,by omega,by omega,by rw [Nat.one_mul];exact hP,by omega,h0,h1,h2,h7,h8,rfl,rfl,rfl,by rw [Nat.one_mul];exact H⟩ ?_
 clear h0 h1 h2 h7 h8 h9 H hP
 clear ρ
 rintro mm ρ w2 ⟨y,P,Q,rfl,hy1,hy,hP,hQ,h0,h1,h2,h7,h8,h10,h11,h12,H⟩
 refine Cs (Cy (Lo O (YI (by assumption)) (Lo O (YI (by assumption)) (Lo O (Y.lss O O) (Lt ?_)))))
 by_cases hlt:y<ht
 case neg =>
  have hl:(scan F [] inp).length=inp.length:=by rw [scan_length];simp
  obtain rfl:y=ht:=by omega
  rw [show y * t.wd=inp.length by rw [hil,Nat.mul_comm],mix_all] at H
  refine CF O (by omega) (Cx (thn_x (thn_x (blk_x (tn (Cy (Lo O (YS (by assumption)) (Lo O (AS O) (Lt (Ct ?_))))))))))
  exact Done.ret1 O O ⟨bp,cap,by rw [hl];rfl,by omega,hc2,.inl rfl,H.blk (i:=0) rfl,H.frm⟩
 case pos =>
 have hyw:(y+1) * t.wd≤inp.length:=by rw [hil,Nat.mul_comm];exact Nat.mul_le_mul_left _ hlt
 have hy0:t.wd≤y * t.wd:=Nat.le_mul_of_pos_left _ hy1
 rw [Nat.succ_mul] at hyw
 obtain ⟨qy,hqy⟩:∃ q,q=y / 2 ^ t.bits:=⟨_,rfl⟩
 have hqy2:qy≤y:=by rw [hqy];exact Nat.div_le_self _ _
 have hmul:tp * qy≤16384 * 16384:=Nat.mul_le_mul (by omega) (by omega)
 have hmul2:qy * tp=tp * qy:=Nat.mul_comm _ _
 obtain ⟨Y0,hY0⟩:∃ Y0,Y0=y * t.wd:=⟨_,rfl⟩
 rw [← hY0] at hyw hP H hy0
 have hYd:∀ x,x<t.wd→(Y0+x) / t.wd=y∧(Y0+x) % t.wd=x:=fun x hx => divmod (by rw [hY0]) hx
 have hpl2:t.px.length≤268435456:=by
  rw [hpl]
  have h2:=(tilesN_le (b:=t.bits) hh).2
  rw [← htp]
  exact Nat.mul_le_mul (show _≤16384 by omega) (show _≤16384 by omega)
 have hti0:=tile_index (w:=t.wd) (h:=ht) (b:=t.bits) (x:=0) (y:=y) (by omega) hlt
 rw [Nat.zero_div,Nat.add_zero,← hpl,← htp,← hqy] at hti0
 refine CT O (by omega) (Ck (tn (Cs (Cb ?_))))
 have hstc:=mix_step (f:=F) (l:=inp) (i:=Y0) (by omega)
 have hmlc:=mix_length (f:=F) (l:=inp) (i:=Y0) (by omega)
 have hgec:=mix_ge (f:=F) (l:=inp) (i:=Y0) (by omega) (Nat.le_refl Y0)
 have hltc:=mix_lt (f:=F) (l:=inp) (i:=Y0) (j:=Y0 - t.wd) (by omega) (by omega)
 have hFc:F (made F inp Y0) (inp.getD Y0 0)=addPx (inp.getD Y0 0) ((made F inp Y0).getD (Y0 - t.wd) 0):=by
  have e:∀ (l:List Nat) (p:Nat),l.length=Y0→F l p=addPx p (l.getD (Y0 - t.wd) 0):=fun l p hl => by
   rw [hF]
   unfold predF predPx
   obtain ⟨d1,d2⟩:=hYd 0 (by omega)
   rw [Nat.add_zero] at d1 d2
   rw [hl,d1,d2,if_neg (by omega),if_pos rfl]
  exact e _ _ (made_length (by omega))
 rw [hFc,← hgec,← hltc] at hstc
 replace H:St W [bp] [blkR bp (rowK .u8 (byteAt (mix F inp Y0)) cap) 5] w2:=H
 generalize mix F inp Y0=M at *
 have hA0:=byteAt_0 M Y0
 have hA1:=byteAt_1 M Y0
 have hA2:=byteAt_2 M Y0
 have hA3:=byteAt_3 M Y0
 have hT0:=byteAt_0 M (Y0 - t.wd)
 have hT1:=byteAt_1 M (Y0 - t.wd)
 have hT2:=byteAt_2 M (Y0 - t.wd)
 have hT3:=byteAt_3 M (Y0 - t.wd)
 rw [← hP] at hA0 hA1 hA2 hA3
 rw [show 4 * (Y0 - t.wd)=Q by omega] at hT0 hT1 hT2 hT3
 clear hgec hltc hFc
 generalize M.getD Y0 0=A at *
 generalize M.getD (Y0 - t.wd) 0=T at *
 have hsetc:=hsetG M Y0 P (by omega) hP A
 refine Cs (VC.drawTail 12 mixedP (by kernel_rfl) ?_)
 intro w hsame
 replace H:=H.same hsame
 refine So O (YS (by assumption)) (So O (YI (by assumption)) (So O (Y.add O O (n32 (b:=0) (by omega))) (So O (Y.ixS0 _ sl_24 O O O (by omega)) (So O (Y.ld (v:=.int .u8 (pR A:Nat)) ld_5 O (H.cell 0 O ((rowK_get (by omega)).trans (by rw [hA0])))) (So O (YS (by assumption)) (So O (YI (by assumption)) (So O (Y.add O O (n64 (b:=0) (by omega))) (So O (Y.ixS0 _ sl_24 O O O (by omega)) (So O (Y.ld (v:=.int .u8 (pR T:Nat)) ld_5 O (H.cell 0 O ((rowK_get (by omega)).trans (by rw [hT0])))) (So O (Y.add O O (nu8)) (So O (Y.ixS0 _ sl_24 O O O (by omega)) (Sn (VL.putR H 0 st_5 O O O (by omega) ?_)))))))))))))
 intro w H
 try simp only [List.set,List.eraseIdx] at H
 refine Lt (Cs (VC.drawTail 12 mixedP (by kernel_rfl) ?_))
 intro w hsame
 replace H:=H.same hsame
 refine So O (YS (by assumption)) (So O (YI (by assumption)) (So O (Y.add O O (n32 (b:=1) (by omega))) (So O (Y.ixS0 _ sl_24 O O O (by omega)) (So O (Y.ld (v:=.int .u8 (pG A:Nat)) ld_5 O (H.cell 0 O ((rowK_get (by omega)).trans (by rw [if_neg (by omega),hA1])))) (So O (YS (by assumption)) (So O (YI (by assumption)) (So O (Y.add O O (n64 (b:=1) (by omega))) (So O (Y.ixS0 _ sl_24 O O O (by omega)) (So O (Y.ld (v:=.int .u8 (pG T:Nat)) ld_5 O (H.cell 0 O ((rowK_get (by omega)).trans (by rw [if_neg (by omega),hT1])))) (So O (Y.add O O (nu8)) (So O (Y.ixS0 _ sl_24 O O O (by omega)) (Sn (VL.putR H 0 st_5 O O O (by omega) ?_)))))))))))))
 intro w H
 try simp only [List.set,List.eraseIdx] at H
 refine Lt (Cs (VC.drawTail 12 mixedP (by kernel_rfl) ?_))
 intro w hsame
 replace H:=H.same hsame
 refine So O (YS (by assumption)) (So O (YI (by assumption)) (So O (Y.add O O (n32 (b:=2) (by omega))) (So O (Y.ixS0 _ sl_24 O O O (by omega)) (So O (Y.ld (v:=.int .u8 (pB A:Nat)) ld_5 O (H.cell 0 O ((rowK_get (by omega)).trans (by rw [if_neg (by omega),if_neg (by omega),hA2])))) (So O (YS (by assumption)) (So O (YI (by assumption)) (So O (Y.add O O (n64 (b:=2) (by omega))) (So O (Y.ixS0 _ sl_24 O O O (by omega)) (So O (Y.ld (v:=.int .u8 (pB T:Nat)) ld_5 O (H.cell 0 O ((rowK_get (by omega)).trans (by rw [if_neg (by omega),if_neg (by omega),hT2])))) (So O (Y.add O O (nu8)) (So O (Y.ixS0 _ sl_24 O O O (by omega)) (Sn (VL.putR H 0 st_5 O O O (by omega) ?_)))))))))))))
 intro w H
 try simp only [List.set,List.eraseIdx] at H
 refine Lt (Cs (VC.drawTail 12 mixedP (by kernel_rfl) ?_))
 intro w hsame
 replace H:=H.same hsame
 refine So O (YS (by assumption)) (So O (YI (by assumption)) (So O (Y.add O O (n32 (b:=3) (by omega))) (So O (Y.ixS0 _ sl_24 O O O (by omega)) (So O (Y.ld (v:=.int .u8 (pA A:Nat)) ld_5 O (H.cell 0 O ((rowK_get (by omega)).trans (by rw [if_neg (by omega),if_neg (by omega),if_neg (by omega),hA3])))) (So O (YS (by assumption)) (So O (YI (by assumption)) (So O (Y.add O O (n64 (b:=3) (by omega))) (So O (Y.ixS0 _ sl_24 O O O (by omega)) (So O (Y.ld (v:=.int .u8 (pA T:Nat)) ld_5 O (H.cell 0 O ((rowK_get (by omega)).trans (by rw [if_neg (by omega),if_neg (by omega),if_neg (by omega),hT3])))) (So O (Y.add O O (nu8)) (So O (Y.ixS0 _ sl_24 O O O (by omega)) (Sn (VL.putR H 0 st_5 O O O (by omega) ?_)))))))))))))
 intro w H
 try simp only [List.set,List.eraseIdx] at H
 refine Lt ?_
 rw [rowK_congr (g:=byteAt (M.set Y0 (addPx A T))) (fun j _ => hsetc _ _ _ _ _ ⟨rfl,rfl,rfl,rfl⟩ j),hstc] at H
 clear hstc hmlc hA0 hA1 hA2 hA3 hT0 hT1 hT2 hT3 hsetc
 refine Cy (Lo O (YI (by assumption)) (Lo O (Y.add O O (n32 (b:=4) (by omega))) (Lo O (YI (by assumption)) (Lo O (Y.add O O (n64 (b:=4) (by omega))) (Lo O (AI O) (Lo O (AI O) (Lt (Cy (Lo O (YI (by assumption)) (Lo O (YP (by assumption)) (Lo O (Y.nilP O) (Lo O (Y.fa fa_87_2 O) (Lo O (Y.ld ld_36 O (H.old (by assumption) (by assumption))) (Lo O (Y.shr (r:=(qy:Int)) O O (by omega) (by rw [hqy];exact shrK (k:=.i32) (b:=t.bits) (by show t.bits≤32;omega))) (Lo O (Y.mul (r:=((4 * qy:Nat):Int)) O O (m32 (a:=4) (by omega))) (Lo O (YI (by assumption)) ?_))))))))))))))))
 refine Lo O (Y.mul (r:=((4 * (tp * qy):Nat):Int)) O O (by rw [m32 (by rw [Nat.mul_assoc,hmul2];omega),Nat.mul_assoc,hmul2])) (Lo O (AI O) (Lt ?_))
 have hm0:=byteAt_1 t.px (tp * qy)
 have k0:=hpx.cellv (rowK_get (k:=.u8) (f:=byteAt t.px) (j:=4 * (tp * qy)+1) (by omega))
 rw [hm0] at k0
 have hand16:∀ g:Nat,g &&& 15=g % 16:=fun g => Nat.and_two_pow_sub_one_eq_mod g 4
 have hpg:=fun p => (parts_lt p).2.2.1
 refine Cy (Lo O (YP (by assumption)) (Lo O (Y.nilP O) (Lo O (Y.fa fa_87_3 O) (Lo O (Y.ld ld_24 O (H.old (by assumption) (by assumption))) (Lo O (YI O) (Lo O (Y.add O O (n32 (b:=1) (by omega))) (Lo O (Y.ixS0 _ sl_24 O O O (by omega)) (Lo O (Y.ld ld_5 O (H.old k0 hn2)) (Lo O (Y.and (r:=(pG (t.px.getD (tp * qy) 0) % 16:Nat)) O O (by rw [← hand16];exact au8 (b:=15) ⟨hpg _,by omega⟩)) (Lo O (AI O) (Lt (Cy (Lo O (YI O) (Lo O (Y.add O O (n32 (b:=4) (by omega))) (Lo O (AI O) (Ln ?_))))))))))))))))
 refine tn (Cy (Lo O (AI O) (Lt (Cb ?_))))
 refine Cl (fun mm ρ w' => ∃ x nq P Q,mm=t.wd - x∧1≤x∧x≤t.wd∧P=4 * (Y0+x)∧Q+4 * t.wd=P∧nq=(x - 1) / 2 ^ t.bits+1∧ρ 0=.pointer (some ⟨btr,off,none⟩)∧ρ 1=.slice (some ⟨bp,0,none⟩) (4 * inp.length) cap∧ρ 2=.int .i32 (ht:Nat)∧ρ 7=.int .i32 (P:Nat)∧ρ 8=.int .i32 ((2 ^ t.bits - 1:Nat):Int)∧ρ 10=.int .i64 (Q:Nat)∧ρ 11=.int .i32 (tp:Nat)∧ρ 12=.int .i32 (y:Nat) ∧
  ρ 13=.int .i32 ((4 * (tp * qy+nq):Nat):Int)∧ρ 14=.int .u8 (pG (t.px.getD (tp * qy+(x - 1) / 2 ^ t.bits) 0) % 16:Nat)∧ρ 15=.int .i32 (x:Nat)∧St W [bp] [blkR bp (rowK .u8 (byteAt (mix F inp (Y0+x))) cap) 5] w') (t.wd - 1)
  ⟨1,1,P+4,Q+4,rfl,by omega,by omega,by omega,by omega,by rw [Nat.sub_self,Nat.zero_div],h0,h1,h2,rfl,h8,rfl,h11,h12,rfl,by rw [Nat.sub_self,Nat.zero_div,Nat.add_zero];rfl,rfl,H⟩ ?_
 clear h0 h1 h2 h7 h8 h10 h11 h12 H hP hQ hm0 k0
 clear ρ
 rintro mm ρ w3 ⟨x,nq,P,Q,rfl,hx1,hx,hP,hQ,hnq,h0,h1,h2,h7,h8,h10,h11,h12,h13,h14,h15,H⟩
 refine Cs (Cy (Lo O (YI (by assumption)) (Lo O (YP (by assumption)) (Lo O (Y.nilP O) (Lo O (Y.fa fa_87_1 O) (Lo O (Y.ld ld_21 O (H.old (by assumption) (by assumption))) (Lo O (Y.lss O O) (Lt ?_))))))))
 by_cases hxw:x<t.wd
 case neg =>
  obtain hxe:x=t.wd:=by omega
  rw [hxe] at H hP
  refine CF O (by omega) (Cx (thn_x (thn_x (blk_x (blk_n (tn (Cr (Lo O (YI (by assumption)) (Lo O (Y.add O O (n32 (b:=1) (by omega))) (Lo O (AI O) (Lt ?_)))))))))))
  exact ⟨ht - (y+1),by omega,y+1,P,Q,rfl,by omega,by omega,by rw [show (y+1) * t.wd=Y0+t.wd by rw [Nat.succ_mul,hY0]];exact hP,hQ,h0,h1,h2,h7,h8,h10,h11,rfl,by rw [show (y+1) * t.wd=Y0+t.wd by rw [Nat.succ_mul,hY0]];exact H⟩
 case pos =>
 have hti:=tile_index (b:=t.bits) hxw hlt
 rw [← hpl,← htp,← hqy] at hti
 have hdiv:=div_step (x:=x) (t:=2 ^ t.bits) hp1 (by omega)
 have hand:x &&& (2 ^ t.bits - 1)=x % 2 ^ t.bits:=Nat.and_two_pow_sub_one_eq_mod x _
 have hxm:x % 2 ^ t.bits≤x:=Nat.mod_le _ _
 obtain ⟨qx,hqx⟩:∃ q,q=x / 2 ^ t.bits:=⟨_,rfl⟩
 rw [← hqx] at hti hdiv
 obtain ⟨md,hmd⟩:∃ md,md=pG (t.px.getD (tp * qy+qx) 0) % 16:=⟨_,rfl⟩
 have hmd16:md<16:=by rw [hmd];exact Nat.mod_lt _ (by omega)
 refine CT O (by omega) (Ck (tn (Cs (Cb (Cs (Cy (Lo O (YI (by assumption)) (Lo O (YI (by assumption)) (Lo O (Y.and (r:=(x % 2 ^ t.bits:Nat)) O O (by rw [← hand];exact a32 (by omega))) (Lo O (Y.eql O O) (Lt ?_)))))))))))
 refine VC.join (fun ρ w' => ρ 0=.pointer (some ⟨btr,off,none⟩)∧ρ 1=.slice (some ⟨bp,0,none⟩) (4 * inp.length) cap∧ρ 2=.int .i32 (ht:Nat)∧ρ 7=.int .i32 (P:Nat)∧ρ 8=.int .i32 ((2 ^ t.bits - 1:Nat):Int)∧ρ 10=.int .i64 (Q:Nat)∧ρ 11=.int .i32 (tp:Nat)∧ρ 12=.int .i32 (y:Nat) ∧
  ρ 13=.int .i32 ((4 * (tp * qy+(qx+1)):Nat):Int)∧ρ 14=.int .u8 (md:Nat)∧ρ 15=.int .i32 (x:Nat)∧w3=w') ?_ ?_
 case refine_1 =>
  by_cases hxz:x % 2 ^ t.bits=0
  case neg =>
   have hd:=hdiv.2 hxz
   rw [← hd,← hmd] at h14
   rw [← hd] at hnq
   subst hnq
   refine CF O (by omega) (Ck (tn ?_))
   exact ⟨h0,h1,h2,h7,h8,h10,h11,h12,h13,h14,h15,rfl⟩
  case pos =>
   have hd:=hdiv.1 hxz
   have hnq2:nq=qx:=by rw [hnq,hd]
   subst hnq2
   have hA1:=byteAt_1 t.px (tp * qy+nq)
   have k1:=H.old (hpx.cellv (rowK_get (k:=.u8) (f:=byteAt t.px) (j:=4 * (tp * qy+nq)+1) (by omega))) hn2
   rw [hA1] at k1
   refine CT O (by omega) (Cy (Lo O (YP (by assumption)) (Lo O (Y.nilP O) (Lo O (Y.fa fa_87_3 O) (Lo O (Y.ld ld_24 O (H.old (by assumption) (by assumption))) (Lo O (YI (by assumption)) (Lo O (Y.add O O (n32 (b:=1) (by omega))) (Lo O (Y.ixS0 _ sl_24 O O O (by omega)) (Lo O (Y.ld ld_5 O k1) (Lo O (Y.and (r:=(md:Nat)) O O (by rw [hmd,← hand16];exact au8 (b:=15) ⟨hpg _,by omega⟩)) (Lo O (AI O) (Lt (Cr (Lo O (YI (by assumption)) (Lo O (Y.add O O (n32 (b:=4) (by omega))) (Lo O (AI O) (Ln ?_)))))))))))))))))
   refine tn ?_
   exact ⟨h0,h1,h2,h7,h8,h10,h11,h12,rfl,rfl,h15,rfl⟩
 case refine_2 =>
 clear h0 h1 h2 h7 h8 h10 h11 h12 h13 h14 h15 ρ
 rintro ρ w' ⟨s0,s1,s2,s7,s8,s10,s11,s12,s13,s14,s15,rfl⟩
 obtain ⟨i,hi⟩:∃ i,i=Y0+x:=⟨_,rfl⟩
 rw [← hi] at H hP
 have hil2:i<inp.length:=by omega
 have hst:=mix_step (f:=F) hil2
 have hml:=mix_length (f:=F) (l:=inp) (i:=i) (by omega)
 have hge:=mix_ge (f:=F) (l:=inp) (i:=i) (by omega) (Nat.le_refl i)
 have hL:=mix_lt (f:=F) (l:=inp) (i:=i) (j:=i - 1) (by omega) (by omega)
 have hT:=mix_lt (f:=F) (l:=inp) (i:=i) (j:=i - t.wd) (by omega) (by omega)
 have hTL:=mix_lt (f:=F) (l:=inp) (i:=i) (j:=i - t.wd - 1) (by omega) (by omega)
 have hTR:=mix_lt (f:=F) (l:=inp) (i:=i) (j:=i - t.wd+1) (by omega) (by omega)
 have hFF:F (made F inp i) (inp.getD i 0)=addPx (inp.getD i 0) (predMode md ((made F inp i).getD (i - 1) 0) ((made F inp i).getD (i - t.wd) 0) ((made F inp i).getD (i - t.wd - 1) 0) ((made F inp i).getD (i - t.wd+1) 0)):=by
  have e:∀ (l:List Nat) (p:Nat),l.length=i→F l p=addPx p (predMode md (l.getD (i - 1) 0) (l.getD (i - t.wd) 0) (l.getD (i - t.wd - 1) 0) (l.getD (i - t.wd+1) 0)):=fun l p hl => by
   rw [hF]
   unfold predF predPx blkAt
   obtain ⟨e1,e2⟩:=hYd x hxw
   rw [hl,hi,e1,e2,if_neg (by omega),if_neg (by omega),hmd,htp,hqy,hqx]
  exact e _ _ (made_length (by omega))
 rw [hFF,← hge,← hL,← hT,← hTL,← hTR] at hst
 generalize mix F inp i=M at *
 clear hge hL hT hTL hTR hFF
 have hA0:=byteAt_0 M i
 have hA1:=byteAt_1 M i
 have hA2:=byteAt_2 M i
 have hA3:=byteAt_3 M i
 have hL0:=byteAt_0 M (i - 1)
 have hL1:=byteAt_1 M (i - 1)
 have hL2:=byteAt_2 M (i - 1)
 have hL3:=byteAt_3 M (i - 1)
 have hT0:=byteAt_0 M (i - t.wd)
 have hT1:=byteAt_1 M (i - t.wd)
 have hT2:=byteAt_2 M (i - t.wd)
 have hT3:=byteAt_3 M (i - t.wd)
 have hTL0:=byteAt_0 M (i - t.wd - 1)
 have hTL1:=byteAt_1 M (i - t.wd - 1)
 have hTL2:=byteAt_2 M (i - t.wd - 1)
 have hTL3:=byteAt_3 M (i - t.wd - 1)
 have hTR0:=byteAt_0 M (i - t.wd+1)
 have hTR1:=byteAt_1 M (i - t.wd+1)
 have hTR2:=byteAt_2 M (i - t.wd+1)
 have hTR3:=byteAt_3 M (i - t.wd+1)
 rw [← hP] at hA0 hA1 hA2 hA3
 rw [show 4 * (i - 1)+0=P - 4 by omega] at hL0
 rw [show 4 * (i - 1)+1=P - 3 by omega] at hL1
 rw [show 4 * (i - 1)+2=P - 2 by omega] at hL2
 rw [show 4 * (i - 1)+3=P - 1 by omega] at hL3
 rw [show 4 * (i - t.wd)=Q by omega] at hT0 hT1 hT2 hT3
 rw [show 4 * (i - t.wd - 1)+0=Q - 4 by omega] at hTL0
 rw [show 4 * (i - t.wd - 1)+1=Q - 3 by omega] at hTL1
 rw [show 4 * (i - t.wd - 1)+2=Q - 2 by omega] at hTL2
 rw [show 4 * (i - t.wd - 1)+3=Q - 1 by omega] at hTL3
 rw [show 4 * (i - t.wd+1)+0=Q+4 by omega] at hTR0
 rw [show 4 * (i - t.wd+1)+1=Q+5 by omega] at hTR1
 rw [show 4 * (i - t.wd+1)+2=Q+6 by omega] at hTR2
 rw [show 4 * (i - t.wd+1)+3=Q+7 by omega] at hTR3
 generalize M.getD i 0=A at *
 generalize M.getD (i - 1) 0=L at *
 generalize M.getD (i - t.wd) 0=T at *
 generalize M.getD (i - t.wd - 1) 0=TL at *
 generalize M.getD (i - t.wd+1) 0=TR at *
 obtain ⟨l1,l2,l3,l4⟩:=parts_b8 L
 obtain ⟨t1,t2,t3,t4⟩:=parts_b8 T
 obtain ⟨tl1,tl2,tl3,tl4⟩:=parts_b8 TL
 obtain ⟨tr1,tr2,tr3,tr4⟩:=parts_b8 TR
 have hPQ:4≤Q∧Q+8≤P∧P+4≤4 * inp.length:=by omega
 have hset:=hsetG M i P (by omega) hP A
 obtain ⟨a1,a2,a3,a4⟩:=parts_lt A
 have hset0:∀ j,byteAt (M.set i (addPx A (predMode 0 L T TL TR))) j=if j=P+3 then (pA A+255) % 256 else byteAt M j:=fun j => by
  rw [show predMode 0 L T TL TR=4278190080 from rfl,hset 0 0 0 255 _ ⟨rfl,rfl,rfl,rfl⟩]
  by_cases h3:j=P+3
  ·rw [if_pos h3,if_pos h3]
  ·rw [if_neg h3,if_neg h3]
   by_cases h2:j=P+2
   ·rw [if_pos h2,h2,hA2];omega
   ·rw [if_neg h2]
    by_cases h1:j=P+1
    ·rw [if_pos h1,h1,hA1];omega
    ·rw [if_neg h1]
     by_cases h0:j=P+0
     ·rw [if_pos h0,h0,hA0];omega
     ·rw [if_neg h0]
 have hsetz:∀ j,byteAt (M.set i (addPx A 0)) j=byteAt M j:=fun j => by
  rw [hset 0 0 0 0 _ ⟨rfl,rfl,rfl,rfl⟩]
  by_cases h3:j=P+3
  ·rw [if_pos h3,h3,hA3];omega
  ·rw [if_neg h3]
   by_cases h2:j=P+2
   ·rw [if_pos h2,h2,hA2];omega
   ·rw [if_neg h2]
    by_cases h1:j=P+1
    ·rw [if_pos h1,h1,hA1];omega
    ·rw [if_neg h1]
     by_cases h0:j=P+0
     ·rw [if_pos h0,h0,hA0];omega
     ·rw [if_neg h0]
 clear hsetG a1 a2 a3 a4
 refine Cs (Cy (Lo O (YI (by assumption)) (Lt ?_)))
 refine VC.join (fun ρ w' => ρ 0=.pointer (some ⟨btr,off,none⟩)∧ρ 1=.slice (some ⟨bp,0,none⟩) (4 * inp.length) cap∧ρ 2=.int .i32 (ht:Nat)∧ρ 7=.int .i32 (P:Nat)∧ρ 8=.int .i32 ((2 ^ t.bits - 1:Nat):Int)∧ρ 10=.int .i64 (Q:Nat)∧ρ 11=.int .i32 (tp:Nat)∧ρ 12=.int .i32 (y:Nat) ∧
  ρ 13=.int .i32 ((4 * (tp * qy+(qx+1)):Nat):Int)∧ρ 14=.int .u8 (md:Nat)∧ρ 15=.int .i32 (x:Nat)∧St W [bp] [blkR bp (rowK .u8 (byteAt (M.set i (addPx A (predMode md L T TL TR)))) cap) 5] w') ?_ ?_
 case refine_1 =>
  clear hb2 hb9 hpl hp9 hp1 hp4 hinB htp2 hwi hyw hy0 hqy2 hmul hmul2 hYd hpl2 hti0 hti hdiv hand hxm hlt hxw hnq hil hil2 hlen hlc hpx hst hml hh hh2 hw hw2 hy1 hy hx1 hx hQ hP hi hqx hqy hY0 hand16 hpg hTw hTb hTp htp hF hmd hT hO hk
  refine Cb (Cy (Lo O (Y.eql O O) (Lo O (Y.asgB O) (Lt ?_))))
  by_cases hm0:md=0
  case pos =>
   as_aux_lemma =>
    subst hm0
    refine CT O (by omega) (Cr (Lo O (YS s1) (Lo O (YI s7) (Lo O (Y.add O O (n32 (b:=3) (by omega))) (Lo O (Y.ixS0 _ sl_24 O O O (by omega)) (Lo O (Y.ld (v:=.int .u8 (pA A:Nat)) ld_5 O (H.cell 0 O ((rowK_get (by omega)).trans (by rw [hA3])))) (Lo O (Y.add O O (nu8 (b:=255))) (Lo O (Y.ixS0 _ sl_24 O O O (by omega)) (VL.putR H 0 st_5 O O O (by omega) ?_)))))))))
    intro w H
    try simp only [List.set,List.eraseIdx] at H
    refine Ln (blk_n (tn ?_))
    rw [rowK_congr (g:=byteAt (M.set i (addPx A (predMode 0 L T TL TR)))) (fun j _ => hset0 j)] at H
    exact ⟨s0,s1,s2,s7,s8,s10,s11,s12,s13,s14,s15,H⟩
  case neg =>
  refine CF O (by omega) (Cy (Lo O (Y.eql O O) (Lo O (Y.asgB O) (Lt ?_))))
  by_cases hm1:md=1
  case pos =>
   as_aux_lemma =>
    subst hm1
    refine CT O (by omega) (Cs (VC.drawTail 12 mixedP (by kernel_rfl) ?_))
    intro w hsame
    replace H:=H.same hsame
    refine So O (YS s1) (So O (YI s7) (So O (Y.add O O (n32 (b:=0) (by omega))) (So O (Y.ixS0 _ sl_24 O O O (by omega)) (So O (Y.ld (v:=.int .u8 (pR A:Nat)) ld_5 O (H.cell 0 O ((rowK_get (by omega)).trans (by rw [hA0])))) (So O (YS s1) (So O (YI s7) (So O (Y.sub O O (s32 (b:=4) (by omega))) (So O (Y.ixS0 _ sl_24 O O O (by omega)) (So O (Y.ld (v:=.int .u8 (pR L:Nat)) ld_5 O (H.cell 0 O ((rowK_get (by omega)).trans (by rw [hL0])))) (So O (Y.add O O (nu8)) (So O (Y.ixS0 _ sl_24 O O O (by omega)) (Sn (VL.putR H 0 st_5 O O O (by omega) ?_)))))))))))))
    intro w H
    try simp only [List.set,List.eraseIdx] at H
    refine Lt (Cs (VC.drawTail 12 mixedP (by kernel_rfl) ?_))
    intro w hsame
    replace H:=H.same hsame
    refine So O (YS s1) (So O (YI s7) (So O (Y.add O O (n32 (b:=1) (by omega))) (So O (Y.ixS0 _ sl_24 O O O (by omega)) (So O (Y.ld (v:=.int .u8 (pG A:Nat)) ld_5 O (H.cell 0 O ((rowK_get (by omega)).trans (by rw [if_neg (by omega),hA1])))) (So O (YS s1) (So O (YI s7) (So O (Y.sub O O (s32 (b:=3) (by omega))) (So O (Y.ixS0 _ sl_24 O O O (by omega)) (So O (Y.ld (v:=.int .u8 (pG L:Nat)) ld_5 O (H.cell 0 O ((rowK_get (by omega)).trans (by rw [if_neg (by omega),hL1])))) (So O (Y.add O O (nu8)) (So O (Y.ixS0 _ sl_24 O O O (by omega)) (Sn (VL.putR H 0 st_5 O O O (by omega) ?_)))))))))))))
    intro w H
    try simp only [List.set,List.eraseIdx] at H
    refine Lt (Cs (VC.drawTail 12 mixedP (by kernel_rfl) ?_))
    intro w hsame
    replace H:=H.same hsame
    refine So O (YS s1) (So O (YI s7) (So O (Y.add O O (n32 (b:=2) (by omega))) (So O (Y.ixS0 _ sl_24 O O O (by omega)) (So O (Y.ld (v:=.int .u8 (pB A:Nat)) ld_5 O (H.cell 0 O ((rowK_get (by omega)).trans (by rw [if_neg (by omega),if_neg (by omega),hA2])))) (So O (YS s1) (So O (YI s7) (So O (Y.sub O O (s32 (b:=2) (by omega))) (So O (Y.ixS0 _ sl_24 O O O (by omega)) (So O (Y.ld (v:=.int .u8 (pB L:Nat)) ld_5 O (H.cell 0 O ((rowK_get (by omega)).trans (by rw [if_neg (by omega),if_neg (by omega),hL2])))) (So O (Y.add O O (nu8)) (So O (Y.ixS0 _ sl_24 O O O (by omega)) (Sn (VL.putR H 0 st_5 O O O (by omega) ?_)))))))))))))
    intro w H
    try simp only [List.set,List.eraseIdx] at H
    refine Lt (VC.drawTail 12 mixedP (by kernel_rfl) ?_)
    intro w hsame
    replace H:=H.same hsame
    refine So O (YS s1) (So O (YI s7) (So O (Y.add O O (n32 (b:=3) (by omega))) (So O (Y.ixS0 _ sl_24 O O O (by omega)) (So O (Y.ld (v:=.int .u8 (pA A:Nat)) ld_5 O (H.cell 0 O ((rowK_get (by omega)).trans (by rw [if_neg (by omega),if_neg (by omega),if_neg (by omega),hA3])))) (So O (YS s1) (So O (YI s7) (So O (Y.sub O O (s32 (b:=1) (by omega))) (So O (Y.ixS0 _ sl_24 O O O (by omega)) (So O (Y.ld (v:=.int .u8 (pA L:Nat)) ld_5 O (H.cell 0 O ((rowK_get (by omega)).trans (by rw [if_neg (by omega),if_neg (by omega),if_neg (by omega),hL3])))) (So O (Y.add O O (nu8)) (So O (Y.ixS0 _ sl_24 O O O (by omega)) (Sn (VL.putR H 0 st_5 O O O (by omega) ?_)))))))))))))
    intro w H
    try simp only [List.set,List.eraseIdx] at H
    refine Ln (blk_n (tn ?_))
    have hrow:∀ j,byteAt (M.set i (addPx A (predMode 1 L T TL TR))) j=if j=P+3 then (pA A+pA L) % 256 else if j=P+2 then (pB A+pB L) % 256 else if j=P+1 then (pG A+pG L) % 256 else if j=P+0 then (pR A+pR L) % 256 else byteAt M j:=fun j => hset _ _ _ _ _ (predMode_ch 1 L T TL TR (by decide)) j
    rw [rowK_congr (g:=byteAt (M.set i (addPx A (predMode 1 L T TL TR)))) (fun j _ => hrow j)] at H
    exact ⟨s0,s1,s2,s7,s8,s10,s11,s12,s13,s14,s15,H⟩
  case neg =>
  refine CF O (by omega) (Cy (Lo O (Y.eql O O) (Lo O (Y.asgB O) (Lt ?_))))
  by_cases hm2:md=2
  case pos =>
   as_aux_lemma =>
    subst hm2
    refine CT O (by omega) (Cs (VC.drawTail 12 mixedP (by kernel_rfl) ?_))
    intro w hsame
    replace H:=H.same hsame
    refine So O (YS s1) (So O (YI s7) (So O (Y.add O O (n32 (b:=0) (by omega))) (So O (Y.ixS0 _ sl_24 O O O (by omega)) (So O (Y.ld (v:=.int .u8 (pR A:Nat)) ld_5 O (H.cell 0 O ((rowK_get (by omega)).trans (by rw [hA0])))) (So O (YS s1) (So O (YI s10) (So O (Y.add O O (n64 (b:=0) (by omega))) (So O (Y.ixS0 _ sl_24 O O O (by omega)) (So O (Y.ld (v:=.int .u8 (pR T:Nat)) ld_5 O (H.cell 0 O ((rowK_get (by omega)).trans (by rw [hT0])))) (So O (Y.add O O (nu8)) (So O (Y.ixS0 _ sl_24 O O O (by omega)) (Sn (VL.putR H 0 st_5 O O O (by omega) ?_)))))))))))))
    intro w H
    try simp only [List.set,List.eraseIdx] at H
    refine Lt (Cs (VC.drawTail 12 mixedP (by kernel_rfl) ?_))
    intro w hsame
    replace H:=H.same hsame
    refine So O (YS s1) (So O (YI s7) (So O (Y.add O O (n32 (b:=1) (by omega))) (So O (Y.ixS0 _ sl_24 O O O (by omega)) (So O (Y.ld (v:=.int .u8 (pG A:Nat)) ld_5 O (H.cell 0 O ((rowK_get (by omega)).trans (by rw [if_neg (by omega),hA1])))) (So O (YS s1) (So O (YI s10) (So O (Y.add O O (n64 (b:=1) (by omega))) (So O (Y.ixS0 _ sl_24 O O O (by omega)) (So O (Y.ld (v:=.int .u8 (pG T:Nat)) ld_5 O (H.cell 0 O ((rowK_get (by omega)).trans (by rw [if_neg (by omega),hT1])))) (So O (Y.add O O (nu8)) (So O (Y.ixS0 _ sl_24 O O O (by omega)) (Sn (VL.putR H 0 st_5 O O O (by omega) ?_)))))))))))))
    intro w H
    try simp only [List.set,List.eraseIdx] at H
    refine Lt (Cs (VC.drawTail 12 mixedP (by kernel_rfl) ?_))
    intro w hsame
    replace H:=H.same hsame
    refine So O (YS s1) (So O (YI s7) (So O (Y.add O O (n32 (b:=2) (by omega))) (So O (Y.ixS0 _ sl_24 O O O (by omega)) (So O (Y.ld (v:=.int .u8 (pB A:Nat)) ld_5 O (H.cell 0 O ((rowK_get (by omega)).trans (by rw [if_neg (by omega),if_neg (by omega),hA2])))) (So O (YS s1) (So O (YI s10) (So O (Y.add O O (n64 (b:=2) (by omega))) (So O (Y.ixS0 _ sl_24 O O O (by omega)) (So O (Y.ld (v:=.int .u8 (pB T:Nat)) ld_5 O (H.cell 0 O ((rowK_get (by omega)).trans (by rw [if_neg (by omega),if_neg (by omega),hT2])))) (So O (Y.add O O (nu8)) (So O (Y.ixS0 _ sl_24 O O O (by omega)) (Sn (VL.putR H 0 st_5 O O O (by omega) ?_)))))))))))))
    intro w H
    try simp only [List.set,List.eraseIdx] at H
    refine Lt (VC.drawTail 12 mixedP (by kernel_rfl) ?_)
    intro w hsame
    replace H:=H.same hsame
    refine So O (YS s1) (So O (YI s7) (So O (Y.add O O (n32 (b:=3) (by omega))) (So O (Y.ixS0 _ sl_24 O O O (by omega)) (So O (Y.ld (v:=.int .u8 (pA A:Nat)) ld_5 O (H.cell 0 O ((rowK_get (by omega)).trans (by rw [if_neg (by omega),if_neg (by omega),if_neg (by omega),hA3])))) (So O (YS s1) (So O (YI s10) (So O (Y.add O O (n64 (b:=3) (by omega))) (So O (Y.ixS0 _ sl_24 O O O (by omega)) (So O (Y.ld (v:=.int .u8 (pA T:Nat)) ld_5 O (H.cell 0 O ((rowK_get (by omega)).trans (by rw [if_neg (by omega),if_neg (by omega),if_neg (by omega),hT3])))) (So O (Y.add O O (nu8)) (So O (Y.ixS0 _ sl_24 O O O (by omega)) (Sn (VL.putR H 0 st_5 O O O (by omega) ?_)))))))))))))
    intro w H
    try simp only [List.set,List.eraseIdx] at H
    refine Ln (blk_n (tn ?_))
    have hrow:∀ j,byteAt (M.set i (addPx A (predMode 2 L T TL TR))) j=if j=P+3 then (pA A+pA T) % 256 else if j=P+2 then (pB A+pB T) % 256 else if j=P+1 then (pG A+pG T) % 256 else if j=P+0 then (pR A+pR T) % 256 else byteAt M j:=fun j => hset _ _ _ _ _ (predMode_ch 2 L T TL TR (by decide)) j
    rw [rowK_congr (g:=byteAt (M.set i (addPx A (predMode 2 L T TL TR)))) (fun j _ => hrow j)] at H
    exact ⟨s0,s1,s2,s7,s8,s10,s11,s12,s13,s14,s15,H⟩
  case neg =>
  refine CF O (by omega) (Cy (Lo O (Y.eql O O) (Lo O (Y.asgB O) (Lt ?_))))
  by_cases hm3:md=3
  case pos =>
   as_aux_lemma =>
    subst hm3
    refine CT O (by omega) (Cs (VC.drawTail 12 mixedP (by kernel_rfl) ?_))
    intro w hsame
    replace H:=H.same hsame
    refine So O (YS s1) (So O (YI s7) (So O (Y.add O O (n32 (b:=0) (by omega))) (So O (Y.ixS0 _ sl_24 O O O (by omega)) (So O (Y.ld (v:=.int .u8 (pR A:Nat)) ld_5 O (H.cell 0 O ((rowK_get (by omega)).trans (by rw [hA0])))) (So O (YS s1) (So O (YI s10) (So O (Y.add O O (n64 (b:=4) (by omega))) (So O (Y.ixS0 _ sl_24 O O O (by omega)) (So O (Y.ld (v:=.int .u8 (pR TR:Nat)) ld_5 O (H.cell 0 O ((rowK_get (by omega)).trans (by rw [hTR0])))) (So O (Y.add O O (nu8)) (So O (Y.ixS0 _ sl_24 O O O (by omega)) (Sn (VL.putR H 0 st_5 O O O (by omega) ?_)))))))))))))
    intro w H
    try simp only [List.set,List.eraseIdx] at H
    refine Lt (Cs (VC.drawTail 12 mixedP (by kernel_rfl) ?_))
    intro w hsame
    replace H:=H.same hsame
    refine So O (YS s1) (So O (YI s7) (So O (Y.add O O (n32 (b:=1) (by omega))) (So O (Y.ixS0 _ sl_24 O O O (by omega)) (So O (Y.ld (v:=.int .u8 (pG A:Nat)) ld_5 O (H.cell 0 O ((rowK_get (by omega)).trans (by rw [if_neg (by omega),hA1])))) (So O (YS s1) (So O (YI s10) (So O (Y.add O O (n64 (b:=5) (by omega))) (So O (Y.ixS0 _ sl_24 O O O (by omega)) (So O (Y.ld (v:=.int .u8 (pG TR:Nat)) ld_5 O (H.cell 0 O ((rowK_get (by omega)).trans (by rw [if_neg (by omega),hTR1])))) (So O (Y.add O O (nu8)) (So O (Y.ixS0 _ sl_24 O O O (by omega)) (Sn (VL.putR H 0 st_5 O O O (by omega) ?_)))))))))))))
    intro w H
    try simp only [List.set,List.eraseIdx] at H
    refine Lt (Cs (VC.drawTail 12 mixedP (by kernel_rfl) ?_))
    intro w hsame
    replace H:=H.same hsame
    refine So O (YS s1) (So O (YI s7) (So O (Y.add O O (n32 (b:=2) (by omega))) (So O (Y.ixS0 _ sl_24 O O O (by omega)) (So O (Y.ld (v:=.int .u8 (pB A:Nat)) ld_5 O (H.cell 0 O ((rowK_get (by omega)).trans (by rw [if_neg (by omega),if_neg (by omega),hA2])))) (So O (YS s1) (So O (YI s10) (So O (Y.add O O (n64 (b:=6) (by omega))) (So O (Y.ixS0 _ sl_24 O O O (by omega)) (So O (Y.ld (v:=.int .u8 (pB TR:Nat)) ld_5 O (H.cell 0 O ((rowK_get (by omega)).trans (by rw [if_neg (by omega),if_neg (by omega),hTR2])))) (So O (Y.add O O (nu8)) (So O (Y.ixS0 _ sl_24 O O O (by omega)) (Sn (VL.putR H 0 st_5 O O O (by omega) ?_)))))))))))))
    intro w H
    try simp only [List.set,List.eraseIdx] at H
    refine Lt (VC.drawTail 12 mixedP (by kernel_rfl) ?_)
    intro w hsame
    replace H:=H.same hsame
    refine So O (YS s1) (So O (YI s7) (So O (Y.add O O (n32 (b:=3) (by omega))) (So O (Y.ixS0 _ sl_24 O O O (by omega)) (So O (Y.ld (v:=.int .u8 (pA A:Nat)) ld_5 O (H.cell 0 O ((rowK_get (by omega)).trans (by rw [if_neg (by omega),if_neg (by omega),if_neg (by omega),hA3])))) (So O (YS s1) (So O (YI s10) (So O (Y.add O O (n64 (b:=7) (by omega))) (So O (Y.ixS0 _ sl_24 O O O (by omega)) (So O (Y.ld (v:=.int .u8 (pA TR:Nat)) ld_5 O (H.cell 0 O ((rowK_get (by omega)).trans (by rw [if_neg (by omega),if_neg (by omega),if_neg (by omega),hTR3])))) (So O (Y.add O O (nu8)) (So O (Y.ixS0 _ sl_24 O O O (by omega)) (Sn (VL.putR H 0 st_5 O O O (by omega) ?_)))))))))))))
    intro w H
    try simp only [List.set,List.eraseIdx] at H
    refine Ln (blk_n (tn ?_))
    have hrow:∀ j,byteAt (M.set i (addPx A (predMode 3 L T TL TR))) j=if j=P+3 then (pA A+pA TR) % 256 else if j=P+2 then (pB A+pB TR) % 256 else if j=P+1 then (pG A+pG TR) % 256 else if j=P+0 then (pR A+pR TR) % 256 else byteAt M j:=fun j => hset _ _ _ _ _ (predMode_ch 3 L T TL TR (by decide)) j
    rw [rowK_congr (g:=byteAt (M.set i (addPx A (predMode 3 L T TL TR)))) (fun j _ => hrow j)] at H
    exact ⟨s0,s1,s2,s7,s8,s10,s11,s12,s13,s14,s15,H⟩
  case neg =>
  refine CF O (by omega) (Cy (Lo O (Y.eql O O) (Lo O (Y.asgB O) (Lt ?_))))
  by_cases hm4:md=4
  case pos =>
   as_aux_lemma =>
    subst hm4
    refine CT O (by omega) (Cs (VC.drawTail 12 mixedP (by kernel_rfl) ?_))
    intro w hsame
    replace H:=H.same hsame
    refine So O (YS s1) (So O (YI s7) (So O (Y.add O O (n32 (b:=0) (by omega))) (So O (Y.ixS0 _ sl_24 O O O (by omega)) (So O (Y.ld (v:=.int .u8 (pR A:Nat)) ld_5 O (H.cell 0 O ((rowK_get (by omega)).trans (by rw [hA0])))) (So O (YS s1) (So O (YI s10) (So O (Y.sub O O (s64 (b:=4) (by omega))) (So O (Y.ixS0 _ sl_24 O O O (by omega)) (So O (Y.ld (v:=.int .u8 (pR TL:Nat)) ld_5 O (H.cell 0 O ((rowK_get (by omega)).trans (by rw [hTL0])))) (So O (Y.add O O (nu8)) (So O (Y.ixS0 _ sl_24 O O O (by omega)) (Sn (VL.putR H 0 st_5 O O O (by omega) ?_)))))))))))))
    intro w H
    try simp only [List.set,List.eraseIdx] at H
    refine Lt (Cs (VC.drawTail 12 mixedP (by kernel_rfl) ?_))
    intro w hsame
    replace H:=H.same hsame
    refine So O (YS s1) (So O (YI s7) (So O (Y.add O O (n32 (b:=1) (by omega))) (So O (Y.ixS0 _ sl_24 O O O (by omega)) (So O (Y.ld (v:=.int .u8 (pG A:Nat)) ld_5 O (H.cell 0 O ((rowK_get (by omega)).trans (by rw [if_neg (by omega),hA1])))) (So O (YS s1) (So O (YI s10) (So O (Y.sub O O (s64 (b:=3) (by omega))) (So O (Y.ixS0 _ sl_24 O O O (by omega)) (So O (Y.ld (v:=.int .u8 (pG TL:Nat)) ld_5 O (H.cell 0 O ((rowK_get (by omega)).trans (by rw [if_neg (by omega),hTL1])))) (So O (Y.add O O (nu8)) (So O (Y.ixS0 _ sl_24 O O O (by omega)) (Sn (VL.putR H 0 st_5 O O O (by omega) ?_)))))))))))))
    intro w H
    try simp only [List.set,List.eraseIdx] at H
    refine Lt (Cs (VC.drawTail 12 mixedP (by kernel_rfl) ?_))
    intro w hsame
    replace H:=H.same hsame
    refine So O (YS s1) (So O (YI s7) (So O (Y.add O O (n32 (b:=2) (by omega))) (So O (Y.ixS0 _ sl_24 O O O (by omega)) (So O (Y.ld (v:=.int .u8 (pB A:Nat)) ld_5 O (H.cell 0 O ((rowK_get (by omega)).trans (by rw [if_neg (by omega),if_neg (by omega),hA2])))) (So O (YS s1) (So O (YI s10) (So O (Y.sub O O (s64 (b:=2) (by omega))) (So O (Y.ixS0 _ sl_24 O O O (by omega)) (So O (Y.ld (v:=.int .u8 (pB TL:Nat)) ld_5 O (H.cell 0 O ((rowK_get (by omega)).trans (by rw [if_neg (by omega),if_neg (by omega),hTL2])))) (So O (Y.add O O (nu8)) (So O (Y.ixS0 _ sl_24 O O O (by omega)) (Sn (VL.putR H 0 st_5 O O O (by omega) ?_)))))))))))))
    intro w H
    try simp only [List.set,List.eraseIdx] at H
    refine Lt (VC.drawTail 12 mixedP (by kernel_rfl) ?_)
    intro w hsame
    replace H:=H.same hsame
    refine So O (YS s1) (So O (YI s7) (So O (Y.add O O (n32 (b:=3) (by omega))) (So O (Y.ixS0 _ sl_24 O O O (by omega)) (So O (Y.ld (v:=.int .u8 (pA A:Nat)) ld_5 O (H.cell 0 O ((rowK_get (by omega)).trans (by rw [if_neg (by omega),if_neg (by omega),if_neg (by omega),hA3])))) (So O (YS s1) (So O (YI s10) (So O (Y.sub O O (s64 (b:=1) (by omega))) (So O (Y.ixS0 _ sl_24 O O O (by omega)) (So O (Y.ld (v:=.int .u8 (pA TL:Nat)) ld_5 O (H.cell 0 O ((rowK_get (by omega)).trans (by rw [if_neg (by omega),if_neg (by omega),if_neg (by omega),hTL3])))) (So O (Y.add O O (nu8)) (So O (Y.ixS0 _ sl_24 O O O (by omega)) (Sn (VL.putR H 0 st_5 O O O (by omega) ?_)))))))))))))
    intro w H
    try simp only [List.set,List.eraseIdx] at H
    refine Ln (blk_n (tn ?_))
    have hrow:∀ j,byteAt (M.set i (addPx A (predMode 4 L T TL TR))) j=if j=P+3 then (pA A+pA TL) % 256 else if j=P+2 then (pB A+pB TL) % 256 else if j=P+1 then (pG A+pG TL) % 256 else if j=P+0 then (pR A+pR TL) % 256 else byteAt M j:=fun j => hset _ _ _ _ _ (predMode_ch 4 L T TL TR (by decide)) j
    rw [rowK_congr (g:=byteAt (M.set i (addPx A (predMode 4 L T TL TR)))) (fun j _ => hrow j)] at H
    exact ⟨s0,s1,s2,s7,s8,s10,s11,s12,s13,s14,s15,H⟩
  case neg =>
  refine CF O (by omega) (Cy (Lo O (Y.eql O O) (Lo O (Y.asgB O) (Lt ?_))))
  by_cases hm5:md=5
  case pos =>
   as_aux_lemma =>
    subst hm5
    refine CT O (by omega) (Cs (VC.drawTail 24 mixedP (by kernel_rfl) ?_))
    intro w hsame
    replace H:=H.same hsame
    refine So O (YS s1) (So O (YI s7) (So O (Y.add O O (n32 (b:=0) (by omega))) (So O (Y.ixS0 _ sl_24 O O O (by omega)) (So O (Y.ld (v:=.int .u8 (pR A:Nat)) ld_5 O (H.cell 0 O ((rowK_get (by omega)).trans (by rw [hA0])))) (So O (YS s1) (So O (YI s7) (So O (Y.sub O O (s32 (b:=4) (by omega))) (So O (Y.ixS0 _ sl_24 O O O (by omega)) (So O (Y.ld (v:=.int .u8 (pR L:Nat)) ld_5 O (H.cell 0 O ((rowK_get (by omega)).trans (by rw [hL0])))) (So O (YS s1) (So O (YI s10) (So O (Y.add O O (n64 (b:=4) (by omega))) (So O (Y.ixS0 _ sl_24 O O O (by omega)) (So O (Y.ld (v:=.int .u8 (pR TR:Nat)) ld_5 O (H.cell 0 O ((rowK_get (by omega)).trans (by rw [hTR0])))) (VS.call O ent_120 (avg2_any _ _ _ (by assumption) (by assumption)) O (So O (YS s1) (So O (YI s10) (So O (Y.add O O (n64 (b:=0) (by omega))) (So O (Y.ixS0 _ sl_24 O O O (by omega)) ?_)))))))))))))))))))
    refine So O (Y.ld (v:=.int .u8 (pR T:Nat)) ld_5 O (H.cell 0 O ((rowK_get (by omega)).trans (by rw [hT0])))) (VS.call O ent_120 (avg2_any _ _ _ (avg_lt (by assumption) (by assumption)) (by assumption)) O (So O (Y.add O O (nu8)) (So O (Y.ixS0 _ sl_24 O O O (by omega)) (Sn (VL.putR H 0 st_5 O O O (by omega) ?_)))))
    intro w H
    try simp only [List.set,List.eraseIdx] at H
    refine Lt (Cs (VC.drawTail 24 mixedP (by kernel_rfl) ?_))
    intro w hsame
    replace H:=H.same hsame
    refine So O (YS s1) (So O (YI s7) (So O (Y.add O O (n32 (b:=1) (by omega))) (So O (Y.ixS0 _ sl_24 O O O (by omega)) (So O (Y.ld (v:=.int .u8 (pG A:Nat)) ld_5 O (H.cell 0 O ((rowK_get (by omega)).trans (by rw [if_neg (by omega),hA1])))) (So O (YS s1) (So O (YI s7) (So O (Y.sub O O (s32 (b:=3) (by omega))) (So O (Y.ixS0 _ sl_24 O O O (by omega)) (So O (Y.ld (v:=.int .u8 (pG L:Nat)) ld_5 O (H.cell 0 O ((rowK_get (by omega)).trans (by rw [if_neg (by omega),hL1])))) (So O (YS s1) (So O (YI s10) (So O (Y.add O O (n64 (b:=5) (by omega))) (So O (Y.ixS0 _ sl_24 O O O (by omega)) (So O (Y.ld (v:=.int .u8 (pG TR:Nat)) ld_5 O (H.cell 0 O ((rowK_get (by omega)).trans (by rw [if_neg (by omega),hTR1])))) (VS.call O ent_120 (avg2_any _ _ _ (by assumption) (by assumption)) O (So O (YS s1) (So O (YI s10) (So O (Y.add O O (n64 (b:=1) (by omega))) (So O (Y.ixS0 _ sl_24 O O O (by omega)) ?_)))))))))))))))))))
    refine So O (Y.ld (v:=.int .u8 (pG T:Nat)) ld_5 O (H.cell 0 O ((rowK_get (by omega)).trans (by rw [if_neg (by omega),hT1])))) (VS.call O ent_120 (avg2_any _ _ _ (avg_lt (by assumption) (by assumption)) (by assumption)) O (So O (Y.add O O (nu8)) (So O (Y.ixS0 _ sl_24 O O O (by omega)) (Sn (VL.putR H 0 st_5 O O O (by omega) ?_)))))
    intro w H
    try simp only [List.set,List.eraseIdx] at H
    refine Lt (Cs (VC.drawTail 24 mixedP (by kernel_rfl) ?_))
    intro w hsame
    replace H:=H.same hsame
    refine So O (YS s1) (So O (YI s7) (So O (Y.add O O (n32 (b:=2) (by omega))) (So O (Y.ixS0 _ sl_24 O O O (by omega)) (So O (Y.ld (v:=.int .u8 (pB A:Nat)) ld_5 O (H.cell 0 O ((rowK_get (by omega)).trans (by rw [if_neg (by omega),if_neg (by omega),hA2])))) (So O (YS s1) (So O (YI s7) (So O (Y.sub O O (s32 (b:=2) (by omega))) (So O (Y.ixS0 _ sl_24 O O O (by omega)) (So O (Y.ld (v:=.int .u8 (pB L:Nat)) ld_5 O (H.cell 0 O ((rowK_get (by omega)).trans (by rw [if_neg (by omega),if_neg (by omega),hL2])))) (So O (YS s1) (So O (YI s10) (So O (Y.add O O (n64 (b:=6) (by omega))) (So O (Y.ixS0 _ sl_24 O O O (by omega)) (So O (Y.ld (v:=.int .u8 (pB TR:Nat)) ld_5 O (H.cell 0 O ((rowK_get (by omega)).trans (by rw [if_neg (by omega),if_neg (by omega),hTR2])))) (VS.call O ent_120 (avg2_any _ _ _ (by assumption) (by assumption)) O (So O (YS s1) (So O (YI s10) (So O (Y.add O O (n64 (b:=2) (by omega))) (So O (Y.ixS0 _ sl_24 O O O (by omega)) ?_)))))))))))))))))))
    refine So O (Y.ld (v:=.int .u8 (pB T:Nat)) ld_5 O (H.cell 0 O ((rowK_get (by omega)).trans (by rw [if_neg (by omega),if_neg (by omega),hT2])))) (VS.call O ent_120 (avg2_any _ _ _ (avg_lt (by assumption) (by assumption)) (by assumption)) O (So O (Y.add O O (nu8)) (So O (Y.ixS0 _ sl_24 O O O (by omega)) (Sn (VL.putR H 0 st_5 O O O (by omega) ?_)))))
    intro w H
    try simp only [List.set,List.eraseIdx] at H
    refine Lt (VC.drawTail 24 mixedP (by kernel_rfl) ?_)
    intro w hsame
    replace H:=H.same hsame
    refine So O (YS s1) (So O (YI s7) (So O (Y.add O O (n32 (b:=3) (by omega))) (So O (Y.ixS0 _ sl_24 O O O (by omega)) (So O (Y.ld (v:=.int .u8 (pA A:Nat)) ld_5 O (H.cell 0 O ((rowK_get (by omega)).trans (by rw [if_neg (by omega),if_neg (by omega),if_neg (by omega),hA3])))) (So O (YS s1) (So O (YI s7) (So O (Y.sub O O (s32 (b:=1) (by omega))) (So O (Y.ixS0 _ sl_24 O O O (by omega)) (So O (Y.ld (v:=.int .u8 (pA L:Nat)) ld_5 O (H.cell 0 O ((rowK_get (by omega)).trans (by rw [if_neg (by omega),if_neg (by omega),if_neg (by omega),hL3])))) (So O (YS s1) (So O (YI s10) (So O (Y.add O O (n64 (b:=7) (by omega))) (So O (Y.ixS0 _ sl_24 O O O (by omega)) (So O (Y.ld (v:=.int .u8 (pA TR:Nat)) ld_5 O (H.cell 0 O ((rowK_get (by omega)).trans (by rw [if_neg (by omega),if_neg (by omega),if_neg (by omega),hTR3])))) (VS.call O ent_120 (avg2_any _ _ _ (by assumption) (by assumption)) O (So O (YS s1) (So O (YI s10) (So O (Y.add O O (n64 (b:=3) (by omega))) (So O (Y.ixS0 _ sl_24 O O O (by omega)) ?_)))))))))))))))))))
    refine So O (Y.ld (v:=.int .u8 (pA T:Nat)) ld_5 O (H.cell 0 O ((rowK_get (by omega)).trans (by rw [if_neg (by omega),if_neg (by omega),if_neg (by omega),hT3])))) (VS.call O ent_120 (avg2_any _ _ _ (avg_lt (by assumption) (by assumption)) (by assumption)) O (So O (Y.add O O (nu8)) (So O (Y.ixS0 _ sl_24 O O O (by omega)) (Sn (VL.putR H 0 st_5 O O O (by omega) ?_)))))
    intro w H
    try simp only [List.set,List.eraseIdx] at H
    refine Ln (blk_n (tn ?_))
    have hrow:∀ j,byteAt (M.set i (addPx A (predMode 5 L T TL TR))) j=if j=P+3 then (pA A+avg (avg (pA L) (pA TR)) (pA T)) % 256 else if j=P+2 then (pB A+avg (avg (pB L) (pB TR)) (pB T)) % 256 else if j=P+1 then (pG A+avg (avg (pG L) (pG TR)) (pG T)) % 256 else if j=P+0 then (pR A+avg (avg (pR L) (pR TR)) (pR T)) % 256 else byteAt M j:=fun j => hset _ _ _ _ _ (predMode_ch 5 L T TL TR (by decide)) j
    rw [rowK_congr (g:=byteAt (M.set i (addPx A (predMode 5 L T TL TR)))) (fun j _ => hrow j)] at H
    exact ⟨s0,s1,s2,s7,s8,s10,s11,s12,s13,s14,s15,H⟩
  case neg =>
  refine CF O (by omega) (Cy (Lo O (Y.eql O O) (Lo O (Y.asgB O) (Lt ?_))))
  by_cases hm6:md=6
  case pos =>
   as_aux_lemma =>
    subst hm6
    refine CT O (by omega) (Cs (VC.drawTail 18 mixedP (by kernel_rfl) ?_))
    intro w hsame
    replace H:=H.same hsame
    refine So O (YS s1) (So O (YI s7) (So O (Y.add O O (n32 (b:=0) (by omega))) (So O (Y.ixS0 _ sl_24 O O O (by omega)) (So O (Y.ld (v:=.int .u8 (pR A:Nat)) ld_5 O (H.cell 0 O ((rowK_get (by omega)).trans (by rw [hA0])))) (So O (YS s1) (So O (YI s7) (So O (Y.sub O O (s32 (b:=4) (by omega))) (So O (Y.ixS0 _ sl_24 O O O (by omega)) (So O (Y.ld (v:=.int .u8 (pR L:Nat)) ld_5 O (H.cell 0 O ((rowK_get (by omega)).trans (by rw [hL0])))) (So O (YS s1) (So O (YI s10) (So O (Y.sub O O (s64 (b:=4) (by omega))) (So O (Y.ixS0 _ sl_24 O O O (by omega)) (So O (Y.ld (v:=.int .u8 (pR TL:Nat)) ld_5 O (H.cell 0 O ((rowK_get (by omega)).trans (by rw [hTL0])))) (VS.call O ent_120 (avg2_any _ _ _ (by assumption) (by assumption)) O (So O (Y.add O O (nu8)) (So O (Y.ixS0 _ sl_24 O O O (by omega)) (Sn (VL.putR H 0 st_5 O O O (by omega) ?_)))))))))))))))))))
    intro w H
    try simp only [List.set,List.eraseIdx] at H
    refine Lt (Cs (VC.drawTail 18 mixedP (by kernel_rfl) ?_))
    intro w hsame
    replace H:=H.same hsame
    refine So O (YS s1) (So O (YI s7) (So O (Y.add O O (n32 (b:=1) (by omega))) (So O (Y.ixS0 _ sl_24 O O O (by omega)) (So O (Y.ld (v:=.int .u8 (pG A:Nat)) ld_5 O (H.cell 0 O ((rowK_get (by omega)).trans (by rw [if_neg (by omega),hA1])))) (So O (YS s1) (So O (YI s7) (So O (Y.sub O O (s32 (b:=3) (by omega))) (So O (Y.ixS0 _ sl_24 O O O (by omega)) (So O (Y.ld (v:=.int .u8 (pG L:Nat)) ld_5 O (H.cell 0 O ((rowK_get (by omega)).trans (by rw [if_neg (by omega),hL1])))) (So O (YS s1) (So O (YI s10) (So O (Y.sub O O (s64 (b:=3) (by omega))) (So O (Y.ixS0 _ sl_24 O O O (by omega)) (So O (Y.ld (v:=.int .u8 (pG TL:Nat)) ld_5 O (H.cell 0 O ((rowK_get (by omega)).trans (by rw [if_neg (by omega),hTL1])))) (VS.call O ent_120 (avg2_any _ _ _ (by assumption) (by assumption)) O (So O (Y.add O O (nu8)) (So O (Y.ixS0 _ sl_24 O O O (by omega)) (Sn (VL.putR H 0 st_5 O O O (by omega) ?_)))))))))))))))))))
    intro w H
    try simp only [List.set,List.eraseIdx] at H
    refine Lt (Cs (VC.drawTail 18 mixedP (by kernel_rfl) ?_))
    intro w hsame
    replace H:=H.same hsame
    refine So O (YS s1) (So O (YI s7) (So O (Y.add O O (n32 (b:=2) (by omega))) (So O (Y.ixS0 _ sl_24 O O O (by omega)) (So O (Y.ld (v:=.int .u8 (pB A:Nat)) ld_5 O (H.cell 0 O ((rowK_get (by omega)).trans (by rw [if_neg (by omega),if_neg (by omega),hA2])))) (So O (YS s1) (So O (YI s7) (So O (Y.sub O O (s32 (b:=2) (by omega))) (So O (Y.ixS0 _ sl_24 O O O (by omega)) (So O (Y.ld (v:=.int .u8 (pB L:Nat)) ld_5 O (H.cell 0 O ((rowK_get (by omega)).trans (by rw [if_neg (by omega),if_neg (by omega),hL2])))) (So O (YS s1) (So O (YI s10) (So O (Y.sub O O (s64 (b:=2) (by omega))) (So O (Y.ixS0 _ sl_24 O O O (by omega)) (So O (Y.ld (v:=.int .u8 (pB TL:Nat)) ld_5 O (H.cell 0 O ((rowK_get (by omega)).trans (by rw [if_neg (by omega),if_neg (by omega),hTL2])))) (VS.call O ent_120 (avg2_any _ _ _ (by assumption) (by assumption)) O (So O (Y.add O O (nu8)) (So O (Y.ixS0 _ sl_24 O O O (by omega)) (Sn (VL.putR H 0 st_5 O O O (by omega) ?_)))))))))))))))))))
    intro w H
    try simp only [List.set,List.eraseIdx] at H
    refine Lt (VC.drawTail 18 mixedP (by kernel_rfl) ?_)
    intro w hsame
    replace H:=H.same hsame
    refine So O (YS s1) (So O (YI s7) (So O (Y.add O O (n32 (b:=3) (by omega))) (So O (Y.ixS0 _ sl_24 O O O (by omega)) (So O (Y.ld (v:=.int .u8 (pA A:Nat)) ld_5 O (H.cell 0 O ((rowK_get (by omega)).trans (by rw [if_neg (by omega),if_neg (by omega),if_neg (by omega),hA3])))) (So O (YS s1) (So O (YI s7) (So O (Y.sub O O (s32 (b:=1) (by omega))) (So O (Y.ixS0 _ sl_24 O O O (by omega)) (So O (Y.ld (v:=.int .u8 (pA L:Nat)) ld_5 O (H.cell 0 O ((rowK_get (by omega)).trans (by rw [if_neg (by omega),if_neg (by omega),if_neg (by omega),hL3])))) (So O (YS s1) (So O (YI s10) (So O (Y.sub O O (s64 (b:=1) (by omega))) (So O (Y.ixS0 _ sl_24 O O O (by omega)) (So O (Y.ld (v:=.int .u8 (pA TL:Nat)) ld_5 O (H.cell 0 O ((rowK_get (by omega)).trans (by rw [if_neg (by omega),if_neg (by omega),if_neg (by omega),hTL3])))) (VS.call O ent_120 (avg2_any _ _ _ (by assumption) (by assumption)) O (So O (Y.add O O (nu8)) (So O (Y.ixS0 _ sl_24 O O O (by omega)) (Sn (VL.putR H 0 st_5 O O O (by omega) ?_)))))))))))))))))))
    intro w H
    try simp only [List.set,List.eraseIdx] at H
    refine Ln (blk_n (tn ?_))
    have hrow:∀ j,byteAt (M.set i (addPx A (predMode 6 L T TL TR))) j=if j=P+3 then (pA A+avg (pA L) (pA TL)) % 256 else if j=P+2 then (pB A+avg (pB L) (pB TL)) % 256 else if j=P+1 then (pG A+avg (pG L) (pG TL)) % 256 else if j=P+0 then (pR A+avg (pR L) (pR TL)) % 256 else byteAt M j:=fun j => hset _ _ _ _ _ (predMode_ch 6 L T TL TR (by decide)) j
    rw [rowK_congr (g:=byteAt (M.set i (addPx A (predMode 6 L T TL TR)))) (fun j _ => hrow j)] at H
    exact ⟨s0,s1,s2,s7,s8,s10,s11,s12,s13,s14,s15,H⟩
  case neg =>
  refine CF O (by omega) (Cy (Lo O (Y.eql O O) (Lo O (Y.asgB O) (Lt ?_))))
  by_cases hm7:md=7
  case pos =>
   as_aux_lemma =>
    subst hm7
    refine CT O (by omega) (Cs (VC.drawTail 18 mixedP (by kernel_rfl) ?_))
    intro w hsame
    replace H:=H.same hsame
    refine So O (YS s1) (So O (YI s7) (So O (Y.add O O (n32 (b:=0) (by omega))) (So O (Y.ixS0 _ sl_24 O O O (by omega)) (So O (Y.ld (v:=.int .u8 (pR A:Nat)) ld_5 O (H.cell 0 O ((rowK_get (by omega)).trans (by rw [hA0])))) (So O (YS s1) (So O (YI s7) (So O (Y.sub O O (s32 (b:=4) (by omega))) (So O (Y.ixS0 _ sl_24 O O O (by omega)) (So O (Y.ld (v:=.int .u8 (pR L:Nat)) ld_5 O (H.cell 0 O ((rowK_get (by omega)).trans (by rw [hL0])))) (So O (YS s1) (So O (YI s10) (So O (Y.add O O (n64 (b:=0) (by omega))) (So O (Y.ixS0 _ sl_24 O O O (by omega)) (So O (Y.ld (v:=.int .u8 (pR T:Nat)) ld_5 O (H.cell 0 O ((rowK_get (by omega)).trans (by rw [hT0])))) (VS.call O ent_120 (avg2_any _ _ _ (by assumption) (by assumption)) O (So O (Y.add O O (nu8)) (So O (Y.ixS0 _ sl_24 O O O (by omega)) (Sn (VL.putR H 0 st_5 O O O (by omega) ?_)))))))))))))))))))
    intro w H
    try simp only [List.set,List.eraseIdx] at H
    refine Lt (Cs (VC.drawTail 18 mixedP (by kernel_rfl) ?_))
    intro w hsame
    replace H:=H.same hsame
    refine So O (YS s1) (So O (YI s7) (So O (Y.add O O (n32 (b:=1) (by omega))) (So O (Y.ixS0 _ sl_24 O O O (by omega)) (So O (Y.ld (v:=.int .u8 (pG A:Nat)) ld_5 O (H.cell 0 O ((rowK_get (by omega)).trans (by rw [if_neg (by omega),hA1])))) (So O (YS s1) (So O (YI s7) (So O (Y.sub O O (s32 (b:=3) (by omega))) (So O (Y.ixS0 _ sl_24 O O O (by omega)) (So O (Y.ld (v:=.int .u8 (pG L:Nat)) ld_5 O (H.cell 0 O ((rowK_get (by omega)).trans (by rw [if_neg (by omega),hL1])))) (So O (YS s1) (So O (YI s10) (So O (Y.add O O (n64 (b:=1) (by omega))) (So O (Y.ixS0 _ sl_24 O O O (by omega)) (So O (Y.ld (v:=.int .u8 (pG T:Nat)) ld_5 O (H.cell 0 O ((rowK_get (by omega)).trans (by rw [if_neg (by omega),hT1])))) (VS.call O ent_120 (avg2_any _ _ _ (by assumption) (by assumption)) O (So O (Y.add O O (nu8)) (So O (Y.ixS0 _ sl_24 O O O (by omega)) (Sn (VL.putR H 0 st_5 O O O (by omega) ?_)))))))))))))))))))
    intro w H
    try simp only [List.set,List.eraseIdx] at H
    refine Lt (Cs (VC.drawTail 18 mixedP (by kernel_rfl) ?_))
    intro w hsame
    replace H:=H.same hsame
    refine So O (YS s1) (So O (YI s7) (So O (Y.add O O (n32 (b:=2) (by omega))) (So O (Y.ixS0 _ sl_24 O O O (by omega)) (So O (Y.ld (v:=.int .u8 (pB A:Nat)) ld_5 O (H.cell 0 O ((rowK_get (by omega)).trans (by rw [if_neg (by omega),if_neg (by omega),hA2])))) (So O (YS s1) (So O (YI s7) (So O (Y.sub O O (s32 (b:=2) (by omega))) (So O (Y.ixS0 _ sl_24 O O O (by omega)) (So O (Y.ld (v:=.int .u8 (pB L:Nat)) ld_5 O (H.cell 0 O ((rowK_get (by omega)).trans (by rw [if_neg (by omega),if_neg (by omega),hL2])))) (So O (YS s1) (So O (YI s10) (So O (Y.add O O (n64 (b:=2) (by omega))) (So O (Y.ixS0 _ sl_24 O O O (by omega)) (So O (Y.ld (v:=.int .u8 (pB T:Nat)) ld_5 O (H.cell 0 O ((rowK_get (by omega)).trans (by rw [if_neg (by omega),if_neg (by omega),hT2])))) (VS.call O ent_120 (avg2_any _ _ _ (by assumption) (by assumption)) O (So O (Y.add O O (nu8)) (So O (Y.ixS0 _ sl_24 O O O (by omega)) (Sn (VL.putR H 0 st_5 O O O (by omega) ?_)))))))))))))))))))
    intro w H
    try simp only [List.set,List.eraseIdx] at H
    refine Lt (VC.drawTail 18 mixedP (by kernel_rfl) ?_)
    intro w hsame
    replace H:=H.same hsame
    refine So O (YS s1) (So O (YI s7) (So O (Y.add O O (n32 (b:=3) (by omega))) (So O (Y.ixS0 _ sl_24 O O O (by omega)) (So O (Y.ld (v:=.int .u8 (pA A:Nat)) ld_5 O (H.cell 0 O ((rowK_get (by omega)).trans (by rw [if_neg (by omega),if_neg (by omega),if_neg (by omega),hA3])))) (So O (YS s1) (So O (YI s7) (So O (Y.sub O O (s32 (b:=1) (by omega))) (So O (Y.ixS0 _ sl_24 O O O (by omega)) (So O (Y.ld (v:=.int .u8 (pA L:Nat)) ld_5 O (H.cell 0 O ((rowK_get (by omega)).trans (by rw [if_neg (by omega),if_neg (by omega),if_neg (by omega),hL3])))) (So O (YS s1) (So O (YI s10) (So O (Y.add O O (n64 (b:=3) (by omega))) (So O (Y.ixS0 _ sl_24 O O O (by omega)) (So O (Y.ld (v:=.int .u8 (pA T:Nat)) ld_5 O (H.cell 0 O ((rowK_get (by omega)).trans (by rw [if_neg (by omega),if_neg (by omega),if_neg (by omega),hT3])))) (VS.call O ent_120 (avg2_any _ _ _ (by assumption) (by assumption)) O (So O (Y.add O O (nu8)) (So O (Y.ixS0 _ sl_24 O O O (by omega)) (Sn (VL.putR H 0 st_5 O O O (by omega) ?_)))))))))))))))))))
    intro w H
    try simp only [List.set,List.eraseIdx] at H
    refine Ln (blk_n (tn ?_))
    have hrow:∀ j,byteAt (M.set i (addPx A (predMode 7 L T TL TR))) j=if j=P+3 then (pA A+avg (pA L) (pA T)) % 256 else if j=P+2 then (pB A+avg (pB L) (pB T)) % 256 else if j=P+1 then (pG A+avg (pG L) (pG T)) % 256 else if j=P+0 then (pR A+avg (pR L) (pR T)) % 256 else byteAt M j:=fun j => hset _ _ _ _ _ (predMode_ch 7 L T TL TR (by decide)) j
    rw [rowK_congr (g:=byteAt (M.set i (addPx A (predMode 7 L T TL TR)))) (fun j _ => hrow j)] at H
    exact ⟨s0,s1,s2,s7,s8,s10,s11,s12,s13,s14,s15,H⟩
  case neg =>
  refine CF O (by omega) (Cy (Lo O (Y.eql O O) (Lo O (Y.asgB O) (Lt ?_))))
  by_cases hm8:md=8
  case pos =>
   as_aux_lemma =>
    subst hm8
    refine CT O (by omega) (Cs (VC.drawTail 18 mixedP (by kernel_rfl) ?_))
    intro w hsame
    replace H:=H.same hsame
    refine So O (YS s1) (So O (YI s7) (So O (Y.add O O (n32 (b:=0) (by omega))) (So O (Y.ixS0 _ sl_24 O O O (by omega)) (So O (Y.ld (v:=.int .u8 (pR A:Nat)) ld_5 O (H.cell 0 O ((rowK_get (by omega)).trans (by rw [hA0])))) (So O (YS s1) (So O (YI s10) (So O (Y.sub O O (s64 (b:=4) (by omega))) (So O (Y.ixS0 _ sl_24 O O O (by omega)) (So O (Y.ld (v:=.int .u8 (pR TL:Nat)) ld_5 O (H.cell 0 O ((rowK_get (by omega)).trans (by rw [hTL0])))) (So O (YS s1) (So O (YI s10) (So O (Y.add O O (n64 (b:=0) (by omega))) (So O (Y.ixS0 _ sl_24 O O O (by omega)) (So O (Y.ld (v:=.int .u8 (pR T:Nat)) ld_5 O (H.cell 0 O ((rowK_get (by omega)).trans (by rw [hT0])))) (VS.call O ent_120 (avg2_any _ _ _ (by assumption) (by assumption)) O (So O (Y.add O O (nu8)) (So O (Y.ixS0 _ sl_24 O O O (by omega)) (Sn (VL.putR H 0 st_5 O O O (by omega) ?_)))))))))))))))))))
    intro w H
    try simp only [List.set,List.eraseIdx] at H
    refine Lt (Cs (VC.drawTail 18 mixedP (by kernel_rfl) ?_))
    intro w hsame
    replace H:=H.same hsame
    refine So O (YS s1) (So O (YI s7) (So O (Y.add O O (n32 (b:=1) (by omega))) (So O (Y.ixS0 _ sl_24 O O O (by omega)) (So O (Y.ld (v:=.int .u8 (pG A:Nat)) ld_5 O (H.cell 0 O ((rowK_get (by omega)).trans (by rw [if_neg (by omega),hA1])))) (So O (YS s1) (So O (YI s10) (So O (Y.sub O O (s64 (b:=3) (by omega))) (So O (Y.ixS0 _ sl_24 O O O (by omega)) (So O (Y.ld (v:=.int .u8 (pG TL:Nat)) ld_5 O (H.cell 0 O ((rowK_get (by omega)).trans (by rw [if_neg (by omega),hTL1])))) (So O (YS s1) (So O (YI s10) (So O (Y.add O O (n64 (b:=1) (by omega))) (So O (Y.ixS0 _ sl_24 O O O (by omega)) (So O (Y.ld (v:=.int .u8 (pG T:Nat)) ld_5 O (H.cell 0 O ((rowK_get (by omega)).trans (by rw [if_neg (by omega),hT1])))) (VS.call O ent_120 (avg2_any _ _ _ (by assumption) (by assumption)) O (So O (Y.add O O (nu8)) (So O (Y.ixS0 _ sl_24 O O O (by omega)) (Sn (VL.putR H 0 st_5 O O O (by omega) ?_)))))))))))))))))))
    intro w H
    try simp only [List.set,List.eraseIdx] at H
    refine Lt (Cs (VC.drawTail 18 mixedP (by kernel_rfl) ?_))
    intro w hsame
    replace H:=H.same hsame
    refine So O (YS s1) (So O (YI s7) (So O (Y.add O O (n32 (b:=2) (by omega))) (So O (Y.ixS0 _ sl_24 O O O (by omega)) (So O (Y.ld (v:=.int .u8 (pB A:Nat)) ld_5 O (H.cell 0 O ((rowK_get (by omega)).trans (by rw [if_neg (by omega),if_neg (by omega),hA2])))) (So O (YS s1) (So O (YI s10) (So O (Y.sub O O (s64 (b:=2) (by omega))) (So O (Y.ixS0 _ sl_24 O O O (by omega)) (So O (Y.ld (v:=.int .u8 (pB TL:Nat)) ld_5 O (H.cell 0 O ((rowK_get (by omega)).trans (by rw [if_neg (by omega),if_neg (by omega),hTL2])))) (So O (YS s1) (So O (YI s10) (So O (Y.add O O (n64 (b:=2) (by omega))) (So O (Y.ixS0 _ sl_24 O O O (by omega)) (So O (Y.ld (v:=.int .u8 (pB T:Nat)) ld_5 O (H.cell 0 O ((rowK_get (by omega)).trans (by rw [if_neg (by omega),if_neg (by omega),hT2])))) (VS.call O ent_120 (avg2_any _ _ _ (by assumption) (by assumption)) O (So O (Y.add O O (nu8)) (So O (Y.ixS0 _ sl_24 O O O (by omega)) (Sn (VL.putR H 0 st_5 O O O (by omega) ?_)))))))))))))))))))
    intro w H
    try simp only [List.set,List.eraseIdx] at H
    refine Lt (VC.drawTail 18 mixedP (by kernel_rfl) ?_)
    intro w hsame
    replace H:=H.same hsame
    refine So O (YS s1) (So O (YI s7) (So O (Y.add O O (n32 (b:=3) (by omega))) (So O (Y.ixS0 _ sl_24 O O O (by omega)) (So O (Y.ld (v:=.int .u8 (pA A:Nat)) ld_5 O (H.cell 0 O ((rowK_get (by omega)).trans (by rw [if_neg (by omega),if_neg (by omega),if_neg (by omega),hA3])))) (So O (YS s1) (So O (YI s10) (So O (Y.sub O O (s64 (b:=1) (by omega))) (So O (Y.ixS0 _ sl_24 O O O (by omega)) (So O (Y.ld (v:=.int .u8 (pA TL:Nat)) ld_5 O (H.cell 0 O ((rowK_get (by omega)).trans (by rw [if_neg (by omega),if_neg (by omega),if_neg (by omega),hTL3])))) (So O (YS s1) (So O (YI s10) (So O (Y.add O O (n64 (b:=3) (by omega))) (So O (Y.ixS0 _ sl_24 O O O (by omega)) (So O (Y.ld (v:=.int .u8 (pA T:Nat)) ld_5 O (H.cell 0 O ((rowK_get (by omega)).trans (by rw [if_neg (by omega),if_neg (by omega),if_neg (by omega),hT3])))) (VS.call O ent_120 (avg2_any _ _ _ (by assumption) (by assumption)) O (So O (Y.add O O (nu8)) (So O (Y.ixS0 _ sl_24 O O O (by omega)) (Sn (VL.putR H 0 st_5 O O O (by omega) ?_)))))))))))))))))))
    intro w H
    try simp only [List.set,List.eraseIdx] at H
    refine Ln (blk_n (tn ?_))
    have hrow:∀ j,byteAt (M.set i (addPx A (predMode 8 L T TL TR))) j=if j=P+3 then (pA A+avg (pA TL) (pA T)) % 256 else if j=P+2 then (pB A+avg (pB TL) (pB T)) % 256 else if j=P+1 then (pG A+avg (pG TL) (pG T)) % 256 else if j=P+0 then (pR A+avg (pR TL) (pR T)) % 256 else byteAt M j:=fun j => hset _ _ _ _ _ (predMode_ch 8 L T TL TR (by decide)) j
    rw [rowK_congr (g:=byteAt (M.set i (addPx A (predMode 8 L T TL TR)))) (fun j _ => hrow j)] at H
    exact ⟨s0,s1,s2,s7,s8,s10,s11,s12,s13,s14,s15,H⟩
  case neg =>
  refine CF O (by omega) (Cy (Lo O (Y.eql O O) (Lo O (Y.asgB O) (Lt ?_))))
  by_cases hm9:md=9
  case pos =>
   as_aux_lemma =>
    subst hm9
    refine CT O (by omega) (Cs (VC.drawTail 18 mixedP (by kernel_rfl) ?_))
    intro w hsame
    replace H:=H.same hsame
    refine So O (YS s1) (So O (YI s7) (So O (Y.add O O (n32 (b:=0) (by omega))) (So O (Y.ixS0 _ sl_24 O O O (by omega)) (So O (Y.ld (v:=.int .u8 (pR A:Nat)) ld_5 O (H.cell 0 O ((rowK_get (by omega)).trans (by rw [hA0])))) (So O (YS s1) (So O (YI s10) (So O (Y.add O O (n64 (b:=0) (by omega))) (So O (Y.ixS0 _ sl_24 O O O (by omega)) (So O (Y.ld (v:=.int .u8 (pR T:Nat)) ld_5 O (H.cell 0 O ((rowK_get (by omega)).trans (by rw [hT0])))) (So O (YS s1) (So O (YI s10) (So O (Y.add O O (n64 (b:=4) (by omega))) (So O (Y.ixS0 _ sl_24 O O O (by omega)) (So O (Y.ld (v:=.int .u8 (pR TR:Nat)) ld_5 O (H.cell 0 O ((rowK_get (by omega)).trans (by rw [hTR0])))) (VS.call O ent_120 (avg2_any _ _ _ (by assumption) (by assumption)) O (So O (Y.add O O (nu8)) (So O (Y.ixS0 _ sl_24 O O O (by omega)) (Sn (VL.putR H 0 st_5 O O O (by omega) ?_)))))))))))))))))))
    intro w H
    try simp only [List.set,List.eraseIdx] at H
    refine Lt (Cs (VC.drawTail 18 mixedP (by kernel_rfl) ?_))
    intro w hsame
    replace H:=H.same hsame
    refine So O (YS s1) (So O (YI s7) (So O (Y.add O O (n32 (b:=1) (by omega))) (So O (Y.ixS0 _ sl_24 O O O (by omega)) (So O (Y.ld (v:=.int .u8 (pG A:Nat)) ld_5 O (H.cell 0 O ((rowK_get (by omega)).trans (by rw [if_neg (by omega),hA1])))) (So O (YS s1) (So O (YI s10) (So O (Y.add O O (n64 (b:=1) (by omega))) (So O (Y.ixS0 _ sl_24 O O O (by omega)) (So O (Y.ld (v:=.int .u8 (pG T:Nat)) ld_5 O (H.cell 0 O ((rowK_get (by omega)).trans (by rw [if_neg (by omega),hT1])))) (So O (YS s1) (So O (YI s10) (So O (Y.add O O (n64 (b:=5) (by omega))) (So O (Y.ixS0 _ sl_24 O O O (by omega)) (So O (Y.ld (v:=.int .u8 (pG TR:Nat)) ld_5 O (H.cell 0 O ((rowK_get (by omega)).trans (by rw [if_neg (by omega),hTR1])))) (VS.call O ent_120 (avg2_any _ _ _ (by assumption) (by assumption)) O (So O (Y.add O O (nu8)) (So O (Y.ixS0 _ sl_24 O O O (by omega)) (Sn (VL.putR H 0 st_5 O O O (by omega) ?_)))))))))))))))))))
    intro w H
    try simp only [List.set,List.eraseIdx] at H
    refine Lt (Cs (VC.drawTail 18 mixedP (by kernel_rfl) ?_))
    intro w hsame
    replace H:=H.same hsame
    refine So O (YS s1) (So O (YI s7) (So O (Y.add O O (n32 (b:=2) (by omega))) (So O (Y.ixS0 _ sl_24 O O O (by omega)) (So O (Y.ld (v:=.int .u8 (pB A:Nat)) ld_5 O (H.cell 0 O ((rowK_get (by omega)).trans (by rw [if_neg (by omega),if_neg (by omega),hA2])))) (So O (YS s1) (So O (YI s10) (So O (Y.add O O (n64 (b:=2) (by omega))) (So O (Y.ixS0 _ sl_24 O O O (by omega)) (So O (Y.ld (v:=.int .u8 (pB T:Nat)) ld_5 O (H.cell 0 O ((rowK_get (by omega)).trans (by rw [if_neg (by omega),if_neg (by omega),hT2])))) (So O (YS s1) (So O (YI s10) (So O (Y.add O O (n64 (b:=6) (by omega))) (So O (Y.ixS0 _ sl_24 O O O (by omega)) (So O (Y.ld (v:=.int .u8 (pB TR:Nat)) ld_5 O (H.cell 0 O ((rowK_get (by omega)).trans (by rw [if_neg (by omega),if_neg (by omega),hTR2])))) (VS.call O ent_120 (avg2_any _ _ _ (by assumption) (by assumption)) O (So O (Y.add O O (nu8)) (So O (Y.ixS0 _ sl_24 O O O (by omega)) (Sn (VL.putR H 0 st_5 O O O (by omega) ?_)))))))))))))))))))
    intro w H
    try simp only [List.set,List.eraseIdx] at H
    refine Lt (VC.drawTail 18 mixedP (by kernel_rfl) ?_)
    intro w hsame
    replace H:=H.same hsame
    refine So O (YS s1) (So O (YI s7) (So O (Y.add O O (n32 (b:=3) (by omega))) (So O (Y.ixS0 _ sl_24 O O O (by omega)) (So O (Y.ld (v:=.int .u8 (pA A:Nat)) ld_5 O (H.cell 0 O ((rowK_get (by omega)).trans (by rw [if_neg (by omega),if_neg (by omega),if_neg (by omega),hA3])))) (So O (YS s1) (So O (YI s10) (So O (Y.add O O (n64 (b:=3) (by omega))) (So O (Y.ixS0 _ sl_24 O O O (by omega)) (So O (Y.ld (v:=.int .u8 (pA T:Nat)) ld_5 O (H.cell 0 O ((rowK_get (by omega)).trans (by rw [if_neg (by omega),if_neg (by omega),if_neg (by omega),hT3])))) (So O (YS s1) (So O (YI s10) (So O (Y.add O O (n64 (b:=7) (by omega))) (So O (Y.ixS0 _ sl_24 O O O (by omega)) (So O (Y.ld (v:=.int .u8 (pA TR:Nat)) ld_5 O (H.cell 0 O ((rowK_get (by omega)).trans (by rw [if_neg (by omega),if_neg (by omega),if_neg (by omega),hTR3])))) (VS.call O ent_120 (avg2_any _ _ _ (by assumption) (by assumption)) O (So O (Y.add O O (nu8)) (So O (Y.ixS0 _ sl_24 O O O (by omega)) (Sn (VL.putR H 0 st_5 O O O (by omega) ?_)))))))))))))))))))
    intro w H
    try simp only [List.set,List.eraseIdx] at H
    refine Ln (blk_n (tn ?_))
    have hrow:∀ j,byteAt (M.set i (addPx A (predMode 9 L T TL TR))) j=if j=P+3 then (pA A+avg (pA T) (pA TR)) % 256 else if j=P+2 then (pB A+avg (pB T) (pB TR)) % 256 else if j=P+1 then (pG A+avg (pG T) (pG TR)) % 256 else if j=P+0 then (pR A+avg (pR T) (pR TR)) % 256 else byteAt M j:=fun j => hset _ _ _ _ _ (predMode_ch 9 L T TL TR (by decide)) j
    rw [rowK_congr (g:=byteAt (M.set i (addPx A (predMode 9 L T TL TR)))) (fun j _ => hrow j)] at H
    exact ⟨s0,s1,s2,s7,s8,s10,s11,s12,s13,s14,s15,H⟩
  case neg =>
  refine CF O (by omega) (Cy (Lo O (Y.eql O O) (Lo O (Y.asgB O) (Lt ?_))))
  by_cases hm10:md=10
  case pos =>
   as_aux_lemma =>
    subst hm10
    refine CT O (by omega) (Cs (VC.drawTail 30 mixedP (by kernel_rfl) ?_))
    intro w hsame
    replace H:=H.same hsame
    refine So O (YS s1) (So O (YI s7) (So O (Y.add O O (n32 (b:=0) (by omega))) (So O (Y.ixS0 _ sl_24 O O O (by omega)) (So O (Y.ld (v:=.int .u8 (pR A:Nat)) ld_5 O (H.cell 0 O ((rowK_get (by omega)).trans (by rw [hA0])))) (So O (YS s1) (So O (YI s7) (So O (Y.sub O O (s32 (b:=4) (by omega))) (So O (Y.ixS0 _ sl_24 O O O (by omega)) (So O (Y.ld (v:=.int .u8 (pR L:Nat)) ld_5 O (H.cell 0 O ((rowK_get (by omega)).trans (by rw [hL0])))) (So O (YS s1) (So O (YI s10) (So O (Y.sub O O (s64 (b:=4) (by omega))) (So O (Y.ixS0 _ sl_24 O O O (by omega)) (So O (Y.ld (v:=.int .u8 (pR TL:Nat)) ld_5 O (H.cell 0 O ((rowK_get (by omega)).trans (by rw [hTL0])))) (VS.call O ent_120 (avg2_any _ _ _ (by assumption) (by assumption)) O (So O (YS s1) (So O (YI s10) (So O (Y.add O O (n64 (b:=0) (by omega))) (So O (Y.ixS0 _ sl_24 O O O (by omega)) ?_)))))))))))))))))))
    refine So O (Y.ld (v:=.int .u8 (pR T:Nat)) ld_5 O (H.cell 0 O ((rowK_get (by omega)).trans (by rw [hT0])))) (So O (YS s1) (So O (YI s10) (So O (Y.add O O (n64 (b:=4) (by omega))) (So O (Y.ixS0 _ sl_24 O O O (by omega)) (So O (Y.ld (v:=.int .u8 (pR TR:Nat)) ld_5 O (H.cell 0 O ((rowK_get (by omega)).trans (by rw [hTR0])))) (VS.call O ent_120 (avg2_any _ _ _ (by assumption) (by assumption)) O (VS.call O ent_120 (avg2_any _ _ _ (avg_lt (by assumption) (by assumption)) (avg_lt (by assumption) (by assumption))) O (So O (Y.add O O (nu8)) (So O (Y.ixS0 _ sl_24 O O O (by omega)) (Sn (VL.putR H 0 st_5 O O O (by omega) ?_)))))))))))
    intro w H
    try simp only [List.set,List.eraseIdx] at H
    refine Lt (Cs (VC.drawTail 30 mixedP (by kernel_rfl) ?_))
    intro w hsame
    replace H:=H.same hsame
    refine So O (YS s1) (So O (YI s7) (So O (Y.add O O (n32 (b:=1) (by omega))) (So O (Y.ixS0 _ sl_24 O O O (by omega)) (So O (Y.ld (v:=.int .u8 (pG A:Nat)) ld_5 O (H.cell 0 O ((rowK_get (by omega)).trans (by rw [if_neg (by omega),hA1])))) (So O (YS s1) (So O (YI s7) (So O (Y.sub O O (s32 (b:=3) (by omega))) (So O (Y.ixS0 _ sl_24 O O O (by omega)) (So O (Y.ld (v:=.int .u8 (pG L:Nat)) ld_5 O (H.cell 0 O ((rowK_get (by omega)).trans (by rw [if_neg (by omega),hL1])))) (So O (YS s1) (So O (YI s10) (So O (Y.sub O O (s64 (b:=3) (by omega))) (So O (Y.ixS0 _ sl_24 O O O (by omega)) (So O (Y.ld (v:=.int .u8 (pG TL:Nat)) ld_5 O (H.cell 0 O ((rowK_get (by omega)).trans (by rw [if_neg (by omega),hTL1])))) (VS.call O ent_120 (avg2_any _ _ _ (by assumption) (by assumption)) O (So O (YS s1) (So O (YI s10) (So O (Y.add O O (n64 (b:=1) (by omega))) (So O (Y.ixS0 _ sl_24 O O O (by omega)) ?_)))))))))))))))))))
    refine So O (Y.ld (v:=.int .u8 (pG T:Nat)) ld_5 O (H.cell 0 O ((rowK_get (by omega)).trans (by rw [if_neg (by omega),hT1])))) (So O (YS s1) (So O (YI s10) (So O (Y.add O O (n64 (b:=5) (by omega))) (So O (Y.ixS0 _ sl_24 O O O (by omega)) (So O (Y.ld (v:=.int .u8 (pG TR:Nat)) ld_5 O (H.cell 0 O ((rowK_get (by omega)).trans (by rw [if_neg (by omega),hTR1])))) (VS.call O ent_120 (avg2_any _ _ _ (by assumption) (by assumption)) O (VS.call O ent_120 (avg2_any _ _ _ (avg_lt (by assumption) (by assumption)) (avg_lt (by assumption) (by assumption))) O (So O (Y.add O O (nu8)) (So O (Y.ixS0 _ sl_24 O O O (by omega)) (Sn (VL.putR H 0 st_5 O O O (by omega) ?_)))))))))))
    intro w H
    try simp only [List.set,List.eraseIdx] at H
    refine Lt (Cs (VC.drawTail 30 mixedP (by kernel_rfl) ?_))
    intro w hsame
    replace H:=H.same hsame
    refine So O (YS s1) (So O (YI s7) (So O (Y.add O O (n32 (b:=2) (by omega))) (So O (Y.ixS0 _ sl_24 O O O (by omega)) (So O (Y.ld (v:=.int .u8 (pB A:Nat)) ld_5 O (H.cell 0 O ((rowK_get (by omega)).trans (by rw [if_neg (by omega),if_neg (by omega),hA2])))) (So O (YS s1) (So O (YI s7) (So O (Y.sub O O (s32 (b:=2) (by omega))) (So O (Y.ixS0 _ sl_24 O O O (by omega)) (So O (Y.ld (v:=.int .u8 (pB L:Nat)) ld_5 O (H.cell 0 O ((rowK_get (by omega)).trans (by rw [if_neg (by omega),if_neg (by omega),hL2])))) (So O (YS s1) (So O (YI s10) (So O (Y.sub O O (s64 (b:=2) (by omega))) (So O (Y.ixS0 _ sl_24 O O O (by omega)) (So O (Y.ld (v:=.int .u8 (pB TL:Nat)) ld_5 O (H.cell 0 O ((rowK_get (by omega)).trans (by rw [if_neg (by omega),if_neg (by omega),hTL2])))) (VS.call O ent_120 (avg2_any _ _ _ (by assumption) (by assumption)) O (So O (YS s1) (So O (YI s10) (So O (Y.add O O (n64 (b:=2) (by omega))) (So O (Y.ixS0 _ sl_24 O O O (by omega)) ?_)))))))))))))))))))
    refine So O (Y.ld (v:=.int .u8 (pB T:Nat)) ld_5 O (H.cell 0 O ((rowK_get (by omega)).trans (by rw [if_neg (by omega),if_neg (by omega),hT2])))) (So O (YS s1) (So O (YI s10) (So O (Y.add O O (n64 (b:=6) (by omega))) (So O (Y.ixS0 _ sl_24 O O O (by omega)) (So O (Y.ld (v:=.int .u8 (pB TR:Nat)) ld_5 O (H.cell 0 O ((rowK_get (by omega)).trans (by rw [if_neg (by omega),if_neg (by omega),hTR2])))) (VS.call O ent_120 (avg2_any _ _ _ (by assumption) (by assumption)) O (VS.call O ent_120 (avg2_any _ _ _ (avg_lt (by assumption) (by assumption)) (avg_lt (by assumption) (by assumption))) O (So O (Y.add O O (nu8)) (So O (Y.ixS0 _ sl_24 O O O (by omega)) (Sn (VL.putR H 0 st_5 O O O (by omega) ?_)))))))))))
    intro w H
    try simp only [List.set,List.eraseIdx] at H
    refine Lt (VC.drawTail 30 mixedP (by kernel_rfl) ?_)
    intro w hsame
    replace H:=H.same hsame
    refine So O (YS s1) (So O (YI s7) (So O (Y.add O O (n32 (b:=3) (by omega))) (So O (Y.ixS0 _ sl_24 O O O (by omega)) (So O (Y.ld (v:=.int .u8 (pA A:Nat)) ld_5 O (H.cell 0 O ((rowK_get (by omega)).trans (by rw [if_neg (by omega),if_neg (by omega),if_neg (by omega),hA3])))) (So O (YS s1) (So O (YI s7) (So O (Y.sub O O (s32 (b:=1) (by omega))) (So O (Y.ixS0 _ sl_24 O O O (by omega)) (So O (Y.ld (v:=.int .u8 (pA L:Nat)) ld_5 O (H.cell 0 O ((rowK_get (by omega)).trans (by rw [if_neg (by omega),if_neg (by omega),if_neg (by omega),hL3])))) (So O (YS s1) (So O (YI s10) (So O (Y.sub O O (s64 (b:=1) (by omega))) (So O (Y.ixS0 _ sl_24 O O O (by omega)) (So O (Y.ld (v:=.int .u8 (pA TL:Nat)) ld_5 O (H.cell 0 O ((rowK_get (by omega)).trans (by rw [if_neg (by omega),if_neg (by omega),if_neg (by omega),hTL3])))) (VS.call O ent_120 (avg2_any _ _ _ (by assumption) (by assumption)) O (So O (YS s1) (So O (YI s10) (So O (Y.add O O (n64 (b:=3) (by omega))) (So O (Y.ixS0 _ sl_24 O O O (by omega)) ?_)))))))))))))))))))
    refine So O (Y.ld (v:=.int .u8 (pA T:Nat)) ld_5 O (H.cell 0 O ((rowK_get (by omega)).trans (by rw [if_neg (by omega),if_neg (by omega),if_neg (by omega),hT3])))) (So O (YS s1) (So O (YI s10) (So O (Y.add O O (n64 (b:=7) (by omega))) (So O (Y.ixS0 _ sl_24 O O O (by omega)) (So O (Y.ld (v:=.int .u8 (pA TR:Nat)) ld_5 O (H.cell 0 O ((rowK_get (by omega)).trans (by rw [if_neg (by omega),if_neg (by omega),if_neg (by omega),hTR3])))) (VS.call O ent_120 (avg2_any _ _ _ (by assumption) (by assumption)) O (VS.call O ent_120 (avg2_any _ _ _ (avg_lt (by assumption) (by assumption)) (avg_lt (by assumption) (by assumption))) O (So O (Y.add O O (nu8)) (So O (Y.ixS0 _ sl_24 O O O (by omega)) (Sn (VL.putR H 0 st_5 O O O (by omega) ?_)))))))))))
    intro w H
    try simp only [List.set,List.eraseIdx] at H
    refine Ln (blk_n (tn ?_))
    have hrow:∀ j,byteAt (M.set i (addPx A (predMode 10 L T TL TR))) j=if j=P+3 then (pA A+avg (avg (pA L) (pA TL)) (avg (pA T) (pA TR))) % 256 else if j=P+2 then (pB A+avg (avg (pB L) (pB TL)) (avg (pB T) (pB TR))) % 256 else if j=P+1 then (pG A+avg (avg (pG L) (pG TL)) (avg (pG T) (pG TR))) % 256 else if j=P+0 then (pR A+avg (avg (pR L) (pR TL)) (avg (pR T) (pR TR))) % 256 else byteAt M j:=fun j => hset _ _ _ _ _ (predMode_ch 10 L T TL TR (by decide)) j
    rw [rowK_congr (g:=byteAt (M.set i (addPx A (predMode 10 L T TL TR)))) (fun j _ => hrow j)] at H
    exact ⟨s0,s1,s2,s7,s8,s10,s11,s12,s13,s14,s15,H⟩
  case neg =>
  refine CF O (by omega) (Cy (Lo O (Y.eql O O) (Lo O (Y.asgB O) (Lt ?_))))
  by_cases hm11:md=11
  case pos =>
   as_aux_lemma =>
    subst hm11
    replace tl1:pA TL<256:=tl1
    replace tl2:pR TL<256:=tl2
    replace tl3:pG TL<256:=tl3
    replace tl4:pB TL<256:=tl4
    replace t1:pA T<256:=t1
    replace t2:pR T<256:=t2
    replace t3:pG T<256:=t3
    replace t4:pB T<256:=t4
    replace l1:pA L<256:=l1
    replace l2:pR L<256:=l2
    replace l3:pG L<256:=l3
    replace l4:pB L<256:=l4
    have b1:=fun a b (h1:a<256) (h2:b<256) => absd_lt h1 h2
    have q1:=b1 _ _ tl2 t2
    have q2:=b1 _ _ tl3 t3
    have q3:=b1 _ _ tl4 t4
    have q4:=b1 _ _ tl1 t1
    have q5:=b1 _ _ tl2 l2
    have q6:=b1 _ _ tl3 l3
    have q7:=b1 _ _ tl4 l4
    have q8:=b1 _ _ tl1 l1
    refine CT O (by omega) (Cy (Lo O (YS s1) (Lo O (YI s7) (Lo O (Y.sub O O (s32 (b:=4) (by omega))) (Lo O (Y.ixS0 _ sl_24 O O O (by omega)) (Lo O (Y.ld (v:=.int .u8 (pR L:Nat)) ld_5 O (H.cell 0 O ((rowK_get (by omega)).trans (by rw [hL0])))) (Lo O (Y.cv int_5_21 O (w32 (by omega))) (Lo O (AI O) (Lt (Cy (Lo O (YS s1) (Lo O (YI s7) (Lo O (Y.sub O O (s32 (b:=3) (by omega))) (Lo O (Y.ixS0 _ sl_24 O O O (by omega)) (Lo O (Y.ld (v:=.int .u8 (pG L:Nat)) ld_5 O (H.cell 0 O ((rowK_get (by omega)).trans (by rw [hL1])))) (Lo O (Y.cv int_5_21 O (w32 (by omega))) ?_))))))))))))))))
    refine Lo O (AI O) (Lt (Cy (Lo O (YS s1) (Lo O (YI s7) (Lo O (Y.sub O O (s32 (b:=2) (by omega))) (Lo O (Y.ixS0 _ sl_24 O O O (by omega)) (Lo O (Y.ld (v:=.int .u8 (pB L:Nat)) ld_5 O (H.cell 0 O ((rowK_get (by omega)).trans (by rw [hL2])))) (Lo O (Y.cv int_5_21 O (w32 (by omega))) (Lo O (AI O) (Lt (Cy (Lo O (YS s1) (Lo O (YI s7) (Lo O (Y.sub O O (s32 (b:=1) (by omega))) (Lo O (Y.ixS0 _ sl_24 O O O (by omega)) ?_)))))))))))))))
    refine Lo O (Y.ld (v:=.int .u8 (pA L:Nat)) ld_5 O (H.cell 0 O ((rowK_get (by omega)).trans (by rw [hL3])))) (Lo O (Y.cv int_5_21 O (w32 (by omega))) (Lo O (AI O) (Lt (Cy (Lo O (YS s1) (Lo O (YI s10) (Lo O (Y.sub O O (s64 (b:=4) (by omega))) (Lo O (Y.ixS0 _ sl_24 O O O (by omega)) (Lo O (Y.ld (v:=.int .u8 (pR TL:Nat)) ld_5 O (H.cell 0 O ((rowK_get (by omega)).trans (by rw [hTL0])))) (Lo O (Y.cv int_5_21 O (w32 (by omega))) (Lo O (AI O) (Lt (Cy (Lo O (YS s1) (Lo O (YI s10) ?_)))))))))))))))
    refine Lo O (Y.sub O O (s64 (b:=3) (by omega))) (Lo O (Y.ixS0 _ sl_24 O O O (by omega)) (Lo O (Y.ld (v:=.int .u8 (pG TL:Nat)) ld_5 O (H.cell 0 O ((rowK_get (by omega)).trans (by rw [hTL1])))) (Lo O (Y.cv int_5_21 O (w32 (by omega))) (Lo O (AI O) (Lt (Cy (Lo O (YS s1) (Lo O (YI s10) (Lo O (Y.sub O O (s64 (b:=2) (by omega))) (Lo O (Y.ixS0 _ sl_24 O O O (by omega)) (Lo O (Y.ld (v:=.int .u8 (pB TL:Nat)) ld_5 O (H.cell 0 O ((rowK_get (by omega)).trans (by rw [hTL2])))) (Lo O (Y.cv int_5_21 O (w32 (by omega))) (Lo O (AI O) (Lt (Cy ?_)))))))))))))))
    refine Lo O (YS s1) (Lo O (YI s10) (Lo O (Y.sub O O (s64 (b:=1) (by omega))) (Lo O (Y.ixS0 _ sl_24 O O O (by omega)) (Lo O (Y.ld (v:=.int .u8 (pA TL:Nat)) ld_5 O (H.cell 0 O ((rowK_get (by omega)).trans (by rw [hTL3])))) (Lo O (Y.cv int_5_21 O (w32 (by omega))) (Lo O (AI O) (Lt (Cy (Lo O (YS s1) (Lo O (YI s10) (Lo O (Y.add O O (n64 (b:=0) (by omega))) (Lo O (Y.ixS0 _ sl_24 O O O (by omega)) (Lo O (Y.ld (v:=.int .u8 (pR T:Nat)) ld_5 O (H.cell 0 O ((rowK_get (by omega)).trans (by rw [hT0])))) (Lo O (Y.cv int_5_21 O (w32 (by omega))) (Lo O (AI O) (Lt ?_))))))))))))))))
    refine Cy (Lo O (YS s1) (Lo O (YI s10) (Lo O (Y.add O O (n64 (b:=1) (by omega))) (Lo O (Y.ixS0 _ sl_24 O O O (by omega)) (Lo O (Y.ld (v:=.int .u8 (pG T:Nat)) ld_5 O (H.cell 0 O ((rowK_get (by omega)).trans (by rw [hT1])))) (Lo O (Y.cv int_5_21 O (w32 (by omega))) (Lo O (AI O) (Lt (Cy (Lo O (YS s1) (Lo O (YI s10) (Lo O (Y.add O O (n64 (b:=2) (by omega))) (Lo O (Y.ixS0 _ sl_24 O O O (by omega)) (Lo O (Y.ld (v:=.int .u8 (pB T:Nat)) ld_5 O (H.cell 0 O ((rowK_get (by omega)).trans (by rw [hT2])))) (Lo O (Y.cv int_5_21 O (w32 (by omega))) (Lo O (AI O) ?_))))))))))))))))
    refine Lt (Cy (Lo O (YS s1) (Lo O (YI s10) (Lo O (Y.add O O (n64 (b:=3) (by omega))) (Lo O (Y.ixS0 _ sl_24 O O O (by omega)) (Lo O (Y.ld (v:=.int .u8 (pA T:Nat)) ld_5 O (H.cell 0 O ((rowK_get (by omega)).trans (by rw [hT3])))) (Lo O (Y.cv int_5_21 O (w32 (by omega))) (Lo O (AI O) (Lt (Cy (Lo O (YI O) (Lo O (YI O) (Lo O (Y.sub O O (w32 (by omega))) (VL.callP O ent_121 (abs_any _ _ _ (by assumption) (by assumption)) O (Lo O (YI O) ?_)))))))))))))))
    refine Lo O (YI O) (Lo O (Y.sub O O (w32 (by omega))) (VL.callP O ent_121 (abs_any _ _ _ (by assumption) (by assumption)) O (Lo O (Y.add O O (n32 (by omega))) (Lo O (YI O) (Lo O (YI O) (Lo O (Y.sub O O (w32 (by omega))) (VL.callP O ent_121 (abs_any _ _ _ (by assumption) (by assumption)) O (Lo O (Y.add O O (n32 (by omega))) (Lo O (YI O) (Lo O (YI O) (Lo O (Y.sub O O (w32 (by omega))) (VL.callP O ent_121 (abs_any _ _ _ (by assumption) (by assumption)) O (Lo O (Y.add O O (n32 (by omega))) (Lo O (AI O) (Lt (Cy (Lo O (YI O) ?_)))))))))))))))))
    refine Lo O (YI O) (Lo O (Y.sub O O (w32 (by omega))) (VL.callP O ent_121 (abs_any _ _ _ (by assumption) (by assumption)) O (Lo O (YI O) (Lo O (YI O) (Lo O (Y.sub O O (w32 (by omega))) (VL.callP O ent_121 (abs_any _ _ _ (by assumption) (by assumption)) O (Lo O (Y.add O O (n32 (by omega))) (Lo O (YI O) (Lo O (YI O) (Lo O (Y.sub O O (w32 (by omega))) (VL.callP O ent_121 (abs_any _ _ _ (by assumption) (by assumption)) O (Lo O (Y.add O O (n32 (by omega))) (Lo O (YI O) (Lo O (YI O) (Lo O (Y.sub O O (w32 (by omega))) (VL.callP O ent_121 (abs_any _ _ _ (by assumption) (by assumption)) O (Lo O (Y.add O O (n32 (by omega))) (Lo O (AI O) (Ln ?_)))))))))))))))))))
    refine tn ?_
    have hsel:predMode 11 L T TL TR=if absd (pR TL) (pR T)+absd (pG TL) (pG T)+absd (pB TL) (pB T)+absd (pA TL) (pA T)<absd (pR TL) (pR L)+absd (pG TL) (pG L)+absd (pB TL) (pB L)+absd (pA TL) (pA L) then L else T:=rfl
    refine Cy (Lo O (YI O) (Lo O (YI O) (Lo O (Y.lss O O) (Lt ?_))))
    rw [hsel]
    by_cases hs:absd (pR TL) (pR T)+absd (pG TL) (pG T)+absd (pB TL) (pB T)+absd (pA TL) (pA T)<absd (pR TL) (pR L)+absd (pG TL) (pG L)+absd (pB TL) (pB L)+absd (pA TL) (pA L)
    case pos =>
     rw [if_pos hs]
     refine CT O (by omega) (Cy (Lo O (YS s1) (Lo O (YI s7) (Lo O (Y.add O O (n32 (b:=0) (by omega))) (Lo O (Y.ixS0 _ sl_24 O O O (by omega)) (Lo O (Y.ld (v:=.int .u8 (pR A:Nat)) ld_5 O (H.cell 0 O ((rowK_get (by omega)).trans (by rw [hA0])))) (Lo O (YI O) (Lo O (Y.cv int_21_5 O (wu8 (by omega))) (Lo O (Y.add O O (nu8)) (Lo O (Y.ixS0 _ sl_24 O O O (by omega)) (VL.putR H 0 st_5 O O O (by omega) ?_)))))))))))
     intro w H
     try simp only [List.set,List.eraseIdx] at H
     refine Lt (Cy (Lo O (YS s1) (Lo O (YI s7) (Lo O (Y.add O O (n32 (b:=1) (by omega))) (Lo O (Y.ixS0 _ sl_24 O O O (by omega)) (Lo O (Y.ld (v:=.int .u8 (pG A:Nat)) ld_5 O (H.cell 0 O ((rowK_get (by omega)).trans (by rw [if_neg (by omega),hA1])))) (Lo O (YI O) (Lo O (Y.cv int_21_5 O (wu8 (by omega))) (Lo O (Y.add O O (nu8)) (Lo O (Y.ixS0 _ sl_24 O O O (by omega)) (VL.putR H 0 st_5 O O O (by omega) ?_)))))))))))
     intro w H
     try simp only [List.set,List.eraseIdx] at H
     refine Lt (Cy (Lo O (YS s1) (Lo O (YI s7) (Lo O (Y.add O O (n32 (b:=2) (by omega))) (Lo O (Y.ixS0 _ sl_24 O O O (by omega)) (Lo O (Y.ld (v:=.int .u8 (pB A:Nat)) ld_5 O (H.cell 0 O ((rowK_get (by omega)).trans (by rw [if_neg (by omega),if_neg (by omega),hA2])))) (Lo O (YI O) (Lo O (Y.cv int_21_5 O (wu8 (by omega))) (Lo O (Y.add O O (nu8)) (Lo O (Y.ixS0 _ sl_24 O O O (by omega)) (VL.putR H 0 st_5 O O O (by omega) ?_)))))))))))
     intro w H
     try simp only [List.set,List.eraseIdx] at H
     refine Lt (Cr (Lo O (YS s1) (Lo O (YI s7) (Lo O (Y.add O O (n32 (b:=3) (by omega))) (Lo O (Y.ixS0 _ sl_24 O O O (by omega)) (Lo O (Y.ld (v:=.int .u8 (pA A:Nat)) ld_5 O (H.cell 0 O ((rowK_get (by omega)).trans (by rw [if_neg (by omega),if_neg (by omega),if_neg (by omega),hA3])))) (Lo O (YI O) (Lo O (Y.cv int_21_5 O (wu8 (by omega))) (Lo O (Y.add O O (nu8)) (Lo O (Y.ixS0 _ sl_24 O O O (by omega)) (VL.putR H 0 st_5 O O O (by omega) ?_)))))))))))
     intro w H
     try simp only [List.set,List.eraseIdx] at H
     refine Ln (blk_n (tn ?_))
     rw [rowK_congr (g:=byteAt (M.set i (addPx A L))) (fun j _ => hset _ _ _ _ _ ⟨rfl,rfl,rfl,rfl⟩ j)] at H
     exact ⟨s0,s1,s2,s7,s8,s10,s11,s12,s13,s14,s15,H⟩
    case neg =>
     rw [if_neg hs]
     refine CF O (by omega) (Cy (Lo O (YS s1) (Lo O (YI s7) (Lo O (Y.add O O (n32 (b:=0) (by omega))) (Lo O (Y.ixS0 _ sl_24 O O O (by omega)) (Lo O (Y.ld (v:=.int .u8 (pR A:Nat)) ld_5 O (H.cell 0 O ((rowK_get (by omega)).trans (by rw [hA0])))) (Lo O (YI O) (Lo O (Y.cv int_21_5 O (wu8 (by omega))) (Lo O (Y.add O O (nu8)) (Lo O (Y.ixS0 _ sl_24 O O O (by omega)) (VL.putR H 0 st_5 O O O (by omega) ?_)))))))))))
     intro w H
     try simp only [List.set,List.eraseIdx] at H
     refine Lt (Cy (Lo O (YS s1) (Lo O (YI s7) (Lo O (Y.add O O (n32 (b:=1) (by omega))) (Lo O (Y.ixS0 _ sl_24 O O O (by omega)) (Lo O (Y.ld (v:=.int .u8 (pG A:Nat)) ld_5 O (H.cell 0 O ((rowK_get (by omega)).trans (by rw [if_neg (by omega),hA1])))) (Lo O (YI O) (Lo O (Y.cv int_21_5 O (wu8 (by omega))) (Lo O (Y.add O O (nu8)) (Lo O (Y.ixS0 _ sl_24 O O O (by omega)) (VL.putR H 0 st_5 O O O (by omega) ?_)))))))))))
     intro w H
     try simp only [List.set,List.eraseIdx] at H
     refine Lt (Cy (Lo O (YS s1) (Lo O (YI s7) (Lo O (Y.add O O (n32 (b:=2) (by omega))) (Lo O (Y.ixS0 _ sl_24 O O O (by omega)) (Lo O (Y.ld (v:=.int .u8 (pB A:Nat)) ld_5 O (H.cell 0 O ((rowK_get (by omega)).trans (by rw [if_neg (by omega),if_neg (by omega),hA2])))) (Lo O (YI O) (Lo O (Y.cv int_21_5 O (wu8 (by omega))) (Lo O (Y.add O O (nu8)) (Lo O (Y.ixS0 _ sl_24 O O O (by omega)) (VL.putR H 0 st_5 O O O (by omega) ?_)))))))))))
     intro w H
     try simp only [List.set,List.eraseIdx] at H
     refine Lt (Cr (Lo O (YS s1) (Lo O (YI s7) (Lo O (Y.add O O (n32 (b:=3) (by omega))) (Lo O (Y.ixS0 _ sl_24 O O O (by omega)) (Lo O (Y.ld (v:=.int .u8 (pA A:Nat)) ld_5 O (H.cell 0 O ((rowK_get (by omega)).trans (by rw [if_neg (by omega),if_neg (by omega),if_neg (by omega),hA3])))) (Lo O (YI O) (Lo O (Y.cv int_21_5 O (wu8 (by omega))) (Lo O (Y.add O O (nu8)) (Lo O (Y.ixS0 _ sl_24 O O O (by omega)) (VL.putR H 0 st_5 O O O (by omega) ?_)))))))))))
     intro w H
     try simp only [List.set,List.eraseIdx] at H
     refine Ln (blk_n (tn ?_))
     rw [rowK_congr (g:=byteAt (M.set i (addPx A T))) (fun j _ => hset _ _ _ _ _ ⟨rfl,rfl,rfl,rfl⟩ j)] at H
     exact ⟨s0,s1,s2,s7,s8,s10,s11,s12,s13,s14,s15,H⟩
  case neg =>
  refine CF O (by omega) (Cy (Lo O (Y.eql O O) (Lo O (Y.asgB O) (Lt ?_))))
  by_cases hm12:md=12
  case pos =>
   as_aux_lemma =>
    subst hm12
    refine CT O (by omega) (Cs (VC.drawTail 23 mixedP (by kernel_rfl) ?_))
    intro w hsame
    replace H:=H.same hsame
    refine So O (YS s1) (So O (YI s7) (So O (Y.add O O (n32 (b:=0) (by omega))) (So O (Y.ixS0 _ sl_24 O O O (by omega)) (So O (Y.ld (v:=.int .u8 (pR A:Nat)) ld_5 O (H.cell 0 O ((rowK_get (by omega)).trans (by rw [hA0])))) (So O (YS s1) (So O (YI s7) (So O (Y.sub O O (s32 (b:=4) (by omega))) (So O (Y.ixS0 _ sl_24 O O O (by omega)) (So O (Y.ld (v:=.int .u8 (pR L:Nat)) ld_5 O (H.cell 0 O ((rowK_get (by omega)).trans (by rw [hL0])))) (So O (YS s1) (So O (YI s10) (So O (Y.add O O (n64 (b:=0) (by omega))) (So O (Y.ixS0 _ sl_24 O O O (by omega)) (So O (Y.ld (v:=.int .u8 (pR T:Nat)) ld_5 O (H.cell 0 O ((rowK_get (by omega)).trans (by rw [hT0])))) (So O (YS s1) (So O (YI s10) (So O (Y.sub O O (s64 (b:=4) (by omega))) (So O (Y.ixS0 _ sl_24 O O O (by omega)) (So O (Y.ld (v:=.int .u8 (pR TL:Nat)) ld_5 O (H.cell 0 O ((rowK_get (by omega)).trans (by rw [hTL0])))) ?_)))))))))))))))))))
    refine VS.call O ent_122 (clampF_any _ _ _ _ (by assumption) (by assumption) (by assumption)) O (So O (Y.add O O (nu8)) (So O (Y.ixS0 _ sl_24 O O O (by omega)) (Sn (VL.putR H 0 st_5 O O O (by omega) ?_))))
    intro w H
    try simp only [List.set,List.eraseIdx] at H
    refine Lt (Cs (VC.drawTail 23 mixedP (by kernel_rfl) ?_))
    intro w hsame
    replace H:=H.same hsame
    refine So O (YS s1) (So O (YI s7) (So O (Y.add O O (n32 (b:=1) (by omega))) (So O (Y.ixS0 _ sl_24 O O O (by omega)) (So O (Y.ld (v:=.int .u8 (pG A:Nat)) ld_5 O (H.cell 0 O ((rowK_get (by omega)).trans (by rw [if_neg (by omega),hA1])))) (So O (YS s1) (So O (YI s7) (So O (Y.sub O O (s32 (b:=3) (by omega))) (So O (Y.ixS0 _ sl_24 O O O (by omega)) (So O (Y.ld (v:=.int .u8 (pG L:Nat)) ld_5 O (H.cell 0 O ((rowK_get (by omega)).trans (by rw [if_neg (by omega),hL1])))) (So O (YS s1) (So O (YI s10) (So O (Y.add O O (n64 (b:=1) (by omega))) (So O (Y.ixS0 _ sl_24 O O O (by omega)) (So O (Y.ld (v:=.int .u8 (pG T:Nat)) ld_5 O (H.cell 0 O ((rowK_get (by omega)).trans (by rw [if_neg (by omega),hT1])))) (So O (YS s1) (So O (YI s10) (So O (Y.sub O O (s64 (b:=3) (by omega))) (So O (Y.ixS0 _ sl_24 O O O (by omega)) (So O (Y.ld (v:=.int .u8 (pG TL:Nat)) ld_5 O (H.cell 0 O ((rowK_get (by omega)).trans (by rw [if_neg (by omega),hTL1])))) ?_)))))))))))))))))))
    refine VS.call O ent_122 (clampF_any _ _ _ _ (by assumption) (by assumption) (by assumption)) O (So O (Y.add O O (nu8)) (So O (Y.ixS0 _ sl_24 O O O (by omega)) (Sn (VL.putR H 0 st_5 O O O (by omega) ?_))))
    intro w H
    try simp only [List.set,List.eraseIdx] at H
    refine Lt (Cs (VC.drawTail 23 mixedP (by kernel_rfl) ?_))
    intro w hsame
    replace H:=H.same hsame
    refine So O (YS s1) (So O (YI s7) (So O (Y.add O O (n32 (b:=2) (by omega))) (So O (Y.ixS0 _ sl_24 O O O (by omega)) (So O (Y.ld (v:=.int .u8 (pB A:Nat)) ld_5 O (H.cell 0 O ((rowK_get (by omega)).trans (by rw [if_neg (by omega),if_neg (by omega),hA2])))) (So O (YS s1) (So O (YI s7) (So O (Y.sub O O (s32 (b:=2) (by omega))) (So O (Y.ixS0 _ sl_24 O O O (by omega)) (So O (Y.ld (v:=.int .u8 (pB L:Nat)) ld_5 O (H.cell 0 O ((rowK_get (by omega)).trans (by rw [if_neg (by omega),if_neg (by omega),hL2])))) (So O (YS s1) (So O (YI s10) (So O (Y.add O O (n64 (b:=2) (by omega))) (So O (Y.ixS0 _ sl_24 O O O (by omega)) (So O (Y.ld (v:=.int .u8 (pB T:Nat)) ld_5 O (H.cell 0 O ((rowK_get (by omega)).trans (by rw [if_neg (by omega),if_neg (by omega),hT2])))) (So O (YS s1) (So O (YI s10) (So O (Y.sub O O (s64 (b:=2) (by omega))) (So O (Y.ixS0 _ sl_24 O O O (by omega)) (So O (Y.ld (v:=.int .u8 (pB TL:Nat)) ld_5 O (H.cell 0 O ((rowK_get (by omega)).trans (by rw [if_neg (by omega),if_neg (by omega),hTL2])))) ?_)))))))))))))))))))
    refine VS.call O ent_122 (clampF_any _ _ _ _ (by assumption) (by assumption) (by assumption)) O (So O (Y.add O O (nu8)) (So O (Y.ixS0 _ sl_24 O O O (by omega)) (Sn (VL.putR H 0 st_5 O O O (by omega) ?_))))
    intro w H
    try simp only [List.set,List.eraseIdx] at H
    refine Lt (VC.drawTail 23 mixedP (by kernel_rfl) ?_)
    intro w hsame
    replace H:=H.same hsame
    refine So O (YS s1) (So O (YI s7) (So O (Y.add O O (n32 (b:=3) (by omega))) (So O (Y.ixS0 _ sl_24 O O O (by omega)) (So O (Y.ld (v:=.int .u8 (pA A:Nat)) ld_5 O (H.cell 0 O ((rowK_get (by omega)).trans (by rw [if_neg (by omega),if_neg (by omega),if_neg (by omega),hA3])))) (So O (YS s1) (So O (YI s7) (So O (Y.sub O O (s32 (b:=1) (by omega))) (So O (Y.ixS0 _ sl_24 O O O (by omega)) (So O (Y.ld (v:=.int .u8 (pA L:Nat)) ld_5 O (H.cell 0 O ((rowK_get (by omega)).trans (by rw [if_neg (by omega),if_neg (by omega),if_neg (by omega),hL3])))) (So O (YS s1) (So O (YI s10) (So O (Y.add O O (n64 (b:=3) (by omega))) (So O (Y.ixS0 _ sl_24 O O O (by omega)) (So O (Y.ld (v:=.int .u8 (pA T:Nat)) ld_5 O (H.cell 0 O ((rowK_get (by omega)).trans (by rw [if_neg (by omega),if_neg (by omega),if_neg (by omega),hT3])))) (So O (YS s1) (So O (YI s10) (So O (Y.sub O O (s64 (b:=1) (by omega))) (So O (Y.ixS0 _ sl_24 O O O (by omega)) (So O (Y.ld (v:=.int .u8 (pA TL:Nat)) ld_5 O (H.cell 0 O ((rowK_get (by omega)).trans (by rw [if_neg (by omega),if_neg (by omega),if_neg (by omega),hTL3])))) ?_)))))))))))))))))))
    refine VS.call O ent_122 (clampF_any _ _ _ _ (by assumption) (by assumption) (by assumption)) O (So O (Y.add O O (nu8)) (So O (Y.ixS0 _ sl_24 O O O (by omega)) (Sn (VL.putR H 0 st_5 O O O (by omega) ?_))))
    intro w H
    try simp only [List.set,List.eraseIdx] at H
    refine Ln (blk_n (tn ?_))
    have hrow:∀ j,byteAt (M.set i (addPx A (predMode 12 L T TL TR))) j=if j=P+3 then (pA A+clampF (pA L) (pA T) (pA TL)) % 256 else if j=P+2 then (pB A+clampF (pB L) (pB T) (pB TL)) % 256 else if j=P+1 then (pG A+clampF (pG L) (pG T) (pG TL)) % 256 else if j=P+0 then (pR A+clampF (pR L) (pR T) (pR TL)) % 256 else byteAt M j:=fun j => hset _ _ _ _ _ (predMode_ch 12 L T TL TR (by decide)) j
    rw [rowK_congr (g:=byteAt (M.set i (addPx A (predMode 12 L T TL TR)))) (fun j _ => hrow j)] at H
    exact ⟨s0,s1,s2,s7,s8,s10,s11,s12,s13,s14,s15,H⟩
  case neg =>
  refine CF O (by omega) (Cy (Lo O (Y.eql O O) (Lo O (Y.asgB O) (Lt ?_))))
  by_cases hm13:md=13
  case pos =>
   as_aux_lemma =>
    subst hm13
    refine CT O (by omega) (Cs (VC.drawTail 24 mixedP (by kernel_rfl) ?_))
    intro w hsame
    replace H:=H.same hsame
    refine So O (YS s1) (So O (YI s7) (So O (Y.add O O (n32 (b:=0) (by omega))) (So O (Y.ixS0 _ sl_24 O O O (by omega)) (So O (Y.ld (v:=.int .u8 (pR A:Nat)) ld_5 O (H.cell 0 O ((rowK_get (by omega)).trans (by rw [hA0])))) (So O (YS s1) (So O (YI s7) (So O (Y.sub O O (s32 (b:=4) (by omega))) (So O (Y.ixS0 _ sl_24 O O O (by omega)) (So O (Y.ld (v:=.int .u8 (pR L:Nat)) ld_5 O (H.cell 0 O ((rowK_get (by omega)).trans (by rw [hL0])))) (So O (YS s1) (So O (YI s10) (So O (Y.add O O (n64 (b:=0) (by omega))) (So O (Y.ixS0 _ sl_24 O O O (by omega)) (So O (Y.ld (v:=.int .u8 (pR T:Nat)) ld_5 O (H.cell 0 O ((rowK_get (by omega)).trans (by rw [hT0])))) (VS.call O ent_120 (avg2_any _ _ _ (by assumption) (by assumption)) O (So O (YS s1) (So O (YI s10) (So O (Y.sub O O (s64 (b:=4) (by omega))) (So O (Y.ixS0 _ sl_24 O O O (by omega)) ?_)))))))))))))))))))
    refine So O (Y.ld (v:=.int .u8 (pR TL:Nat)) ld_5 O (H.cell 0 O ((rowK_get (by omega)).trans (by rw [hTL0])))) (VS.call O ent_123 (clampH_any _ _ _ (avg_lt (by assumption) (by assumption)) (by assumption)) O (So O (Y.add O O (nu8)) (So O (Y.ixS0 _ sl_24 O O O (by omega)) (Sn (VL.putR H 0 st_5 O O O (by omega) ?_)))))
    intro w H
    try simp only [List.set,List.eraseIdx] at H
    refine Lt (Cs (VC.drawTail 24 mixedP (by kernel_rfl) ?_))
    intro w hsame
    replace H:=H.same hsame
    refine So O (YS s1) (So O (YI s7) (So O (Y.add O O (n32 (b:=1) (by omega))) (So O (Y.ixS0 _ sl_24 O O O (by omega)) (So O (Y.ld (v:=.int .u8 (pG A:Nat)) ld_5 O (H.cell 0 O ((rowK_get (by omega)).trans (by rw [if_neg (by omega),hA1])))) (So O (YS s1) (So O (YI s7) (So O (Y.sub O O (s32 (b:=3) (by omega))) (So O (Y.ixS0 _ sl_24 O O O (by omega)) (So O (Y.ld (v:=.int .u8 (pG L:Nat)) ld_5 O (H.cell 0 O ((rowK_get (by omega)).trans (by rw [if_neg (by omega),hL1])))) (So O (YS s1) (So O (YI s10) (So O (Y.add O O (n64 (b:=1) (by omega))) (So O (Y.ixS0 _ sl_24 O O O (by omega)) (So O (Y.ld (v:=.int .u8 (pG T:Nat)) ld_5 O (H.cell 0 O ((rowK_get (by omega)).trans (by rw [if_neg (by omega),hT1])))) (VS.call O ent_120 (avg2_any _ _ _ (by assumption) (by assumption)) O (So O (YS s1) (So O (YI s10) (So O (Y.sub O O (s64 (b:=3) (by omega))) (So O (Y.ixS0 _ sl_24 O O O (by omega)) ?_)))))))))))))))))))
    refine So O (Y.ld (v:=.int .u8 (pG TL:Nat)) ld_5 O (H.cell 0 O ((rowK_get (by omega)).trans (by rw [if_neg (by omega),hTL1])))) (VS.call O ent_123 (clampH_any _ _ _ (avg_lt (by assumption) (by assumption)) (by assumption)) O (So O (Y.add O O (nu8)) (So O (Y.ixS0 _ sl_24 O O O (by omega)) (Sn (VL.putR H 0 st_5 O O O (by omega) ?_)))))
    intro w H
    try simp only [List.set,List.eraseIdx] at H
    refine Lt (Cs (VC.drawTail 24 mixedP (by kernel_rfl) ?_))
    intro w hsame
    replace H:=H.same hsame
    refine So O (YS s1) (So O (YI s7) (So O (Y.add O O (n32 (b:=2) (by omega))) (So O (Y.ixS0 _ sl_24 O O O (by omega)) (So O (Y.ld (v:=.int .u8 (pB A:Nat)) ld_5 O (H.cell 0 O ((rowK_get (by omega)).trans (by rw [if_neg (by omega),if_neg (by omega),hA2])))) (So O (YS s1) (So O (YI s7) (So O (Y.sub O O (s32 (b:=2) (by omega))) (So O (Y.ixS0 _ sl_24 O O O (by omega)) (So O (Y.ld (v:=.int .u8 (pB L:Nat)) ld_5 O (H.cell 0 O ((rowK_get (by omega)).trans (by rw [if_neg (by omega),if_neg (by omega),hL2])))) (So O (YS s1) (So O (YI s10) (So O (Y.add O O (n64 (b:=2) (by omega))) (So O (Y.ixS0 _ sl_24 O O O (by omega)) (So O (Y.ld (v:=.int .u8 (pB T:Nat)) ld_5 O (H.cell 0 O ((rowK_get (by omega)).trans (by rw [if_neg (by omega),if_neg (by omega),hT2])))) (VS.call O ent_120 (avg2_any _ _ _ (by assumption) (by assumption)) O (So O (YS s1) (So O (YI s10) (So O (Y.sub O O (s64 (b:=2) (by omega))) (So O (Y.ixS0 _ sl_24 O O O (by omega)) ?_)))))))))))))))))))
    refine So O (Y.ld (v:=.int .u8 (pB TL:Nat)) ld_5 O (H.cell 0 O ((rowK_get (by omega)).trans (by rw [if_neg (by omega),if_neg (by omega),hTL2])))) (VS.call O ent_123 (clampH_any _ _ _ (avg_lt (by assumption) (by assumption)) (by assumption)) O (So O (Y.add O O (nu8)) (So O (Y.ixS0 _ sl_24 O O O (by omega)) (Sn (VL.putR H 0 st_5 O O O (by omega) ?_)))))
    intro w H
    try simp only [List.set,List.eraseIdx] at H
    refine Lt (VC.drawTail 24 mixedP (by kernel_rfl) ?_)
    intro w hsame
    replace H:=H.same hsame
    refine So O (YS s1) (So O (YI s7) (So O (Y.add O O (n32 (b:=3) (by omega))) (So O (Y.ixS0 _ sl_24 O O O (by omega)) (So O (Y.ld (v:=.int .u8 (pA A:Nat)) ld_5 O (H.cell 0 O ((rowK_get (by omega)).trans (by rw [if_neg (by omega),if_neg (by omega),if_neg (by omega),hA3])))) (So O (YS s1) (So O (YI s7) (So O (Y.sub O O (s32 (b:=1) (by omega))) (So O (Y.ixS0 _ sl_24 O O O (by omega)) (So O (Y.ld (v:=.int .u8 (pA L:Nat)) ld_5 O (H.cell 0 O ((rowK_get (by omega)).trans (by rw [if_neg (by omega),if_neg (by omega),if_neg (by omega),hL3])))) (So O (YS s1) (So O (YI s10) (So O (Y.add O O (n64 (b:=3) (by omega))) (So O (Y.ixS0 _ sl_24 O O O (by omega)) (So O (Y.ld (v:=.int .u8 (pA T:Nat)) ld_5 O (H.cell 0 O ((rowK_get (by omega)).trans (by rw [if_neg (by omega),if_neg (by omega),if_neg (by omega),hT3])))) (VS.call O ent_120 (avg2_any _ _ _ (by assumption) (by assumption)) O (So O (YS s1) (So O (YI s10) (So O (Y.sub O O (s64 (b:=1) (by omega))) (So O (Y.ixS0 _ sl_24 O O O (by omega)) ?_)))))))))))))))))))
    refine So O (Y.ld (v:=.int .u8 (pA TL:Nat)) ld_5 O (H.cell 0 O ((rowK_get (by omega)).trans (by rw [if_neg (by omega),if_neg (by omega),if_neg (by omega),hTL3])))) (VS.call O ent_123 (clampH_any _ _ _ (avg_lt (by assumption) (by assumption)) (by assumption)) O (So O (Y.add O O (nu8)) (So O (Y.ixS0 _ sl_24 O O O (by omega)) (Sn (VL.putR H 0 st_5 O O O (by omega) ?_)))))
    intro w H
    try simp only [List.set,List.eraseIdx] at H
    refine Ln (blk_n (tn ?_))
    have hrow:∀ j,byteAt (M.set i (addPx A (predMode 13 L T TL TR))) j=if j=P+3 then (pA A+clampH (avg (pA L) (pA T)) (pA TL)) % 256 else if j=P+2 then (pB A+clampH (avg (pB L) (pB T)) (pB TL)) % 256 else if j=P+1 then (pG A+clampH (avg (pG L) (pG T)) (pG TL)) % 256 else if j=P+0 then (pR A+clampH (avg (pR L) (pR T)) (pR TL)) % 256 else byteAt M j:=fun j => hset _ _ _ _ _ (predMode_ch 13 L T TL TR (by decide)) j
    rw [rowK_congr (g:=byteAt (M.set i (addPx A (predMode 13 L T TL TR)))) (fun j _ => hrow j)] at H
    exact ⟨s0,s1,s2,s7,s8,s10,s11,s12,s13,s14,s15,H⟩
  case neg =>
  refine CF O (by omega) (Ck (blk_n (tn ?_)))
  have hmd14:md=14∨md=15:=by omega
  have hz:predMode md L T TL TR=0:=predMode_high hmd14 L T TL TR
  rw [hz]
  rw [rowK_congr (g:=byteAt (M.set i (addPx A 0))) (fun j _ => hsetz j)] at H
  exact ⟨s0,s1,s2,s7,s8,s10,s11,s12,s13,s14,s15,H⟩
 case refine_2 =>
 clear s0 s1 s2 s7 s8 s10 s11 s12 s13 s14 s15 H ρ
 rintro ρ w4 ⟨s0,s1,s2,s7,s8,s10,s11,s12,s13,s14,s15,H⟩
 rw [hst] at H
 refine Cr (Lo O (YI (by assumption)) (Lo O (Y.add O O (n32 (b:=4) (by omega))) (Lo O (YI (by assumption)) (Lo O (Y.add O O (n64 (b:=4) (by omega))) (Lo O (AI O) (Lo O (AI O) (Ln (blk_n (tn (Cr (Lo O (YI (by assumption)) (Lo O (Y.add O O (n32 (b:=1) (by omega))) (Lo O (AI O) (Lt ?_))))))))))))))
 exact ⟨t.wd - (x+1),by omega,x+1,qx+1,P+4,Q+4,rfl,by omega,by omega,by omega,by omega,by rw [Nat.add_sub_cancel,hqx],s0,s1,s2,rfl,s8,rfl,s11,s12,s13,by rw [Nat.add_sub_cancel,← hqx,← hmd];exact s14,rfl,by rw [← Nat.add_assoc,← hi];exact H⟩
end Go.Proofs.YtinkhckpckfajaaDoor
