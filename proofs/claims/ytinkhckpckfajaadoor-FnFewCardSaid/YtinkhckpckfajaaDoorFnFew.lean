/-
  FnFewCardSaid is proved, the given statement with its card: a picture of few colors, up to 256, is read as it was:
  a call of laws.FnFew with any arguments of its types ends, returns true, and turns nothing that lay in memory before.
  Conditions: those of the given statement alone (the arguments are of their types and lie in memory as the row says;
  the package variables that the row lists are as the program lays them). No others.
-/
import Derived.Test.YtinkhckpckfajaaDoorA13
import Derived.Test.YtinkhckpckfajaaDoorTie
import Derived.Test.YtinkhckpckfajaaDoorCards
import Derived.SevenTiedAt
set_option linter.unusedVariables false
set_option linter.unusedSimpArgs false
set_option maxRecDepth 100000
set_option maxHeartbeats 1000000
namespace Go.Proofs.YtinkhckpckfajaaDoor
open Go
theorem nums_put (k:IntKind) (qs:List Nat) (i p:Nat):(nums k qs).set i (.int k (p:Nat))=nums k (qs.set i p):=by
 unfold nums
 rw [List.map_set]
theorem set_lt {qs:List Nat} {i p:Nat} (h:∀ q ∈ qs,q<4294967296) (hp:p<4294967296):∀ q ∈ qs.set i p,q<4294967296:=fun q hq => by
 rcases List.mem_or_eq_of_mem_set hq with h1 | h1
 ·exact h q h1
 ·rw [h1];exact hp
theorem few_walk (W:World) (x y z:Int) (lv wv:Value) (ln wn:Nat) (G:Gl W) (L:LIn lv ln W) (Wy:WIn wv wn W) :
  Calls Tryd.prog 7 #[.int .i64 x,.int .i64 y,.int .i64 z,lv,wv] W fun e w' => e=.returned (.bool true)∧Frm [] W w':=by
 obtain ⟨la,lc,rfl,hL⟩:=L
 obtain ⟨wa,wc,rfl⟩:=Wy.val
 obtain ⟨k0,hk0,ek0,hk1,hk2⟩:∃ k:Nat,k<256∧(z.tmod 256+256).tmod 256=(k:Int)∧-256<z.tmod 256∧z.tmod 256<256:=mod_pos z 256 (by omega) (by omega)
 have H:St W [] [] W:=St.nil W []
 refine enter (m:=81) Tryd.func7 O Tryd.ntmps7 O (Cy (Lo O (Y.asgB O) (Lt ?_)))
 by_cases h1:2147483647<ln
 case pos =>
  refine Cs (Cy (Lo O (YS O) (Lo O (Y.len sl_22 O) (Lo O (Y.gtrD (b:=true) O O (decide_eq_true (by omega))) (Lo O (Y.movB O) (VL.skipG O O O O O (VL.skipG O O O O O (VL.skipG O O O O O (Lo O (Y.pick O O) (Lt ?_))))))))))
  refine CB O (fun _ => ?_) (fun h => nomatch h)
  refine Cy (Lo O (Y.asgB O) (Lt (Ct (thn_r ?_))))
  exact Done.ret1 O O ⟨rfl,Frm.refl _ _⟩
 by_cases h2:2147483647<wn
 case pos =>
  refine Cs (Cy (Lo O (YS O) (Lo O (Y.len sl_22 O) (Lo O (Y.gtrD (b:=false) O O (decide_eq_false (by omega))) (Lo O (Y.movB O) (LG O O O O (YS O) (LG O O O O (Y.len sl_23 O) (LG O O O O (Y.gtrD (b:=true) O O (decide_eq_true (by omega))) (Lo O (Y.pick O O) (Lt ?_))))))))))
  refine CB O (fun _ => ?_) (fun h => nomatch h)
  refine Cy (Lo O (Y.asgB O) (Lt (Ct (thn_r ?_))))
  exact Done.ret1 O O ⟨rfl,Frm.refl _ _⟩
 refine Cs (Cy (Lo O (YS O) (Lo O (Y.len sl_22 O) (Lo O (Y.gtrD (b:=false) O O (decide_eq_false (by omega))) (Lo O (Y.movB O) (LG O O O O (YS O) (LG O O O O (Y.len sl_23 O) (LG O O O O (Y.gtrD (b:=false) O O (decide_eq_false (by omega))) (Lo O (Y.pick O O) (Lt (CB O (fun h => nomatch h) (fun _ => (Ck (tn (Cy (Lo O (YI O) (Lo O (YI O) (VL.picture (m:=40) (ln:=0) (by decide) (by decide) ⟨none,0,rfl,.inl rfl⟩ O O O O O ?_))))))))))))))))))
 intro w1 wd ht px pb pc hf1 g1 g2 g3 g4 g5 Ip hpc hpb hv
 refine Lo O (Y.movT O) (Lo O (Y.ext O O) (Lo O (Y.ext O O) (Lo O (Y.ext O O) (Lo O (AI O) (Lo O (AI O) (Lo O (AS O) (Lt ?_)))))))
 have hp:px.length≤1600:=by rw [g5];exact Nat.mul_le_mul g2 g4
 replace H:St W [] [vecR (some ⟨pb,0,none⟩) pc 36 1 px.length (nums .u32 px)] w1:=H.add hf1 hv (vecR_local _ _ _ _ _ _) (fun b hb => by simp [vecR,footA] at hb;omega)
 refine Cy (Lo O (YI O) (Lo O (Y.remr O O (by omega) O) (Lo O (Y.add O O (w64 (by omega))) (Lo O (Y.remr O O (by omega) ek0) (Lo O (Y.add (r:=((k0+1:Nat):Int)) O O (n64 (b:=1) (by omega))) (Lo O (AI O) (Lt (Cs (Cy (Lo O (YS O) (Lo O (Y.len sl_22 O) (Lo O (YI O) (Lt ?_)))))))))))))
 refine VC.join (fun ρ w' => ∃ qs:List Nat,ρ 0=.int .i64 (wd:Nat)∧ρ 1=.int .i64 (ht:Nat)∧ρ 4=.slice wa wn wc∧ρ 11=.slice (some ⟨pb,0,none⟩) px.length pc∧qs.length=px.length∧(∀ p ∈ qs,p<4294967296)∧St W [] [vecR (some ⟨pb,0,none⟩) pc 36 1 px.length (nums .u32 qs)] w') ?_ ?_
 case refine_1 =>
  refine Cb ?_
  refine Cl (fun mm ρ w' => ∃ i,∃ qs:List Nat,i≤px.length∧mm=px.length - i∧ρ 0=.int .i64 (wd:Nat)∧ρ 1=.int .i64 (ht:Nat)∧ρ 2=.int .i64 ((k0+1:Nat):Int)∧ρ 3=.slice la ln lc∧ρ 4=.slice wa wn wc∧ρ 11=.slice (some ⟨pb,0,none⟩) px.length pc∧ρ 35=.int .i64 (px.length:Nat)∧ρ 36=.int .i64 (i:Nat)∧qs.length=px.length∧(∀ p ∈ qs,p<4294967296)∧St W [] [vecR (some ⟨pb,0,none⟩) pc 36 1 px.length (nums .u32 qs)] w') px.length
   ⟨0,px,by omega,rfl,rfl,rfl,rfl,rfl,rfl,rfl,rfl,rfl,rfl,Ip.small,H⟩ ?_
  clear H
  rintro mm ρ w5 ⟨i,qs,hi,hmm,r0,r1,r2,r3,r4,r11,r35,r36,hql,hqs,H⟩
  refine Cy (Lo O (Y.lss (by assumption) (by assumption)) (Lt ?_))
  by_cases hy:i=px.length
  case pos =>
   refine Cs (CF O (by omega) (Cx (thn_x (thn_x (blk_x (tn ?_))))))
   exact ⟨qs,r0,r1,r4,r11,hql,hqs,H⟩
  have hlt:i<px.length:=by omega
  have hii:i * i≤1600 * 1600:=Nat.mul_le_mul (by omega) (by omega)
  obtain ⟨k,hk,ek⟩:∃ k:Nat,k<4294967296∧((((i * i+i / 7) % 4294967296:Nat):Int).tmod (((k0+1) % 4294967296:Nat):Int))=(k:Int):=⟨(i * i+i / 7) % 4294967296 % ((k0+1) % 4294967296),Nat.lt_of_le_of_lt (Nat.mod_le _ _) (Nat.mod_lt _ (by decide)),rfl⟩
  obtain ⟨p1,hp1,e1⟩:=u32_any ((k:Int) * 19088743)
  refine Cs (CT O (by omega) (Ck (tn (Cs (Cb (Cy (Lo O (YI (by assumption)) (Lo O (AI O) (Lt (Cy (Lo O (YI O) (Lo O (YI O) (Lo O (Y.mul O O (m64 (by omega))) (Lo O (YI O) (Lo O (Y.quo (r:=((i / 7:Nat):Int)) O O (by omega) (q64 (b:=7) (by omega))) (Lo O (Y.add O O (n64 (by omega))) ?_))))))))))))))))
  refine Lo O (Y.cv int_3_36 O cu32) (Lo O (YI r2) (Lo O (Y.cv int_3_36 O cu32) (Lo O (Y.remr O O (by omega) ek) (Lo O (AI O) (Lt (Cy (Lo O (YS r11) (Lo O (YI O) (Lo O (YI O) (Lo O (Y.mul O O e1) (Lo O (Y.ixS1 i sl_22 O O O hlt) (VL.putV (v:=.int .u32 (p1:Nat)) H 0 st_36 O O O O (by omega) ?_))))))))))))
  intro w6 H
  replace H:St W [] [vecR (some ⟨pb,0,none⟩) pc 36 1 px.length (nums .u32 (qs.set i p1))] w6:=by rw [← nums_put];rw [Nat.zero_add i] at H;exact H
  refine Lt ?_
  have hqs1:=set_lt (i:=i) hqs hp1
  refine Cy (Lo O (YS r3) (Lo O (Y.len sl_22 O) (Lo O (Y.gtr O O) (Lt ?_))))
  by_cases hl0:ln=0
  case pos =>
   refine CF O (by omega) (Ck (blk_n (tn (Cr (Lo O (Y.add (r:=((i+1:Nat):Int)) r36 O (n64 (b:=1) (by omega))) (Lo O (YI O) (Lt ?_)))))))
   exact ⟨px.length - (i+1),by omega,i+1,qs.set i p1,by omega,rfl,r0,r1,r2,r3,r4,r11,r35,rfl,by simp [hql],hqs1,H⟩
  rcases hL with hL | ⟨sb,so,ls,rfl,rfl,hP⟩
  ·omega
  have hkl:k % ls.length<ls.length:=Nat.mod_lt _ (by omega)
  have hcell:=hP.row (k % ls.length) hkl
  have hls:ls[k % ls.length]<4294967296:=hP.small _ (List.getElem_mem hkl)
  have hx:p1 ^^^ ls[k % ls.length]<4294967296:=Nat.xor_lt_two_pow (n:=32) hp1 hls
  refine CT O (by omega) (Cr (Lo O (YS r11) (Lo O (YI O) (Lo O (YI O) (Lo O (Y.mul O O e1) (Lo O (YS r3) (Lo O (YI O) (Lo O (Y.cv int_36_3 O (c64 (by omega))) (Lo O (YS r3) (Lo O (Y.len sl_22 O) (Lo O (Y.remr O O (by omega) (rN)) (Lo O (Y.ixS1 (k % ls.length) sl_22 O O O hkl) (Lo O (Y.ld ld_36 O (H.old hcell (by simp))) (Lo O (Y.xor O O (x32 (by omega))) (Lo O (Y.ixS1 i sl_22 O O O hlt) (VL.putV (v:=.int .u32 (p1 ^^^ ls[k % ls.length]:Nat)) H 0 st_36 O O O O (by omega) ?_))))))))))))))))
  intro w7 H
  replace H:St W [] [vecR (some ⟨pb,0,none⟩) pc 36 1 px.length (nums .u32 ((qs.set i p1).set i (p1 ^^^ ls[k % ls.length])))] w7:=by rw [← nums_put];rw [Nat.zero_add i] at H;exact H
  refine Ln (blk_n (tn (Cr (Lo O (Y.add (r:=((i+1:Nat):Int)) r36 O (n64 (b:=1) (by omega))) (Lo O (YI O) (Lt ?_))))))
  exact ⟨px.length - (i+1),by omega,i+1,(qs.set i p1).set i (p1 ^^^ ls[k % ls.length]),by omega,rfl,r0,r1,r2,r3,r4,r11,r35,rfl,by simp [hql],set_lt hqs1 hx,H⟩
 case refine_2 =>
 clear H Ip hv
 rintro ρ w5 ⟨qs,r0,r1,r4,r11,hql,hqs,H⟩
 have hv:=H.get (i:=0) rfl
 rw [← hql] at r11
 have hrow:=vec_row (g:=pb) (c:=pc) (xs:=qs) (by rw [hql];exact hv)
 have hpos:0<wd * ht:=Nat.mul_pos g1 g3
 have Ip:PIn pb 0 qs w5:=⟨hrow,hqs,World.block_lt_of_cell? w5 _ (hrow 0 (by omega))⟩
 refine Cy (Lo O (YI r0) (Lo O (YI r1) (Lo O (YS r11) (Lo O (YS r4) (VL.encode (G.keep0 H.frm) Ip (by omega) (by omega) (by omega) g1 g3 (Wy.keep H.frm) (by omega) O O O O O ?_)))))
 intro w2 X sb sc hf2 hR I hsb hsc hX _ _
 obtain ⟨R',hdec⟩:=rds_pack hR
 refine Lo O (YI r0) (Lo O (YI r1) (Lo O (YS r11) (VL.is I (Ip.keep hf2 List.not_mem_nil) hdec O O O O O ?_)))
 intro w3 hf3
 refine Lo O (Y.asgB O) (Lt (Ct ?_))
 exact Done.ret1 O O ⟨rfl,(H.frm.trans hf2).trans hf3⟩
end Go.Proofs.YtinkhckpckfajaaDoor
namespace Go.Proofs.YtinkhckpckfajaaDoor
open Go Go.ChangeShapes Go.WideShapes Go.ChangeAt Go.RowKit
theorem few_lifted (os:Os) (started:os.Started) (H:Type) (enc:TypeId × Value→H) :
  ReturnsInHanded {} Tryd.checked os 7 .any (fun w args => (Rows.fnFewSpec.pre enc Tryd.prog Tryd.f7 [] false w args∧laidMetH Tryd.prog laidS w)∧sizedMet enc Tryd.prog Tryd.f7 (OpenSpec.ofChange Rows.fnFewSpec) false w args)
   (Rows.fnFewSpec.post enc Tryd.prog Tryd.f7 false true false false):=by
 refine returnsInHanded_of_change_and (C:=Tryd.checked) (X:=fun w _ => laidMetH Tryd.prog laidS w) (fun _ _ _ hh h => h.of_heap hh) own started (by kernel_rfl) Tryd.func7
  (ChangeSpec.witness_shaped (enc:=enc) (C:=Tryd.checked) (os:=os) (X:=fun w _ => laidMetH Tryd.prog laidS w) false (World.doorLaid Tryd.prog 2000 os) #[.int .i64 0,.int .i64 0,.int .i64 0,.slice none 0 0,.slice none 0 0] 8 rfl (World.shaped_of_RefB (by kernel_rfl) (by kernel_rfl)) (by kernel_rfl) (by kernel_rfl) (by kernel_rfl) (door_met os _)) ?_
 intro W base args ds gs before hval0 hW _ _ hL _
 have hval:∀ (j:Nat) t v,Tryd.f7.params[j]?=some t→args[j]?=some v→Value.okWide Tryd.prog W .any base t v:=hval0
 have hW':=hW
 obtain ⟨p,q,hA0,hV,rfl,hfz,hnd⟩:=hW
 have hA:DataW.TrodAll enc Tryd.prog W 0 (fun _ => true) true Tryd.f7.params.toList args.toList ds p:=hA0
 obtain ⟨rfl,rfl⟩:=trodVars_none hV
 have hpar:Tryd.f7.params.toList=[3,3,3,22,23]:=by rw [Tryd.params7]
 rw [hpar] at hA
 obtain ⟨v0,_,d0,_,p0,_,e0,rfl,_,t0,hA⟩:=trodAll_cons hA
 obtain ⟨v1,_,d1,_,p1,_,rfl,rfl,_,t1,hA⟩:=trodAll_cons hA
 obtain ⟨v2,_,d2,_,p2,_,rfl,rfl,_,t2,hA⟩:=trodAll_cons hA
 obtain ⟨v3,_,d3,_,p3,_,rfl,rfl,_,t3,hA⟩:=trodAll_cons hA
 obtain ⟨v4,_,d4,_,p4,_,rfl,rfl,_,t4,hA⟩:=trodAll_cons hA
 obtain ⟨rfl,rfl,_⟩:=trodAll_nil hA
 obtain rfl:args=#[v0,v1,v2,v3,v4]:=Array.ext' e0
 rw [Tryd.params7] at hval
 obtain ⟨x0,rfl,rfl,_,_⟩:=open_int Tryd.underlying3 (hval 0 _ _ rfl rfl) t0
 obtain ⟨x1,rfl,rfl,_,_⟩:=open_int Tryd.underlying3 (hval 1 _ _ rfl rfl) t1
 obtain ⟨x2,rfl,rfl,_,_⟩:=open_int Tryd.underlying3 (hval 2 _ _ rfl rfl) t2
 obtain ⟨n3,L3⟩:=l_in (hval 3 _ _ rfl rfl) t3
 obtain ⟨n4,L4⟩:=w_in (hval 4 _ _ rfl rfl) t4
 refine (few_walk W x0 x1 x2 v3 v4 n3 n4 (gl_of_laid hL) L3 L4).mono fun e W' ⟨he,hf⟩ => ⟨_,he,post_law O hW' O (by kernel_rfl) (fun t ht => ?_) hf⟩
 rw [hpar] at ht
 have hall:([3,3,3,22,23].all fun t => Tryd.prog.readableRec t && decide (t<Tryd.prog.types.size))=true:=by kernel_rfl
 simpa using List.all_eq_true.1 hall t ht
theorem fnFew_holds:Rows.FnFewSaid :=
 OpenClaim.holds_of_wide 7 Tryd.f7 rfl rfl rfl rfl rfl rfl rfl ⟨rfl,rfl,rfl,rfl,rfl⟩ rfl rfl rfl rfl rfl (by kernel_rfl) Tryd.func7 (by kernel_rfl)
  (of_decide_eq_true (by kernel_rfl)) (by unfold Func.isWrapper;first | (rw [if_pos (by decide +kernel)];kernel_rfl) | (rw [if_neg (by decide +kernel)];exact ⟨rfl,rfl⟩))
  (fun os started H enc _ => few_lifted os started H enc)
theorem fnFew_card:Rows.FnFewCardSaid :=
 Claim7.holds_tied_plain_at .later [] [.sentinel, .sentinel, .sentinel, .sentinel, .data, .data, .data, .data, .data, .data, .funcs] true (true, "8331098c51ca897b4b8427b5cb92b9093afaf9e5496467035e4138de255a6256") true
  fnFew_holds (fun _ h => by cases h) (by kernel_rfl) (fun _ h => by cases h) fnFew_row_tie rfl ⟨rfl,rfl⟩ (by kernel_rfl) rfl
  (fun f fn hf hfn => by
   obtain rfl : f = 7 := Option.some.inj ((show Tryd.prog.funcNamed "tintslate/laws.FnFew" = some 7 by kernel_rfl).symm.trans hf) |>.symm
   obtain rfl:fn=Tryd.f7:=(Option.some.inj (Tryd.func7.symm.trans hfn)).symm
   exact ⟨by kernel_rfl,fun j t ht => by
    rw [Tryd.params7] at ht
    have hm:t ∈ [3,3,3,22,23]:=by simpa using Array.mem_of_getElem? ht
    have hall:([3,3,3,22,23].all fun u => !Tryd.prog.wantsStandIn u)=true:=by kernel_rfl
    exact (show Tryd.prog.wantsStandIn t=false by simpa using List.all_eq_true.1 hall t hm)⟩)
  (by kernel_rfl)
#print axioms fnFew_card
end Go.Proofs.YtinkhckpckfajaaDoor
