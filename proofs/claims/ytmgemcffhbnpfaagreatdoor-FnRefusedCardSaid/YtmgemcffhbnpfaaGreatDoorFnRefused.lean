/-
 FnRefusedCardSaid is proved, the given statement with its card: a stream in which bytes were changed is refused if the specification refuses it and is sure:
 a call of laws.FnRefused with any arguments of its types ends, returns true, and turns nothing that lay in memory before.
 Conditions: those of the given statement alone (the arguments are of their types and lie in memory as the row says;
 the package variables that the row lists are as the program lays them). No others.
-/
import Derived.Test.YtmgemcffhbnpfaaGreatDoorA13
import Derived.Test.YtmgemcffhbnpfaaGreatDoorTie
import Derived.Test.YtmgemcffhbnpfaaGreatDoorCards
import Derived.SevenTiedAt
set_option linter.unusedVariables false
set_option linter.unusedSimpArgs false
set_option maxRecDepth 100000
set_option maxHeartbeats 1000000
namespace Go.Proofs.YtmgemcffhbnpfaaGreatDoor
open Go
theorem z0 (W:World) (x y:Int) (lv wv pv bv:Value) (ln wn pn bn:Nat) (G:Gl W) (L:H_ lv ln W) (Wy:EY wv wn W) (Pl:EY pv pn W) (Bi:K8 bv bn W) :
  Calls Tryz.prog 4 #[.int .i64 x,.int .i64 y,lv,wv,pv,bv] W fun e w' => e=.returned (.bool true)∧cf [] W w':=by
 obtain ⟨la,lc,rfl⟩:=L.val
 obtain ⟨wa,wc,rfl⟩:=Wy.val
 obtain ⟨pa,qc,rfl,hPl⟩:=Pl
 obtain ⟨ba,bc,rfl,hBi⟩:=Bi
 have H:St W [] [] W:=St.nil W []
 refine enter (m:=122) Tryz.func4 O Tryz.ntmps4 O (Cy (cU O (Lt ?_)))
 by_cases h0_:2147483647<ln
 case pos =>
  refine Cs (Cy (bU O (bG aZ O (Lp (bE (b:=true) O O (decide_eq_true ω)) (dh O (Lk (Lk (Lk (ay O O (dh O (Lk (Lk (Lk (ay O O (dh O (Lk (Lk (Lk (ay O O ?_)))))))))))))))))))
  refine Lt ?_
  refine Cp O ?_
  refine Cy (cU O (Lt (Ct (aE ?_))))
  exact ak O O ⟨O,cf.refl _ _⟩
 by_cases h1_:2147483647<wn
 case pos =>
  refine Cs (Cy (bU O (bG aZ O (Lp (bE (b:=false) O O (decide_eq_false ω)) (dh O (Lg (YS O) (Lg (dx bh O) (Lg (bE (b:=true) O O (decide_eq_true ω)) (ay O O (dh O (Lk (Lk (Lk (ay O O (dh O (Lk (Lk (Lk (ay O O ?_)))))))))))))))))))
  refine Lt ?_
  refine Cp O ?_
  refine Cy (cU O (Lt (Ct (aE ?_))))
  exact ak O O ⟨O,cf.refl _ _⟩
 by_cases h2_:2147483647<pn
 case pos =>
  refine Cs (Cy (bU O (bG aZ O (Lp (bE (b:=false) O O (decide_eq_false ω)) (dh O (Lg (YS O) (Lg (dx bh O) (Lg (bE (b:=false) O O (decide_eq_false ω)) (ay O O (dh O (Lg (YS O) (Lg (dx bh O) (Lg (bE (b:=true) O O (decide_eq_true ω)) (ay O O (dh O (Lk (Lk (Lk (ay O O ?_)))))))))))))))))))
  refine Lt ?_
  refine Cp O ?_
  refine Cy (cU O (Lt (Ct (aE ?_))))
  exact ak O O ⟨O,cf.refl _ _⟩
 by_cases h3_:2147483647<bn
 case pos =>
  refine Cs (Cy (bU O (bG aZ O (Lp (bE (b:=false) O O (decide_eq_false ω)) (dh O (Lg (YS O) (Lg (dx bh O) (Lg (bE (b:=false) O O (decide_eq_false ω)) (ay O O (dh O (Lg (YS O) (Lg (dx bh O) (Lg (bE (b:=false) O O (decide_eq_false ω)) (ay O O (dh O (Lg (YS O) (Lg (dx am O) (Lg (bE (b:=true) O O (decide_eq_true ω)) (ay O O ?_)))))))))))))))))))
  refine Lt ?_
  refine Cp O ?_
  refine Cy (cU O (Lt (Ct (aE ?_))))
  exact ak O O ⟨O,cf.refl _ _⟩
 refine Cs (Cy (bU O (bG aZ O (Lp (bE (b:=false) O O (decide_eq_false ω)) (dh O (Lg (YS O) (Lg (dx bh O) (Lg (bE (b:=false) O O (decide_eq_false ω)) (ay O O (dh O (Lg (YS O) (Lg (dx bh O) (Lg (bE (b:=false) O O (decide_eq_false ω)) (ay O O (dh O (Lg (YS O) (Lg (dx am O) (Lg (bE (b:=false) O O (decide_eq_false ω)) (ay O O ?_)))))))))))))))))))
 refine Lt (Cq O (Ck (tn (Cy (ai O (ai O (bU O (xS (m:=12) δ δ L O O O O O ?_))))))))
 intro w1 wd ht px pb pc hf1 g1 g2 g3 g4 g5 Ip hpc hpb hv
 refine gr O (av O O (av O O (av O O (az O (az O (gS O (Lt ?_)))))))
 have hp:px.length≤144:=by rw [g5];exact Nat.mul_le_mul g2 g4
 refine Cy (ai O (ai O (bU O (bU O (ul (G.keep0 hf1) Ip hpc g5 ω g1 g3 (Wy.keep hf1) ω O O O O O ?_)))))
 intro w2 X sb sc hf2 hR I hsb hsc hX hV hXl
 refine gS O (Lt ?_)
 have hpl:(gY X).length=nB X:=iN X
 have hnb:nB X≤2000000:=by unfold nB;omega
 have hsbW:W.heap.size≤sb:=Nat.le_trans hf1.size hsb
 replace H:St W [] [aA (aT sb) sc 5 1 (gY X).length (nums .u8 (gY X))] w2:=H.add (hf1.trans hf2) hV (cI _ _ _ _ _ _) (fun b hb => by simp [aA,bQ] at hb;omega)
 have hsm0:=I.small
 obtain ⟨N,hN⟩:∃ N,N=(gY X).length:=⟨_,rfl⟩
 rw [← hN] at H hpl hsc
 clear I hV
 refine Cs (Cy (bU O (bG bh O (ai O (Lt ?_)))))
 refine aH (fun ρ w' => ∃ qs:List Nat,qs.length=N∧(∀ c ∈ qs,c<256)∧ρ 14=.slice (aT sb) N sc∧St W [] [aA (aT sb) sc 5 1 N (nums .u8 qs)] w') ?_ ?_
 case refine_1 =>
  refine Cb ?_
  refine Cl (fun mm ρ w' => ∃ i,∃ qs:List Nat,i≤pn∧mm=pn - i∧qs.length=N∧(∀ c ∈ qs,c<256)∧ρ 5=.slice ba bn bc∧ρ 14=.slice (aT sb) N sc∧ρ 57=.slice pa pn qc∧ρ 58=iT pn∧ρ 59=iT i∧St W [] [aA (aT sb) sc 5 1 N (nums .u8 qs)] w') pn
   ⟨0,gY X,ω,rfl,hN.symm,hsm0,rfl,by rw [hN];rfl,rfl,rfl,rfl,H⟩ ?_
  clear H
  rintro mm ρ w5 ⟨i,qs,hi,hmm,hql,hqs,r5,r14,r57,r58,r59,H⟩
  refine Cy (bP r59 r58 (Lt ?_))
  by_cases hlt:i<pn
  case neg =>
   refine Cs (CF O ω (Cx (ax (ax (br (tn ?_))))))
   exact ⟨qs,hql,hqs,r14,H⟩
  rcases hPl with h | ⟨zb,zo,zs,rfl,rfl,hz⟩
  ·omega
  obtain ⟨z,hzi⟩:∃ z,z=zs[i]:=⟨_,rfl⟩
  have hzc:=hz i hlt
  rw [← hzi] at hzc
  refine Cs (CT O ω (Ck (tn (Cs (Cb (Cy (ai r59 (Lp (ci i bh r57 r59 O hlt) (aC a_ O (H.old hzc List.not_mem_nil) (az O (az O (Lt ?_))))))))))))
  by_cases hb0:bn=0
  case pos =>
   refine Cy (bU r5 (bG am O (Lp (bE (b:=false) O O (decide_eq_false ω)) (Lt (Cq O (Ck (aF (tn (Cr (ao (r:=((i+1:Nat):Int)) r59 O (ck (b:=1) ω) (ai O (Lt ?_))))))))))))
   exact ⟨zs.length - (i+1),ω,i+1,qs,hlt,O,hql,hqs,r5,r14,r57,r58,O,H⟩
  rcases hBi with h | ⟨yb,yo,bs,rfl,rfl,hbc,hbs⟩
  ·exact absurd h hb0
  have hjl:i % bs.length<bs.length:=Nat.mod_lt _ ω
  have hyc:=hbc _ hjl
  have hys:=hbs _ (List.getElem_mem hjl)
  obtain ⟨k,hk,ek,hk1,hk2⟩:=sY z N ω ω
  have hq8:qs.getD k 0<256:=by
   have e:qs.getD k 0=qs[k]'ω:=by simp [show k<qs.length by omega]
   rw [e]
   exact hqs _ (List.getElem_mem _)
  have hx1:w5.cell? ⟨sb,k,none⟩=some (.int .u8 (qs.getD k 0:Nat)):=bT.cellS (show bT w5 _ _ _ _ _ _ from H.get (i:=0) rfl) (de ω)
  obtain ⟨v,hv'⟩:∃ v,v=qs.getD k 0 ^^^ bs[i % bs.length]:=⟨_,rfl⟩
  have hv8:v<256:=by rw [hv'];exact Nat.xor_lt_two_pow (n:=8) hq8 hys
  refine Cy (bU r5 (bG am O (Lp (bE (b:=true) O O (decide_eq_true ω)) (Lt ?_))))
  refine Cp O ?_
  refine ar 21 aJ κ ?_
  intro w hsame
  replace H:=H.same hsame
  have hy1:=hsame.frm.cell hx1 List.not_mem_nil
  refine cF r14 (bW O (cF r14 (Sp (dx am O) (Sp (gI (r:=z.tmod (N:Nat)) O O ω O) (cF r14 (Sp (dx am O) (aG (r:=z.tmod (N:Nat)+(N:Nat)) O O (fg ω) (cF r14 (Sp (dx am O) (Sp (gI (r:=((k:Nat):Int)) O O ω ek) (Sp (bO k am O O O hk) (aD aQ O hy1 (cF r5 (bW O (cF r5 (Sp (dx am O) (Sp (gI (r:=((i % bs.length:Nat):Int)) O O ω rN) (Sp (ci (i % bs.length) am O O O hjl) (aD aQ O (H.old hyc List.not_mem_nil) ?_)))))))))))))))))))
  refine Sp (JC (r:=((v:Nat):Int)) O O (by rw [hv'];exact x8 ⟨hq8,hys⟩)) (Sn (Lp (bO k am O O O hk) (sU (v:=.int .u8 (v:Nat)) H 0 cZ O O O O hk ?_)))
  intro w H
  simp only [List.set] at H
  rw [jR] at H
  refine Ln (aF (tn (Cr (ao (r:=((i+1:Nat):Int)) r59 O (ck (b:=1) ω) (ai O (Lt ?_))))))
  exact ⟨zs.length - (i+1),ω,i+1,qs.set k v,hlt,O,by simp [hql],fun c hc => by
   rcases List.mem_or_eq_of_mem_set hc with h | rfl
   ·exact hqs c h
   ·exact hv8,r5,r14,r57,r58,O,H⟩
 case refine_2 =>
 clear H hsm0
 rintro ρ w5 ⟨qs,hql,hqs,r14,H⟩
 subst hql
 have hV:bT w5 (aT sb) sc 5 1 qs.length (nums .u8 qs):=H.get (i:=0) rfl
 have hrow:l7 w5 .u8 sb 0 qs:=fun j hj => by
  rw [Nat.zero_add,hV.cellS (de hj)]
  simp [hj]
 have hsl:sb<w5.heap.size:=World.block_lt_of_cell? w5 _ (hrow 0 ω)
 have I:FE sb 0 qs w5:=⟨G.keep0 H.frm,hrow,hqs,ω,hsl⟩
 have B:xo sb 0 qs w5:=⟨hrow,hqs,ω⟩
 have hfr:=H.frm
 clear H hV
 refine Cs (Cy (bU r14 (aS O Jo (yD w5 sb 0 sc qs B hsl) O ?_)))
 rintro e w6 ⟨bsm,he,hf6,hsm⟩
 refine ⟨_,he,?_⟩
 refine Lp (fT O) (Lt ?_)
 cases bsm with
 | false =>
  refine Cp O ?_
  refine Cy (aS O vH (kp w6 (I.gl.keep0 hf6)) O ?_)
  rintro e w7 ⟨he,hf7⟩
  refine ⟨_,he,?_⟩
  refine cU O (Lt (Ct (aE ?_)))
  exact ak O O ⟨O,(hfr.trans hf6).trans hf7⟩
 | true =>
 replace hsm:=hsm rfl
 have hag:=D8 (fi qs)
 replace I:=I.keep0 hf6
 replace B:=B.keep hf6 List.not_mem_nil
 have hsl6:sb<w6.heap.size:=Nat.lt_of_lt_of_le hsl hf6.size
 refine Cq O (Ck (tn (Cy (bU r14 (aS O Jr (AU w6 sb 0 sc qs B hsl6 hsm) O ?_)))))
 rintro e w7 ⟨v1,v2,v3,v4,he,hf7,hval⟩
 refine ⟨_,he,?_⟩
 refine gr O (av O O (av O O (av O O (av O O (av O O (bI O (bI O (bI O (bI O (cU O (Lt ?_)))))))))))
 replace I:=I.keep0 hf7
 replace B:=B.keep hf7 List.not_mem_nil
 have hsl7:sb<w7.heap.size:=Nat.lt_of_lt_of_le hsl6 hf7.size
 replace hfr:=(hfr.trans hf6).trans hf7
 refine Cy (bU r14 (aS O Hy (BK sb 0 sc qs w7 I) O ?_))
 rintro e w8 ⟨hfi,hD⟩
 obtain ⟨u1,u2,u3,ok,he,hok⟩:∃ u1 u2 u3 ok,e=.returned (.tuple #[u1,u2,u3,.bool ok])∧(ok=true→iS (fi qs)≠none):=by
  rcases hD with ⟨_,rfl⟩ | ⟨wd',ht',out,R2,a,c,hr,rfl,_⟩
  ·exact ⟨_,_,_,_,O,fun h => nomatch h⟩
  ·exact ⟨_,_,_,_,O,fun _ => by rw [hr];exact Option.some_ne_none _⟩
 refine ⟨_,he,?_⟩
 refine gr O (av O O (av O O (av O O (av O O (bI O (bI O (bI O (cU O (Lt ?_)))))))))
 cases hf:(iu (pE qs)).2.f with
 | false =>
  refine Cy (aS O vH (kp w8 (I.gl.keep0 hfi)) O ?_)
  rintro e w9 ⟨he,hf9⟩
  refine ⟨_,he,?_⟩
  refine dh O (Lg (eA O) (Lg (eA O) (Lk (Lk (Lg (dQ O O) (Lg (eA O) (Lk (Lk (Lk (Lg (dQ O O) (ay O O (cU O (Lt (Ct ?_))))))))))))))
  exact ak O O ⟨O,(hfr.trans hfi).trans hf9⟩
 | true =>
 cases ok with
 | false =>
  refine Cy (aS O vH (kp w8 (I.gl.keep0 hfi)) O ?_)
  rintro e w9 ⟨he,hf9⟩
  refine ⟨_,he,?_⟩
  refine dh O (Lg (eA O) (Lg (eA O) (Lg (eA O) (Lg (fT O) (Lg (dQ O O) (Lg (eA O) (Lk (Lk (Lk (Lg (dQ O O) (ay O O (cU O (Lt (Ct ?_))))))))))))))
  exact ak O O ⟨O,(hfr.trans hfi).trans hf9⟩
 | true =>
 have ho:(iu (pE qs)).2.o=true:=by
  cases ho:(iu (pE qs)).2.o with
  | true => rfl
  | false => exact absurd ((hag ho).2 hf) (hok rfl)
 refine Cy (aS O vH (kp w8 (I.gl.keep0 hfi)) O ?_)
 rintro e w9 ⟨he,hf9⟩
 refine ⟨_,he,?_⟩
 refine dh O (Lg (eA O) (Lg (eA O) (Lg (eA O) (Lg (fT O) (Lg (dQ O O) (Lg (eA O) (Lg (YS r14) (kV O O O O Cu (xI w9 sb 0 sc qs ((B.keep hfi List.not_mem_nil).keep hf9 List.not_mem_nil) (Nat.lt_of_lt_of_le hsl7 (Nat.le_trans hfi.size hf9.size)) hsm) O ?_))))))))
 rintro e w10 ⟨he,hf10⟩
 rw [ho] at he
 refine ⟨_,he,?_⟩
 refine Lg (fT O) (Lg (dQ O O) (ay O O (cU O (Lt (Ct ?_)))))
 exact ak O O ⟨O,((hfr.trans hfi).trans hf9).trans hf10⟩
end Go.Proofs.YtmgemcffhbnpfaaGreatDoor
namespace Go.Proofs.YtmgemcffhbnpfaaGreatDoor
open Go Go.ChangeShapes Go.WideShapes Go.ChangeAt Go.RowKit
theorem KE {H:Type} {enc:TypeId × Value→H} {W:World} {base:Nat} {v:Value} {d:DataW H} {p:List MemPlace} (hval:Value.okWide Tryz.prog W .any base 24 v) (hd:DataW.Trod enc Tryz.prog W 0 (fun _ => true) true 24 v d p):∃ n,K8 v n W:=by
 obtain ⟨a,n,c,rfl,h⟩:=vS Tryz.underlying24 Tryz.underlying5 κ hval hd
 refine ⟨n,a,c,O,?_⟩
 by_cases h0:n=0
 ·exact .inl h0
 rcases h with h | ⟨sb,so,zs,rfl,rfl,hz,hwf⟩
 ·exact absurd h h0
 right
 have hz0:∀ j (h:j<zs.length),((zs[j].toNat:Nat):Int)=zs[j]∧zs[j].toNat<256:=fun j hj => by
  have:=hwf _ (List.getElem_mem hj)
  simp only [Lit.wf,Bool.and_eq_true,decide_eq_true_eq] at this
  have h1:(0:Int)≤zs[j]∧zs[j]≤255:=this
  omega
 refine ⟨sb,so,zs.map Int.toNat,O,by simp,fun j hj => ?_,fun q hq => ?_⟩
 ·simp only [List.length_map] at hj
  rw [hz j hj,List.getElem_map,(hz0 j hj).1]
 ·obtain ⟨z,hz2,rfl⟩:=List.mem_map.1 hq
  obtain ⟨j,hj,rfl⟩:=List.mem_iff_getElem.1 hz2
  exact (hz0 j hj).2
theorem wP (os:Os) (started:os.Started) (H:Type) (enc:TypeId × Value→H) :
  ReturnsInHanded {} Tryz.checked os 4 .any (fun w args => (Rows.fnRefusedSpec.pre enc Tryz.prog Tryz.f4 [] false w args∧laidMetH Tryz.prog iZ w)∧sizedMet enc Tryz.prog Tryz.f4 (OpenSpec.ofChange Rows.fnRefusedSpec) false w args)
   (Rows.fnRefusedSpec.post enc Tryz.prog Tryz.f4 false true false false):=by
 refine returnsInHanded_of_change_and (C:=Tryz.checked) (X:=fun w _ => laidMetH Tryz.prog iZ w) (fun _ _ _ hh h => h.of_heap hh) own started κ Tryz.func4
  (ChangeSpec.witness_shaped (enc:=enc) (C:=Tryz.checked) (os:=os) (X:=fun w _ => laidMetH Tryz.prog iZ w) false (World.doorLaid Tryz.prog 2000 os) #[.int .i64 0,.int .i64 0,.slice none 0 0,.slice none 0 0,.slice none 0 0,.slice none 0 0] 8 rfl (World.shaped_of_RefB κ κ) κ κ κ (Bv os _)) ?_
 intro W base args ds gs before hval0 hW _ _ hL _
 have hval:∀ (j:Nat) t v,Tryz.f4.params[j]?=some t→args[j]?=some v→Value.okWide Tryz.prog W .any base t v:=hval0
 have hW':=hW
 obtain ⟨p,q,hA0,hV,rfl,hfz,hnd⟩:=hW
 have hA:DataW.TrodAll enc Tryz.prog W 0 (fun _ => true) true Tryz.f4.params.toList args.toList ds p:=hA0
 obtain ⟨rfl,rfl⟩:=trodVars_none hV
 have hpar:Tryz.f4.params.toList=[3,3,22,23,23,24]:=by rw [Tryz.params4]
 rw [hpar] at hA
 obtain ⟨v0,_,d0,_,p0,_,e0,rfl,_,t0,hA⟩:=trodAll_cons hA
 obtain ⟨v1,_,d1,_,p1,_,rfl,rfl,_,t1,hA⟩:=trodAll_cons hA
 obtain ⟨v2,_,d2,_,p2,_,rfl,rfl,_,t2,hA⟩:=trodAll_cons hA
 obtain ⟨v3,_,d3,_,p3,_,rfl,rfl,_,t3,hA⟩:=trodAll_cons hA
 obtain ⟨v4,_,d4,_,p4,_,rfl,rfl,_,t4,hA⟩:=trodAll_cons hA
 obtain ⟨v5,_,d5,_,p5,_,rfl,rfl,_,t5,hA⟩:=trodAll_cons hA
 obtain ⟨rfl,rfl,_⟩:=trodAll_nil hA
 obtain rfl:args=#[v0,v1,v2,v3,v4,v5]:=Array.ext' e0
 rw [Tryz.params4] at hval
 obtain ⟨x0,rfl,rfl,_,_⟩:=open_int Tryz.underlying3 (hval 0 _ _ rfl rfl) t0
 obtain ⟨x1,rfl,rfl,_,_⟩:=open_int Tryz.underlying3 (hval 1 _ _ rfl rfl) t1
 obtain ⟨n2,L2⟩:=Lr (hval 2 _ _ rfl rfl) t2
 obtain ⟨n3,L3⟩:=IU (hval 3 _ _ rfl rfl) t3
 obtain ⟨n4,L4⟩:=IU (hval 4 _ _ rfl rfl) t4
 obtain ⟨n5,L5⟩:=KE (hval 5 _ _ rfl rfl) t5
 refine (z0 W x0 x1 v2 v3 v4 v5 n2 n3 n4 n5 (wt hL) L2 L3 L4 L5).mono fun e W' ⟨he,hf⟩ => ⟨_,he,BO O hW' O κ (fun t ht => ?_) hf⟩
 rw [hpar] at ht
 have hall:([3,3,22,23,23,24].all fun t => Tryz.prog.readableRec t && decide (t<Tryz.prog.types.size))=true:=κ
 simpa using List.all_eq_true.1 hall t ht
theorem vN:Rows.FnRefusedSaid :=
 OpenClaim.holds_of_wide 4 Tryz.f4 rfl rfl rfl rfl rfl rfl rfl ⟨rfl,rfl,rfl,rfl,rfl⟩ rfl rfl rfl rfl rfl κ Tryz.func4 κ
  (of_decide_eq_true κ) (by unfold Func.isWrapper;first | (rw [if_pos (by decide +kernel)];kernel_rfl) | (rw [if_neg (by decide +kernel)];exact ⟨rfl,rfl⟩))
  (fun os started H enc _ => wP os started H enc)
theorem fnRefused_card:Rows.FnRefusedCardSaid :=
 Claim7.holds_tied_plain_at .later [] [.sentinel, .sentinel, .sentinel, .sentinel, .data, .data, .data, .data, .data, .data, .funcs] true (true, "3de535e1b75a580af3dc32fb70743b10b9956d5adade8f57d1e0fbd1d50d6c96") true
  vN (fun _ h => by cases h) κ (fun _ h => by cases h) fnRefused_row_tie rfl ⟨rfl,rfl⟩ κ rfl
  (fun f fn hf hfn => by
   obtain rfl : f = 4 := Option.some.inj ((show Tryz.prog.funcNamed "tintslate/laws.FnRefused" = some 4 by kernel_rfl).symm.trans hf) |>.symm
   obtain rfl:fn=Tryz.f4:=(Option.some.inj (Tryz.func4.symm.trans hfn)).symm
   exact ⟨κ,fun j t ht => by
    rw [Tryz.params4] at ht
    have hm:t ∈ [3,3,22,23,23,24]:=by simpa using Array.mem_of_getElem? ht
    have hall:([3,3,22,23,23,24].all fun u => !Tryz.prog.wantsStandIn u)=true:=κ
    exact (show Tryz.prog.wantsStandIn t=false by simpa using List.all_eq_true.1 hall t hm)⟩)
  κ
#print axioms fnRefused_card
end Go.Proofs.YtmgemcffhbnpfaaGreatDoor
