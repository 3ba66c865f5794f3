/-
  FnTwiceCardSaid is proved, the given statement with its card: a stream that tells one transform twice is refused:
  a call of laws.FnTwice with any arguments of its types ends, returns true, and turns nothing that lay in memory before.
  Conditions: those of the given statement alone (the arguments are of their types and lie in memory as the row says;
  the package variables that the row lists are as the program lays them). No others.
-/
import Derived.Test.YtinkhckpckfajaaDoorA13
import Derived.Test.YtinkhckpckfajaaDoorTie
import Derived.Test.YtinkhckpckfajaaDoorCards
import Derived.SevenTiedAt
set_option linter.unusedVariables false
set_option linter.unusedSimpArgs false
set_option maxRecDepth 100000
set_option maxHeartbeats 1000000
namespace Go.Proofs.YtinkhckpckfajaaDoor
open Go
theorem bitsOf_take (s:List Nat) (k:Nat) (h:k≤s.length):bitsOf (s.take k)=(bitsOf s).take (8 * k):=by
 have e:bitsOf s=bitsOf (s.take k)++bitsOf (s.drop k):=by rw [← bitsOf_append,List.take_append_drop]
 rw [e,List.take_left' (by rw [bitsOf_length,List.length_take];omega)]
theorem cut_none {X:Bits} {v:Nat × Nat × List Nat} (h:Rds decAll X v) {k:Nat} (hk:k<nB X):decAll (bitsOf ((packB X).take k))=none:=by
 have hX:8 * k<X.length:=by unfold nB at hk;omega
 obtain ⟨q,_,e⟩:=bits_pack X
 rw [bitsOf_take _ _ (by rw [packB_length];omega),e,List.take_append_of_le_length (by omega)]
 refine Mono.cut decAll_mono (X:=X.take (8 * k)) (Z:=X.drop (8 * k)) (v:=v) (by rw [List.take_append_drop];exact h.nil) fun h0 => ?_
 have:=congrArg List.length h0
 rw [List.length_drop,List.length_nil] at this
 omega
theorem cut_walk (W:World) (x y z:Int) (lv wv:Value) (ln wn:Nat) (G:Gl W) (L:LIn lv ln W) (Wy:WIn wv wn W) :
  Calls Tryd.prog 6 #[.int .i64 x,.int .i64 y,lv,wv,.int .i64 z] W fun e w' => e=.returned (.bool true)∧Frm [] W w':=by
 obtain ⟨la,lc,rfl⟩:=L.val
 obtain ⟨wa,wc,rfl⟩:=Wy.val
 have H:St W [] [] W:=St.nil W []
 refine enter (m:=65) Tryd.func6 O Tryd.ntmps6 O (Cy (Lo O (Y.asgB O) (Lt ?_)))
 by_cases h1:2147483647<ln
 case pos =>
  refine Cs (Cy (Lo O (YS O) (Lo O (Y.len sl_22 O) (Lo O (Y.gtrD (b:=true) O O (decide_eq_true (by omega))) (Lo O (Y.movB O) (VL.skipG O O O O O (VL.skipG O O O O O (VL.skipG O O O O O (Lo O (Y.pick O O) (Lt ?_))))))))))
  refine CB O (fun _ => ?_) (fun h => nomatch h)
  refine Cy (Lo O (Y.asgB O) (Lt (Ct (thn_r ?_))))
  exact Done.ret1 O O ⟨rfl,Frm.refl _ _⟩
 by_cases h2:2147483647<wn
 case pos =>
  refine Cs (Cy (Lo O (YS O) (Lo O (Y.len sl_22 O) (Lo O (Y.gtrD (b:=false) O O (decide_eq_false (by omega))) (Lo O (Y.movB O) (LG O O O O (YS O) (LG O O O O (Y.len sl_23 O) (LG O O O O (Y.gtrD (b:=true) O O (decide_eq_true (by omega))) (Lo O (Y.pick O O) (Lt ?_))))))))))
  refine CB O (fun _ => ?_) (fun h => nomatch h)
  refine Cy (Lo O (Y.asgB O) (Lt (Ct (thn_r ?_))))
  exact Done.ret1 O O ⟨rfl,Frm.refl _ _⟩
 refine Cs (Cy (Lo O (YS O) (Lo O (Y.len sl_22 O) (Lo O (Y.gtrD (b:=false) O O (decide_eq_false (by omega))) (Lo O (Y.movB O) (LG O O O O (YS O) (LG O O O O (Y.len sl_23 O) (LG O O O O (Y.gtrD (b:=false) O O (decide_eq_false (by omega))) (Lo O (Y.pick O O) (Lt (CB O (fun h => nomatch h) (fun _ => (Ck (tn (Cy (Lo O (YI O) (Lo O (YI O) (Lo O (YS O) ?_))))))))))))))))))
 refine VL.picture (m:=12) (by decide) (by decide) L O O O O O ?_
 intro w1 wd ht px pb pc hf1 g1 g2 g3 g4 g5 Ip hpc hpb hv
 refine Lo O (Y.movT O) (Lo O (Y.ext O O) (Lo O (Y.ext O O) (Lo O (Y.ext O O) (Lo O (AI O) (Lo O (AI O) (Lo O (AS O) (Lt ?_)))))))
 have hp:px.length≤144:=by rw [g5];exact Nat.mul_le_mul g2 g4
 refine Cy (Lo O (YI O) (Lo O (YI O) (Lo O (YS O) (Lo O (YS O) (VL.encode (G.keep0 hf1) Ip hpc g5 (by omega) g1 g3 (Wy.keep hf1) (by omega) O O O O O ?_)))))
 intro w2 X sb sc hf2 hR I hsb hsc hX hV hXl
 refine Lo O (AS O) (Lt ?_)
 have hpl:(packB X).length=nB X:=packB_length X
 have hnb:nB X≤2000000:=by unfold nB;omega
 obtain ⟨k,hk,ek,hk1,hk2⟩:=mod_pos z (packB X).length (by omega) (by omega)
 have hkt:((packB X).take k).length=k:=by rw [List.length_take];omega
 have I2:SIn sb 0 ((packB X).take k) w2:=⟨I.gl,fun j hj => by rw [List.getElem_take];exact I.bytes j (by omega),fun c hc => I.small c (List.mem_of_mem_take hc),by rw [hkt];omega,I.sbl⟩
 obtain ⟨R',hdec⟩:=rds_pack hR
 have hnone:=cut_none hR (k:=k) (by omega)
 refine Cy (Lo O (YS O) (Lo O (YI O) (Lo O (YS O) (Lo O (Y.len sl_24 O) (Lo O (Y.remr (r:=z.tmod ((packB X).length:Nat)) O O (by omega) O) (Lo O (YS O) (Lo O (Y.len sl_24 O) (Lo O (Y.add (r:=z.tmod ((packB X).length:Nat)+((packB X).length:Nat)) O O (w64 (by omega))) (Lo O (YS O) (Lo O (Y.len sl_24 O) (Lo O (Y.remr (r:=((k:Nat):Int)) O O (by omega) ek) (Lo O (Y.sliceHi k sl_24 O O O (by omega)) (VL.call O ent_15 (impl_any sb 0 sc ((packB X).take k) w2 I2) (by simp [ev,upd,hkt]) ?_)))))))))))))
 rintro e w3 ⟨hf3,⟨_,he⟩ | ⟨wd',ht',out,R2,a,c,hr,_⟩⟩
 rotate_left
 ·rw [hnone] at hr;cases hr
 refine ⟨_,he,?_⟩
 refine Lo O (Y.movT O) (Lo O (Y.ext O O) (Lo O (Y.ext O O) (Lo O (Y.ext O O) (Lo O (Y.ext O O) (Lo O (AI O) (Lo O (AI O) (Lo O (AS O) (Lo O (Y.asgB O) (Lt (Cy (Lo O (Y.movB O) (Lo O (Y.not O) (Lo O (Y.movB O) (LG O O O O (YS O) (LG O O O O (YI O) (LG O O O O (YI O) (LG O O O O (YS O) ?_)))))))))))))))))
 refine VL.isG (I.keep0 hf3) ((Ip.keep hf2 List.not_mem_nil).keep hf3 List.not_mem_nil) hdec O O O O O O O O ?_
 intro w4 hf4
 refine Lo O (Y.pick O O) (Lo O (Y.asgB O) (Lt (Ct ?_)))
 exact Done.ret1 O O ⟨rfl,((hf1.trans hf2).trans hf3).trans hf4⟩
theorem greenTr (w:Nat):Rds (decTr 1 1) (trBits ⟨2,1,0,[]⟩ []) (⟨2,1,0,[]⟩,newW ⟨2,1,0,[]⟩) :=
 decTr_reads (t:=⟨2,1,0,[]⟩) (by decide) rfl (fun h => absurd h (by decide)) (fun _ => ⟨rfl,rfl⟩) (fun h => absurd h (by decide))
theorem once_reads {p:Nat} (hp:p<2 ^ 32) {Z:Bits} (hz:Rds (decPix true 1 1) Z [ungreens p 1]):Rds decAll (gX 1++bitsN 0 1++Z) (1,1,[p]):=by
 have h1:Rds (decTrs 1 5 1 []) (bitsN 1 1++(trBits ⟨2,1,0,[]⟩ []++bitsN 0 1)) ([⟨2,1,0,[]⟩],1):=decTrs_step (greenTr 0) rfl (decTrs_end _ _ _ _)
 have h2:=decAll_reads (wd:=1) (ht:=1) (a:=0) (by decide) (by decide) (by decide) (by decide) (by decide) h1 hz
 have e:undoAll 1 [⟨2,1,0,[]⟩] [ungreens p 1]=[p]:=(fwd1_ok (ht:=1) (t:=⟨2,1,0,[]⟩) (px:=[p]) (by decide) (by decide) (fun h => absurd h (by decide)) rfl (by simpa using hp)).1
 rw [e] at h2
 refine h2.congr ?_ O
 simp only [gX,List.nil_append,List.append_assoc]
 rfl
theorem twice_none (Y:Bits):decAll (gX 2++Y)=none:=by
 have e:gX 2++Y=hdBits 1 1 0++(bitsN 1 1++(trBits ⟨2,1,0,[]⟩ []++(bitsN 1 1++(trBits ⟨2,1,0,[]⟩ []++Y)))):=by
  simp only [gX,List.nil_append,List.append_assoc]
  rfl
 rw [e]
 unfold decAll
 rw [pb_ok (header_reads (wd:=1) (ht:=1) (a:=0) (by decide) (by decide) (by decide) (by decide) (by decide) _)]
 refine pb_no ?_
 show decTrs 1 5 1 [] _=none
 unfold decTrs
 rw [pb_ok (rds_bits (n:=1) (k:=1) (by decide) _),if_neg (by decide),pb_ok (greenTr 0 _),if_neg (by decide)]
 unfold decTrs
 rw [pb_ok (rds_bits (n:=1) (k:=1) (by decide) _),if_neg (by decide)]
 show pb (decTr 1 1) _ _=none
 rw [pb_ok (greenTr 0 _),if_pos (by decide)]
 rfl
section
variable {P:Program} {w w0:World} {t ty el by_:Nat} {zs:List Value} {S:List Nat} {l:List Res} {nn d:Nat} {Q:Post} {lo:List Oper} {ρ:Env} {pos:String} {after:Array Edge} {parts:Array (Nat × Operand)} {len:Nat} {rest:List Oper} {j dj:Nat} {b:Bool}
theorem VL.bsliceG (H:St w0 S l w) (F:MK P t el by_ zs) (cs:List Value) (hj:(lo[j]?).bind (·.dst)=some dj) (hdj:Nat.blt dj nn=true) (hb:ρ dj=.bool b) (hd:Nat.blt d nn=true) {ps:List (Nat × Value)} (hp:(parts.toList.map fun q => (q.1,ev ρ q.2))=ps) (h24:len * zs.length≤2 ^ 24) (h0:len * zs.length≠0)
  (hf:Instr.fill (fun i => some (i * zs.length,zs.length)) (mkCells len zs).toArray ps=some cs.toArray)
  (h:∀ w' b,w.heap.size≤b→w0.heap.size≤b→Frm [] w w'→St w0 S (blkR b cs el :: l) w'→VL P nn lo.toArray Q rest (upd ρ d (.slice (some ⟨b,0,none⟩) len len)) w') :
  VL P nn lo.toArray Q (⟨some d,.buildSlice t len parts,ty,pos,after,some (j,b)⟩ :: rest) ρ w:=by
 obtain ⟨hu,i,z,h1,h2,h3,h4,h5⟩:=F
 have hz:z.cells=zs.toArray:=by rw [← h3]
 have hr:=run_buildSlice (P:=P) w t el len (parts.map fun q => (q.1,ev ρ q.2)) cs.toArray i z hu h1 h2 (by rw [h4];omega) (by rw [h4];exact h0) (by
  have e:madeCells zs.toArray (len * zs.length)=(mkCells len zs).toArray:=by rw [← madeCells_list]
  rw [h4,hz,Array.toList_map,hp,← hf,← e]
  rfl)
 refine LG hj hdj hb hd (v:=.slice (some ⟨w.heap.size,0,none⟩) len len) (w':=w.alloc (.cells cs.toArray el)) ?_ (h _ _ (Nat.le_refl _) H.high (Frm.new [] w _) (H.new _ el))
 unfold Yld
 simp only [execOp,Sem.run_bind,hr,Result.andThen_ok]
 rfl
end
def GreenOk (W:World) (p many:Nat) (e:Ending) (w':World):Prop:=∃ Z,StrOk W (gX many++bitsN 0 1++Z) e w'∧Rds (decPix true 1 1) Z [ungreens p many]
theorem once_any (W:World) (p:Nat) (hp:p<2 ^ 32):Calls Tryd.prog 17 #[.int .u32 (p:Nat)] W (GreenOk W p 1):=by
 refine enter (m:=5) Tryd.func17 O Tryd.ntmps17 O (Cy (Lo O (Y.asg O) (Lt (Cy (Lo O (YI O) (VL.call O ent_35 (greens_any W p 1 hp (by decide)) O ?_))))))
 rintro e w ⟨Z,⟨a,c,rfl,hv,hfa,hf,hl⟩,hz⟩
 refine ⟨_,rfl,?_⟩
 refine Lo O (AS O) (Lt (Ct ?_))
 exact Done.ret1 O O ⟨Z,⟨a,c,rfl,hv,hfa,hf,hl⟩,hz⟩
theorem twice_any (W:World) (p:Nat) (hp:p<2 ^ 32):Calls Tryd.prog 16 #[.int .u32 (p:Nat)] W (GreenOk W p 2):=by
 refine enter (m:=5) Tryd.func16 O Tryd.ntmps16 O (Cy (Lo O (Y.asg O) (Lt (Cy (Lo O (YI O) (VL.call O ent_35 (greens_any W p 2 hp (by decide)) O ?_))))))
 rintro e w ⟨Z,⟨a,c,rfl,hv,hfa,hf,hl⟩,hz⟩
 refine ⟨_,rfl,?_⟩
 refine Lo O (AS O) (Lt (Ct ?_))
 exact Done.ret1 O O ⟨Z,⟨a,c,rfl,hv,hfa,hf,hl⟩,hz⟩
theorem gX_pos (n:Nat) (Z:Bits):0<nB (gX n++bitsN 0 1++Z):=by
 unfold nB
 have:=gX_length n
 rw [List.length_append,List.length_append,bnl]
 omega
theorem twice_walk (W:World) (p:Nat) (hp:p<2 ^ 32) (G:Gl W) :
  Calls Tryd.prog 8 #[.int .u32 (p:Nat)] W fun e w' => e=.returned (.bool true)∧Frm [] W w':=by
 have H:St W [] [] W:=St.nil W []
 have hps:∀ c ∈ [p],c<4294967296:=by simpa using hp
 refine enter (m:=37) Tryd.func8 O Tryd.ntmps8 O (Cy (Lo O (Y.asgB O) (Lt (Cy (Lo O (YI O) (VL.bslice H mk_22 (nums .u32 [p]) O O (by decide) (by decide) (by kernel_rfl) ?_))))))
 intro w b10 hn10 hb10 H
 refine VL.bslice H mk_23 (nums .i64 [0]) O O (by decide) (by decide) (by kernel_rfl) ?_
 intro w1 b11 hn11 hb11 H
 have Ip:PIn b10 0 [p] w1:=⟨nums_row (H.blk (i:=1) rfl),hps,(H.blk (i:=1) rfl).lt⟩
 have Wy:WIn (.slice (some ⟨b11,0,none⟩) 1 1) 1 w1:=⟨_,_,rfl,.inr ⟨b11,0,[0],rfl,rfl,fun j hj => by
  have:j=0:=by simp at hj;exact hj
  subst this
  exact H.cell 0 O rfl⟩⟩
 refine VL.encode (wd:=1) (ht:=1) (px:=[p]) (pc:=1) (G.keep0 H.frm) Ip (by simp) O (by simp) (by decide) (by decide) Wy (by decide) O O O O O ?_
 intro w2 X sb sc hf2 hR I hsb hsc hX hV hXl
 replace H:=H.quiet hf2
 obtain ⟨R',hdec⟩:=rds_pack hR
 refine Lo O (AS O) (Lt (Cy (Lo O (YI O) (VL.call O ent_16 (twice_any w2 p hp) O ?_))))
 rintro e w3 ⟨Z,hS,hz⟩
 obtain ⟨gb,gc,he,hI,hf3,_,_,_,_⟩:=hS.sin (gX_pos 2 Z) I.gl
 replace H:=H.quiet hf3
 refine ⟨_,he,?_⟩
 refine Lo O (AS O) (Lt ?_)
 have hnone:decAll (bitsOf (packB (gX 2++bitsN 0 1++Z)))=none:=by
  obtain ⟨q,_,e⟩:=bits_pack (gX 2++bitsN 0 1++Z)
  rw [e,List.append_assoc,List.append_assoc]
  exact twice_none _
 refine Cy (Lo O (YS O) (VL.call O ent_15 (impl_any gb 0 gc _ w3 hI) O ?_))
 rintro e w4 ⟨hf4,⟨_,he⟩ | ⟨wd',ht',out,R2,a,c,hr,_⟩⟩
 rotate_left
 ·rw [hnone] at hr;cases hr
 replace H:=H.quiet hf4
 refine ⟨_,he,?_⟩
 refine Lo O (Y.movT O) (Lo O (Y.ext O O) (Lo O (Y.ext O O) (Lo O (Y.ext O O) (Lo O (Y.ext O O) (Lo O (AI O) (Lo O (AI O) (Lo O (AS O) (Lo O (Y.asgB O) (Lt (Cy (Lo O (YS O) (Lo O (YI O) (VL.bslice (St.nil w4 []) mk_22 (nums .u32 [p]) O O (by decide) (by decide) (by kernel_rfl) ?_)))))))))))))
 intro w5 b24 hn24 hb24 H5
 have hf5:Frm [] w4 w5:=H5.frm
 refine VL.is (wd:=1) (ht:=1) (px:=[p]) (pc:=1) (I.keep0 ((hf3.trans hf4).trans hf5)) ⟨nums_row (H5.blk (i:=0) O),hps,(H5.blk (i:=0) O).lt⟩ hdec O O O O O ?_
 intro w6 hf6
 replace H5:=H5.quiet hf6
 refine Lo O (Y.movB O) (LG O O O O (YI O) (VL.callG O O O O ent_17 (once_any w6 p hp) O ?_))
 rintro e w7 ⟨Z2,hS2,hz2⟩
 obtain ⟨ob,oc,he2,hI2,hf7,_,_,_,_⟩:=hS2.sin (gX_pos 1 Z2) (I.gl.keep0 (((hf3.trans hf4).trans hf5).trans hf6))
 replace H5:=H5.quiet hf7
 obtain ⟨R3,hdec3⟩:=rds_pack (once_reads hp hz2)
 refine ⟨_,he2,?_⟩
 refine LG O O O O (YI O) (VL.bsliceG H5 mk_22 (nums .u32 [p]) O O O O O (by decide) (by decide) (by kernel_rfl) ?_)
 intro w8 b30 hn30 hb30 hf8 H8
 refine VL.isG (wd:=1) (ht:=1) (px:=[p]) (pc:=1) (hI2.keep0 hf8) ⟨nums_row (H8.blk (i:=0) O),hps,(H8.blk (i:=0) O).lt⟩ hdec3 O O O O O O O O ?_
 intro w9 hf9
 replace H8:=H8.quiet hf9
 refine Lo O (Y.pick O O) (Lo O (Y.movB O) (LG O O O O (Y.movB O) (LG O O O O (Y.not O) (Lo O (Y.pick O O) (Lo O (Y.asgB O) (Lt (Ct ?_)))))))
 exact Done.ret1 O O ⟨rfl,H.frm.trans H8.frm⟩
end Go.Proofs.YtinkhckpckfajaaDoor
namespace Go.Proofs.YtinkhckpckfajaaDoor
open Go Go.ChangeShapes Go.WideShapes Go.ChangeAt Go.RowKit
theorem twice_lifted (os:Os) (started:os.Started) (H:Type) (enc:TypeId × Value→H) :
  ReturnsInHanded {} Tryd.checked os 8 .any (fun w args => (Rows.fnTwiceSpec.pre enc Tryd.prog Tryd.f8 [] false w args∧laidMetH Tryd.prog laidS w)∧sizedMet enc Tryd.prog Tryd.f8 (OpenSpec.ofChange Rows.fnTwiceSpec) false w args)
   (Rows.fnTwiceSpec.post enc Tryd.prog Tryd.f8 false true false false):=by
 refine returnsInHanded_of_change_and (C:=Tryd.checked) (X:=fun w _ => laidMetH Tryd.prog laidS w) (fun _ _ _ hh h => h.of_heap hh) own started (by kernel_rfl) Tryd.func8
  (ChangeSpec.witness_shaped (enc:=enc) (C:=Tryd.checked) (os:=os) (X:=fun w _ => laidMetH Tryd.prog laidS w) false (World.doorLaid Tryd.prog 2000 os) #[.int .u32 0] 8 rfl (World.shaped_of_RefB (by kernel_rfl) (by kernel_rfl)) (by kernel_rfl) (by kernel_rfl) (by kernel_rfl) (door_met os _)) ?_
 intro W base args ds gs before hval0 hW _ _ hL _
 have hval:∀ (j:Nat) t v,Tryd.f8.params[j]?=some t→args[j]?=some v→Value.okWide Tryd.prog W .any base t v:=hval0
 have hW':=hW
 obtain ⟨p,q,hA0,hV,rfl,hfz,hnd⟩:=hW
 have hA:DataW.TrodAll enc Tryd.prog W 0 (fun _ => true) true Tryd.f8.params.toList args.toList ds p:=hA0
 obtain ⟨rfl,rfl⟩:=trodVars_none hV
 have hpar:Tryd.f8.params.toList=[36]:=by rw [Tryd.params8]
 rw [hpar] at hA
 obtain ⟨v0,_,d0,_,p0,_,e0,rfl,_,t0,hA⟩:=trodAll_cons hA
 obtain ⟨rfl,rfl,_⟩:=trodAll_nil hA
 obtain rfl:args=#[v0]:=Array.ext' e0
 rw [Tryd.params8] at hval
 obtain ⟨x0,rfl,rfl,_,hwf0⟩:=open_int Tryd.underlying36 (hval 0 _ _ rfl rfl) t0
 simp only [Lit.wf,Bool.and_eq_true,decide_eq_true_eq] at hwf0
 have hx0:(0:Int)≤x0∧x0≤4294967295:=hwf0
 obtain ⟨y0,rfl⟩:=Int.eq_ofNat_of_zero_le hx0.1
 refine (twice_walk W y0 (by omega) (gl_of_laid hL)).mono fun e W' ⟨he,hf⟩ => ⟨_,he,post_law O hW' O (by kernel_rfl) (fun t ht => ?_) hf⟩
 rw [hpar] at ht
 have hall:([36].all fun t => Tryd.prog.readableRec t && decide (t<Tryd.prog.types.size))=true:=by kernel_rfl
 simpa using List.all_eq_true.1 hall t ht
theorem fnTwice_holds:Rows.FnTwiceSaid :=
 OpenClaim.holds_of_wide 8 Tryd.f8 rfl rfl rfl rfl rfl rfl rfl ⟨rfl,rfl,rfl,rfl,rfl⟩ rfl rfl rfl rfl rfl (by kernel_rfl) Tryd.func8 (by kernel_rfl)
  (of_decide_eq_true (by kernel_rfl)) (by unfold Func.isWrapper;first | (rw [if_pos (by decide +kernel)];kernel_rfl) | (rw [if_neg (by decide +kernel)];exact ⟨rfl,rfl⟩))
  (fun os started H enc _ => twice_lifted os started H enc)
theorem fnTwice_card:Rows.FnTwiceCardSaid :=
 Claim7.holds_tied_plain_at .later [] [.sentinel, .sentinel, .sentinel, .sentinel, .data, .data, .data, .data, .data, .data, .funcs] true (true, "8331098c51ca897b4b8427b5cb92b9093afaf9e5496467035e4138de255a6256") true
  fnTwice_holds (fun _ h => by cases h) (by kernel_rfl) (fun _ h => by cases h) fnTwice_row_tie rfl ⟨rfl,rfl⟩ (by kernel_rfl) rfl
  (fun f fn hf hfn => by
   obtain rfl : f = 8 := Option.some.inj ((show Tryd.prog.funcNamed "tintslate/laws.FnTwice" = some 8 by kernel_rfl).symm.trans hf) |>.symm
   obtain rfl:fn=Tryd.f8:=(Option.some.inj (Tryd.func8.symm.trans hfn)).symm
   exact ⟨by kernel_rfl,fun j t ht => by
    rw [Tryd.params8] at ht
    have hm:t ∈ [36]:=by simpa using Array.mem_of_getElem? ht
    have hall:([36].all fun u => !Tryd.prog.wantsStandIn u)=true:=by kernel_rfl
    exact (show Tryd.prog.wantsStandIn t=false by simpa using List.all_eq_true.1 hall t hm)⟩)
  (by kernel_rfl)
#print axioms fnTwice_card
end Go.Proofs.YtinkhckpckfajaaDoor
