/-
  A picture is written and read: part 13 of 13 (Encode, Law, Lift).
-/
import Derived.Test.YtinkhckpckfajaaDoorA12
import Derived.ChangeSlices
import Derived.Carry
import Derived.SevenTiedAt
set_option linter.unusedVariables false
set_option linter.unusedSimpArgs false
set_option maxRecDepth 100000
set_option maxHeartbeats 2000000
namespace Go.Proofs.YtinkhckpckfajaaDoor
open Go
theorem lim_le {c i j q:Nat} (h:i≤j):lim c i q≤lim c j q:=by unfold lim;exact Nat.add_le_add_left (Nat.mul_le_mul_right q h) c
theorem setM_kinds (l:List Tr) (j:Nat):(setM (l.map (·.kind)) (j:Nat)).getD (.bool false)=.bool (kindIn l j):=by rw [setM_get,kindIn_mem]
def imgPx (r m s:Nat):Nat:=argb 255 r m s
def difAt (T:List Nat) (i:Nat):List Nat:=(List.range T.length).map fun j => if i<j then lessPx (T.getD j 0) (T.getD (j - 1) 0) else T.getD j 0
theorem difAt_all {T:List Nat} {i:Nat} (h:T.length≤i+1):difAt T i=T:=by
 apply List.ext_getElem
 ·simp [difAt]
 ·intro j h1 h2
  simp only [difAt,List.getElem_map,List.getElem_range]
  rw [if_neg (by omega)]
  simp [h2]
theorem difAt_zero (T:List Nat):difAt T 0=diffs T:=by
 unfold difAt diffs
 refine List.map_congr_left fun j _ => ?_
 by_cases h:j=0
 ·subst h;rfl
 ·rw [if_pos (by omega),if_neg h]
theorem difAt_set {T:List Nat} {i:Nat} (h0:0<i) (h:i<T.length):(difAt T i).set i (lessPx (T.getD i 0) (T.getD (i - 1) 0))=difAt T (i - 1):=by
 apply List.ext_getElem
 ·simp [difAt]
 ·intro j h1 h2
  rw [List.getElem_set]
  simp only [difAt,List.getElem_map,List.getElem_range]
  by_cases e:i=j
  ·subst e
   rw [if_pos rfl,if_pos (by omega)]
  ·rw [if_neg e]
   by_cases e2:i<j
   ·rw [if_pos e2,if_pos (by omega)]
   ·rw [if_neg e2,if_neg (by omega)]
def kD (k:Nat) (D:List Nat):Nat:=k+(if 3 ∈ D then 0 else 1)+(if 6 ∈ D then 0 else 1)
theorem kD_le (k:Nat) (D:List Nat):kD k D≤k+2:=by unfold kD;split <;> split <;> omega
theorem kD_nil (k:Nat):kD k []=k+2:=by simp [kD]
theorem kD_ne {k:Nat} {D:List Nat} {j:Nat} (h3:3≠j) (h6:6≠j):kD k (D.erase j)=kD k D:=by unfold kD;simp only [List.mem_erase_of_ne h3,List.mem_erase_of_ne h6]
theorem kD_3 {k:Nat} {D:List Nat} (h:3 ∈ D) (hn:D.Nodup):kD k (D.erase 3)=kD k D+1:=by
 unfold kD
 simp only [if_neg (show ¬ 3 ∈ D.erase 3 from hn.not_mem_erase),if_pos h,List.mem_erase_of_ne (show 6≠3 by decide)]
 split <;> omega
theorem kD_6 {k:Nat} {D:List Nat} (h:6 ∈ D) (hn:D.Nodup):kD k (D.erase 6)=kD k D+1:=by
 unfold kD
 simp only [if_neg (show ¬ 6 ∈ D.erase 6 from hn.not_mem_erase),if_pos h,List.mem_erase_of_ne (show 3≠6 by decide)]
theorem encode_any (W:World) (wd ht pb po pc B:Nat) (px:List Nat) (v:Value) (hr:Row W .u32 pb po px) (hpc:px.length≤pc) (hl:px.length=wd * ht) (hn:px.length≤4096) (h1:1≤wd) (h2:1≤ht) (h32:∀ p ∈ px,p<2 ^ 32) (hw:WayAt B v W) :
  Calls Tryd.prog 13 #[.int .i64 (wd:Nat),.int .i64 (ht:Nat),.slice (some ⟨pb,po,none⟩) px.length pc,v] W fun e w' => ∃ X,StrOk W X e w'∧Rds decAll X (wd,ht,px):=by
 have hwd:wd≤4096:=by
  have:=Nat.mul_le_mul_left wd h2
  omega
 have hht:ht≤4096:=by
  have:=Nat.mul_le_mul_right ht h1
  omega
 have hpx1:1≤px.length:=by rw [hl];exact Nat.mul_pos h1 h2
 have hpb:pb<W.heap.size:=World.block_lt_of_cell? W _ (hr 0 hpx1)
 have hBW:=hw.1
 have hS0:∀ b ∈ ([]:List Nat),B≠b:=by simp
 have H:St W [] [] W:=St.nil W []
 obtain ⟨wa,wn,wc,hv⟩:∃ a n c,v=.slice a n c:=by
  obtain ⟨_,a,n,c,e,_⟩:=hw
  exact ⟨a,n,c,e⟩
 subst hv
 obtain ⟨v,hv⟩:∃ v,v=Value.slice wa wn wc:=⟨_,rfl⟩
 rw [← hv] at hw
 refine enter (m:=196) Tryd.func13 O Tryd.ntmps13 O (Cy (Lo O (Y.asg O) (Lt (Cy (Lo O (YS O) (Lo O (Y.bld (ps:=[(0,.slice wa wn wc)]) (chL (.slice wa wn wc) 0) O (by kernel_rfl)) (VL.box H (cs:=chL (.slice wa wn wc) 0) O O O ?_)))))))
 intro w cb hncb hcbW H
 refine Lo O (Y.asgP O) (Lt ?_)
 rw [← hv] at H
 have hBc:B≠cb:=by omega
 refine Cy (Lo O (Y.zeroS bz_56) (VL.box H (cs:=[.slice none 0 0,.int .i64 0]) O O O ?_))
 intro w wb hnwb hwbW H
 replace H:St W [] [wrR wb none 0 [],blkR cb (chL v 0) 53] w:=H.wrOf 0 rfl
 refine Lo O (Y.asgP O) (Lt (Cy (Lo O (YP O) (VL.bits H 0 O 47 8 (by omega) (by decide) (by simp) O O O O ?_))))
 intro w a1 c1 H
 simp only [List.set] at H
 refine Lt (Cy (Lo O (YP O) (Lo O (YI O) (Lo O (Y.sub (r:=((wd - 1:Nat):Int)) O O (s64 (b:=1) (by omega))) (VL.bits H 0 O (wd - 1) 14 (by omega) (by omega) (by simp [bnl]) O O O O ?_)))))
 intro w a2 c2 H
 simp only [List.set] at H
 refine Lt (Cy (Lo O (YP O) (Lo O (YI O) (Lo O (Y.sub (r:=((ht - 1:Nat):Int)) O O (s64 (b:=1) (by omega))) (VL.bits H 0 O (ht - 1) 14 (by omega) (by omega) (by simp [bnl]) O O O O ?_)))))
 intro w a3 c3 H
 simp only [List.set] at H
 refine Lt (Cy (Lo O (YP O) (Lo O (YP O) (VL.next H 1 O hw hS0 hBc 2 (by omega) (by omega) (by omega) O O O ?_))))
 intro w ra hra H
 simp only [List.set] at H
 refine VL.bits H 0 O ra 1 (by omega) (by omega) (by simp [bnl]) O O O O ?_
 intro w a4 c4 H
 simp only [List.set] at H
 refine Lt (Cy (Lo O (YP O) (VL.bits H 0 O 0 3 (by omega) (by omega) (by simp [bnl]) O O O O ?_)))
 intro w a5 c5 H
 replace H:St W [] [wrR wb a5 c5 (hdBits wd ht ra),blkR cb (chL v 1) 53] w:=H
 refine Lt (Cy (Lo O (YI O) (Lo O (AI O) (Lt (Cy (VL.makeMap .i64 H O ?_))))))
 intro w mb hnm hbm H
 refine Lo O (Y.asg O) (Lt (Cs (Cy (Lo O (YP O) (VL.next H 2 O hw hS0 hBc 5 (by omega) (by omega) (by omega) O O O ?_)))))
 intro w n5 hn5 H
 simp only [List.set] at H
 refine Lo O (YI O) (Lt ?_)
 have hE0:Enc wd ht ra 0 px [] wd px (hdBits wd ht ra) 2:=⟨Nat.le_refl _,h1,Nat.le_refl _,hl,h32,rfl,⟨[],by rw [List.append_nil],fun Z v h => h⟩,by unfold hdBits lim;simp [bnl],by unfold lim;omega⟩
 refine VC.join (fun ρ w' => ∃ a c X k l now cur qb qo qc r,Enc wd ht ra n5 px l now cur X k∧CurIs W pb po pc px cur qb qo qc r∧ρ 1=.int .i64 (ht:Nat)∧ρ 2=.slice (some ⟨qb,qo,none⟩) cur.length qc∧ρ 9=.pointer (some ⟨cb,0,none⟩)∧ρ 10=.pointer (some ⟨wb,0,none⟩)∧ρ 11=.int .i64 (now:Nat) ∧
  St W [] [wrR wb a c X,blkR cb (chL v k) 53,mapR .i64 mb (setM (l.map (·.kind))),r] w') ?_ ?_
 case refine_2 =>
  clear H
  rintro ρ w5 ⟨a,c,X,k,l,now,cur,qb,qo,qc,r,hE,hC,r1,r2,r9,r10,r11,H⟩
  have hxl:X.length≤3200100:=Nat.le_trans hE.xl (Nat.le_trans (lim_le (show n5≤4 by omega)) (by unfold lim;omega))
  have hkl:k≤800010:=Nat.le_trans hE.kl (Nat.le_trans (lim_le (show n5≤4 by omega)) (by unfold lim;omega))
  have hcn:=hE.cn (by omega)
  refine Cy (Lo O (YP r10) (VL.bits H 0 O 0 1 (by omega) (by omega) (by omega) O O O O ?_))
  intro w a6 c6 H
  simp only [List.set] at H
  refine Lt ?_
  obtain ⟨hrow,hqc,hdis⟩:=hC.row hr hpb hpc H (i:=3) rfl
  refine Cy (Lo O (YP r10) (Lo O (YS r2) (Lo O (YI r11) (Lo O (YI r1) (Lo O (YP r9) ?_)))))
  refine VL.pixels (others:=[mapR .i64 mb (setM (l.map (·.kind))),r]) (pixels_all true) H hw hS0 hBW hrow (fun s hs => ?_) hE.cl hcn hqc hE.now1 h2 hE.c32 (by unfold kLim;simp;omega) (by rw [List.length_append,bnl];unfold xLim;simp;omega) O O O O O O O ?_
  ·simp only [List.mem_cons,List.not_mem_nil,or_false] at hs
   rcases hs with rfl | rfl
   ·exact hdis 0 _ O (by decide)
   ·exact hdis 1 _ O (by decide)
  intro w a7 c7 Z k' hZ hZl _ _ H
  refine Lt (Cy (Lo O (YP r10) (Lo O (Y.nilP O) (Lo O (Y.fa fa_56_0 O) (Lo O (Y.ld ld_24 O (wr_cell H (i:=0) O)) (Lo O (AS O) (Lt (Ct ?_))))))))
  obtain ⟨Xt,e1,e2⟩:=hE.rd
  refine Done.ret1 O O ⟨X++bitsN 0 1++Z,⟨a7,c7,rfl,(H.get (i:=0) (r:=wrR wb a7 c7 (X++bitsN 0 1++Z)) O).2.1,wr_own H (i:=0) rfl,H.frm,by rw [List.length_append,List.length_append,bnl];have:zMax true=3000000:=rfl;omega⟩,?_⟩
  have hlen:=hE.len
  have e3:=e2 (bitsN 0 1) (l,now) (by rw [show 5 - l.length=(4 - l.length)+1 by omega];exact decTrs_end _ _ _ _)
  have:=decAll_reads h1 (by omega) h2 (by omega) hra e3 hZ
  rw [hE.undo] at this
  rw [e1,List.append_assoc,List.append_assoc,← List.append_assoc Xt]
  exact this
 case refine_1 =>
 refine Cb ?_
 refine Cl (fun mm ρ w' => ∃ i a c X k l now cur qb qo qc r,i≤n5∧mm=n5 - i∧Enc wd ht ra i px l now cur X k∧CurIs W pb po pc px cur qb qo qc r∧ρ 1=.int .i64 (ht:Nat)∧ρ 2=.slice (some ⟨qb,qo,none⟩) cur.length qc∧ρ 9=.pointer (some ⟨cb,0,none⟩)∧ρ 10=.pointer (some ⟨wb,0,none⟩)∧ρ 11=.int .i64 (now:Nat)∧ρ 12=.map (some mb)∧ρ 44=.int .i64 (n5:Nat)∧ρ 45=.int .i64 (i:Nat) ∧
  St W [] [wrR wb a c X,blkR cb (chL v k) 53,mapR .i64 mb (setM (l.map (·.kind))),r] w') n5
  ⟨0,a5,c5,hdBits wd ht ra,2,[],wd,px,pb,po,pc,⟨[],fun _ => True⟩,by omega,rfl,hE0,.inl ⟨rfl,rfl,rfl,rfl,rfl⟩,rfl,rfl,rfl,rfl,rfl,rfl,rfl,rfl,
   (H.cons (r:=⟨[],fun _ => True⟩) trivial ⟨fun _ _ _ _ => trivial,fun _ _ b hb => by simp at hb⟩ (by simp) (by simp)).sub [2,3,1,0] rfl (by decide)⟩ ?_
 clear H hE0
 rintro mm ρ w5 ⟨i,a,c,X,k,l,now,cur,qb,qo,qc,r,hi,hmm,hE,hC,r1,r2,r9,r10,r11,r12,r44,r45,H⟩
 refine Cy (Lo O (Y.lss r45 r44) (Lt ?_))
 by_cases hlt:i<n5
 case neg =>
  obtain rfl:i=n5:=by omega
  refine Cs (CF O (by omega) (Cx (thn_x (thn_x (blk_x (tn ?_))))))
  exact ⟨a,c,X,k,l,now,cur,qb,qo,qc,r,hE,hC,r1,r2,r9,r10,r11,H⟩
 have hxl:X.length≤3200100:=Nat.le_trans hE.xl (Nat.le_trans (lim_le (show i≤4 by omega)) (by unfold lim;omega))
 have hkl:k≤800010:=Nat.le_trans hE.kl (Nat.le_trans (lim_le (show i≤4 by omega)) (by unfold lim;omega))
 have hcn:=hE.cn (by omega)
 have hcl:=hE.cl
 have hc32:=hE.c32
 have hnow1:=hE.now1
 have hnow2:=hE.nowle
 refine Cs (CT O (by omega) (Ck (tn (Cs ?_))))
 refine VC.join (fun ρ w' => ∃ a c X k l now cur qb qo qc r,Enc wd ht ra (i+1) px l now cur X k∧CurIs W pb po pc px cur qb qo qc r∧ρ 1=.int .i64 (ht:Nat)∧ρ 2=.slice (some ⟨qb,qo,none⟩) cur.length qc∧ρ 9=.pointer (some ⟨cb,0,none⟩)∧ρ 10=.pointer (some ⟨wb,0,none⟩)∧ρ 11=.int .i64 (now:Nat)∧ρ 12=.map (some mb)∧ρ 44=.int .i64 (n5:Nat)∧ρ 45=.int .i64 (i:Nat) ∧
  St W [] [wrR wb a c X,blkR cb (chL v k) 53,mapR .i64 mb (setM (l.map (·.kind))),r] w') ?_ ?_
 case refine_2 =>
  clear H hE hC r1 r2 r9 r10 r11 r12 r44 r45 hcl hc32 hcn hnow1 hnow2 hxl hkl
  rintro ρ w6 ⟨a,c,X,k,l,now,cur,qb,qo,qc,r,hE,hC,r1,r2,r9,r10,r11,r12,r44,r45,H⟩
  refine Cr (Lo O (Y.add (r:=((i+1:Nat):Int)) r45 O (n64 (b:=1) (by omega))) (Lo O (YI O) (Lt ?_)))
  exact ⟨n5 - (i+1),by omega,i+1,a,c,X,k,l,now,cur,qb,qo,qc,r,by omega,rfl,hE,hC,r1,r2,r9,r10,r11,r12,r44,rfl,H⟩
 case refine_1 =>
 refine Cb (Cy (Lo O (YP r9) (VL.next H 1 O hw hS0 hBc 4 (by omega) (by omega) (by omega) O O O ?_)))
 intro w kind hkind H
 simp only [List.set] at H
 refine Lo O (YI r11) (Lo O (Y.bld (ps:=[(0,.int .i64 (kind:Nat)),(2,.int .i64 (now:Nat))]) (trV kind 0 now (.slice none 0 0)) O (by kernel_rfl)) (VL.alloc H zer_61 O ?_))
 intro w b13 hn13 hb13 H
 refine VL.putW (vs:=trV kind 0 now (.slice none 0 0)) H 0 stn_61 O O O O O (by simp [trV,Value.oneCell']) ?_
 intro w H
 replace H:St W [] [wrR wb a c X,blkR cb (chL v (k+1)) 53,mapR .i64 mb (setM (l.map (·.kind))),r,blkR b13 (trV kind 0 now (.slice none 0 0)) 61] w:=H.sub [1,2,3,4,0] rfl (by decide)
 refine Lt ?_
 have elook:=setM_kinds l kind
 have hkn:kind ∈ l.map (·.kind)∨kindIn l kind=false:=by
  rw [kindIn_mem]
  by_cases h:kind ∈ l.map (·.kind)
  ·exact .inl h
  ·exact .inr (decide_eq_false h)
 cases hki:kindIn l kind with
 | true =>
  rw [hki] at elook
  refine Cs (Cy (Lo O (Y.mov r12) (Lo O (Y.fa fa_61_0 O) (Lo O (Y.ld ld_3 O (H.cell 4 (v:=.int .i64 (kind:Nat)) O O)) (Lo O (Y.lookE 2 H mpt_kinds O O O elook) (Lt ?_))))))
  refine CB O (fun _ => ?_) (fun h => nomatch h)
  refine Cx (thn_x (blk_x (tn ?_)))
  exact ⟨a,c,X,k+1,l,now,cur,qb,qo,qc,r,hE.skip (by omega),hC,r1,r2,r9,r10,r11,r12,r44,r45,H.sub [0,1,2,3] O (by decide)⟩
 | false =>
 rw [hki] at elook
 refine Cs (Cy (Lo O (Y.mov r12) (Lo O (Y.fa fa_61_0 O) (Lo O (Y.ld ld_3 O (H.cell 4 (v:=.int .i64 (kind:Nat)) O O)) (Lo O (Y.lookE 2 H mpt_kinds O O O elook) (Lt (CB O (fun h => nomatch h) (fun _ => (Ck (tn (Cy (Lo O (Y.asg O) (Lt (Cs (Cy (Lo O (Y.fa fa_61_0 O) (Lo O (Y.ld ld_3 O (H.cell 4 (v:=.int .i64 (kind:Nat)) O O)) ?_)))))))))))))))))
 refine Lo O (Y.eql O O) (Lt ?_)
 by_cases hk3:kind=3
 case pos =>
  subst hk3
  obtain ⟨hrow,hqc,hdis⟩:=hC.row hr hpb hpc H (i:=3) rfl
  have hcols:=colGo_cols cur
  have hcur1:1≤cur.length:=by rw [hcl];exact Nat.mul_pos hnow1 h2
  have hcs1:=hcols.pos (List.length_pos_iff.1 hcur1)
  have hcsl:=hcols.le
  obtain ⟨cs,hcs⟩:∃ cs,cs=colGo cur:=⟨_,rfl⟩
  rw [← hcs] at hcols hcs1 hcsl
  have hcs32:∀ q ∈ cs,q<2 ^ 32:=fun q hq => hc32 q (hcols.sub q hq)
  refine CT O (by omega) (Cy (Lo O (YS r2) (VL.call O ent_23 (colors_any w qb qo qc cur hrow (by omega)) O ?_)))
  rintro e w ⟨ag,cg,he,hvg,hfg,hfr⟩
  rw [← hcs] at he hvg
  obtain ⟨g,rfl,_⟩:=hvg.cell (by omega)
  replace H:=H.add (r:=vecR (some ⟨g,0,none⟩) cg 36 1 cs.length (nums .u32 cs)) hfr hvg (vecR_local _ _ _ _ _ _) hfg
  replace H:St W [] [wrR wb a c X,blkR cb (chL v (k+1)) 53,mapR .i64 mb (setM (l.map (·.kind))),r,blkR b13 (trV 3 0 now (.slice none 0 0)) 61,vecR (some ⟨g,0,none⟩) cg 36 1 cs.length (nums .u32 cs)] w:=H.sub [1,2,3,4,5,0] rfl (by decide)
  refine ⟨_,he,?_⟩
  refine Lo O (AS O) (Lt (Cy (Lo O (YS O) (Lo O (Y.len sl_22 O) (Lo O (Y.gtr O O) (Lt ?_))))))
  by_cases h256:256<cs.length
  case pos =>
   refine CT O (by omega) (Cx (thn_x (blk_x (tn ?_))))
   exact ⟨a,c,X,k+1,l,now,cur,qb,qo,qc,r,hE.skip (by omega),hC,r1,r2,r9,r10,r11,r12,r44,r45,H.sub [0,1,2,3] O (by decide)⟩
  have hpal:∀ bi,bi=shorterN cs.length→Palette ⟨3,now,bi,cs⟩ cur:=fun bi hbi => ⟨by show cs.length≤256;omega,hbi,hcols.all (by omega)⟩
  refine CF O (by omega) (Ck (tn (Cy (Lo O (Y.mov r12) (Lo O (Y.fa fa_61_0 O) (Lo O (Y.ld ld_3 O (H.cell 4 (v:=.int .i64 (3:Nat)) O O)) (VL.mapUpdate (v:=.bool true) 2 H mpt_kinds O O O O ?_)))))))
  intro w H
  replace H:St W [] [wrR wb a c X,blkR cb (chL v (k+1)) 53,mapR .i64 mb (setM (l.map (·.kind)++[3])),r,blkR b13 (trV 3 0 now (.slice none 0 0)) 61,vecR (some ⟨g,0,none⟩) cg 36 1 cs.length (nums .u32 cs)] w:=by rw [← setM_put];exact H
  refine Lt (Cy (Lo O (YP r10) (VL.bits H 0 O 1 1 (by omega) (by omega) (by omega) O O O O ?_)))
  intro w a6 c6 H
  simp only [List.set] at H
  refine Lt (Cy (Lo O (YP r10) (Lo O (Y.fa fa_61_0 O) (Lo O (Y.ld ld_3 O (H.cell 4 (v:=.int .i64 (3:Nat)) O O)) (VL.bits H 0 O 3 2 (by omega) (by omega) (by rw [List.length_append,bnl];omega) O O O O ?_)))))
  intro w a7 c7 H
  simp only [List.set] at H
  refine Lt (Cy (Lo O (Y.fa fa_61_0 O) (Lo O (Y.ld ld_3 O (H.cell 4 (v:=.int .i64 (3:Nat)) O O)) (Lt (Cb (Cs (Cy (Lo O (Y.eql O O) (Lo O (Y.asgB O) (Lt (CF O (by omega) (Cr (Lo O (Y.eql O O) (Lo O (Y.asgB O) (Ln ?_)))))))))))))))
  refine tn (CF O (by omega) (Cy (Lo O (Y.eql O O) (Lo O (Y.asgB O) (Lt (CT O (by omega) (Cy (Lo O (YS O) (Lo O (YS O) (Lo O (Y.len sl_22 O) (VL.callP O ent_28 (shorter_any _ cs.length (by omega)) O (Lo O (Y.fa fa_61_3 O) (VL.putS H 4 st_22 O O O O ?_)))))))))))))
  intro w H
  refine Lo O (Y.fa fa_61_1 O) (VL.putI (m:=((shorterN cs.length:Nat):Int)) H 4 st_3 O O O O ?_)
  intro w H
  refine Lt ?_
  obtain ⟨bits,hbits⟩:∃ bits,bits=shorterN cs.length:=⟨_,rfl⟩
  obtain ⟨X2,hX2⟩:∃ X2,X2=X++bitsN 1 1++bitsN 3 2:=⟨_,rfl⟩
  have hX2l:X2.length=X.length+3:=by rw [hX2];simp [bnl]
  replace H:St W [] [wrR wb a7 c7 X2,blkR cb (chL v (k+1)) 53,mapR .i64 mb (setM (l.map (·.kind)++[3])),r,blkR b13 (trV 3 bits now (.slice (some ⟨g,0,none⟩) cs.length cg)) 61,vecR (some ⟨g,0,none⟩) cg 36 1 cs.length (nums .u32 cs)] w:=by rw [hX2,hbits];exact H
  have hb3:bits≤3:=by rw [hbits];unfold shorterN;split;omega;split;omega;split <;> omega
  refine Cy (Lo O (YP r10) (Lo O (YS O) (Lo O (Y.len sl_22 O) (Lo O (Y.sub (r:=((cs.length - 1:Nat):Int)) O O (s64 (b:=1) (by omega))) (VL.bits H 0 O (cs.length - 1) 8 (by omega) (by omega) (by omega) O O O O ?_)))))
  intro w a8 c8 H
  simp only [List.set] at H
  refine Lt ?_
  obtain ⟨X3,hX3⟩:∃ X3,X3=X2++bitsN (cs.length - 1) 8:=⟨_,rfl⟩
  have hX3l:X3.length=X.length+11:=by rw [hX3,List.length_append,bnl];omega
  rw [← hX3] at H
  refine Cy (VL.bslice0 H mk_22 O ?_)
  intro w d0 hnd0 hd0 H
  have hvg2:VecOk w (some ⟨g,0,none⟩) cg 36 1 cs.length (nums .u32 cs):=H.get (i:=6) rfl
  refine Lo O (YS O) (VL.append H 0 mk_22 (by decide) O O O O (news:=nums .u32 cs) (by simp [nums]) (fun j u hj => by rw [Nat.zero_add];exact hvg2.cellS hj) (nums_one _ _) (by simp only [maxLen];omega) (by omega) ?_)
  intro ad dc w hfd H
  rw [List.nil_append,Nat.zero_add cs.length] at H
  rw [Nat.zero_add cs.length]
  replace H:St W [] [wrR wb a8 c8 X3,blkR cb (chL v (k+1)) 53,mapR .i64 mb (setM (l.map (·.kind)++[3])),r,blkR b13 (trV 3 bits now (.slice (some ⟨g,0,none⟩) cs.length cg)) 61,vecR (some ⟨g,0,none⟩) cg 36 1 cs.length (nums .u32 cs),vecR ad dc 36 1 cs.length (nums .u32 cs)] w:=H.sub [1,2,3,4,5,6,0] rfl (by decide)
  obtain ⟨dg,rfl,_⟩:=(show VecOk w ad dc 36 1 cs.length (nums .u32 cs) from H.get (i:=6) rfl).cell (by omega)
  refine Lo O (AS O) (Lt (Cs (Cy (Lo O (YS O) (Lo O (Y.len sl_22 O) (Lo O (Y.sub (r:=((cs.length - 1:Nat):Int)) O O (s64 (a:=cs.length) (b:=1) (by omega))) (Lo O (AI O) (Lt ?_))))))))
  refine VC.join (fun ρ w' => ρ 1=.int .i64 (ht:Nat)∧ρ 2=.slice (some ⟨qb,qo,none⟩) cur.length qc∧ρ 9=.pointer (some ⟨cb,0,none⟩)∧ρ 10=.pointer (some ⟨wb,0,none⟩)∧ρ 11=.int .i64 (now:Nat)∧ρ 12=.map (some mb)∧ρ 13=.pointer (some ⟨b13,0,none⟩)∧ρ 18=.slice (some ⟨dg,0,none⟩) cs.length dc∧ρ 44=.int .i64 (n5:Nat)∧ρ 45=.int .i64 (i:Nat) ∧
   St W [] [wrR wb a8 c8 X3,blkR cb (chL v (k+1)) 53,mapR .i64 mb (setM (l.map (·.kind)++[3])),r,blkR b13 (trV 3 bits now (.slice (some ⟨g,0,none⟩) cs.length cg)) 61,vecR (some ⟨g,0,none⟩) cg 36 1 cs.length (nums .u32 cs),vecR (some ⟨dg,0,none⟩) dc 36 1 cs.length (nums .u32 (diffs cs))] w') ?_ ?_
  case refine_1 =>
   refine Cb ?_
   refine Cl (fun mm ρ w' => ∃ j,j<cs.length∧mm=j∧ρ 1=.int .i64 (ht:Nat)∧ρ 2=.slice (some ⟨qb,qo,none⟩) cur.length qc∧ρ 9=.pointer (some ⟨cb,0,none⟩)∧ρ 10=.pointer (some ⟨wb,0,none⟩)∧ρ 11=.int .i64 (now:Nat)∧ρ 12=.map (some mb)∧ρ 13=.pointer (some ⟨b13,0,none⟩)∧ρ 14=.slice (some ⟨g,0,none⟩) cs.length cg∧ρ 18=.slice (some ⟨dg,0,none⟩) cs.length dc∧ρ 19=.int .i64 (j:Nat)∧ρ 44=.int .i64 (n5:Nat)∧ρ 45=.int .i64 (i:Nat) ∧
    St W [] [wrR wb a8 c8 X3,blkR cb (chL v (k+1)) 53,mapR .i64 mb (setM (l.map (·.kind)++[3])),r,blkR b13 (trV 3 bits now (.slice (some ⟨g,0,none⟩) cs.length cg)) 61,vecR (some ⟨g,0,none⟩) cg 36 1 cs.length (nums .u32 cs),vecR (some ⟨dg,0,none⟩) dc 36 1 cs.length (nums .u32 (difAt cs j))] w') (cs.length - 1)
    ⟨cs.length - 1,by omega,rfl,r1,r2,r9,r10,r11,r12,rfl,rfl,rfl,rfl,r44,r45,by rw [difAt_all (by omega)];exact H⟩ ?_
   clear H r1 r2 r9 r10 r11 r12 r44 r45
   rintro mm2 ρ w7 ⟨j,hj,hmm2,r1,r2,r9,r10,r11,r12,r13,r14,r18,r19,r44,r45,H⟩
   refine Cs (Cy (Lo O (YI r19) (Lo O (Y.gtr O O) (Lt ?_))))
   by_cases hj0:0<j
   case neg =>
    obtain rfl:j=0:=by omega
    refine CF O (by omega) (Cx (thn_x (thn_x (blk_x (tn ?_)))))
    exact ⟨r1,r2,r9,r10,r11,r12,r13,r18,r44,r45,by rw [difAt_zero] at H;exact H⟩
   refine CT O (by omega) (Ck (tn (Cs (Cb ?_))))
   have hvg3:VecOk w7 (some ⟨g,0,none⟩) cg 36 1 cs.length (nums .u32 cs):=H.get (i:=5) rfl
   have hx1:w7.cell? ⟨g,j,none⟩=some (.int .u32 (cs.getD j 0:Nat)):=hvg3.cellS (nums_get hj)
   have hx2:w7.cell? ⟨g,j - 1,none⟩=some (.int .u32 (cs.getD (j - 1) 0:Nat)):=hvg3.cellS (nums_get (by omega))
   refine VC.drawTail 13 mixedP (by kernel_rfl) ?_
   intro w hsame
   replace H:=H.same hsame
   have hy1:=hsame.frm.cell hx1 List.not_mem_nil
   have hy2:=hsame.frm.cell hx2 List.not_mem_nil
   refine So O (YS r18) (So O (YI r19) (So O (YS r14) (So O (YI r19) (So O (Y.ixS0 j sl_22 O O O hj) (So O (Y.ld ld_36 O hy1) (So O (YS r14) (So O (YI r19) (So O (Y.sub (r:=((j - 1:Nat):Int)) O O (s64 (b:=1) (by omega))) (So O (Y.ixS0 (j - 1) sl_22 O O O (by omega)) (So O (Y.ld ld_36 O hy2) (VS.call O ent_29 (less_any _ _ _ (getD_lt32 hcs32 j) (getD_lt32 hcs32 (j - 1))) O (So O (Y.ixS0 j sl_22 O O O hj) (Sn (VL.putV (v:=.int .u32 ((lessPx (cs.getD j 0) (cs.getD (j - 1) 0):Nat):Int)) H 6 st_36 O O O O hj ?_))))))))))))))
   intro w H
   rw [nums_set,difAt_set hj0 hj] at H
   refine Ln (blk_n (tn (Cr (Lo O (YI r19) (Lo O (Y.sub (r:=((j - 1:Nat):Int)) O O (s64 (b:=1) (by omega))) (Lo O (AI O) (Lt ?_)))))))
   exact ⟨j - 1,by omega,j - 1,by omega,rfl,r1,r2,r9,r10,r11,r12,r13,r14,r18,rfl,r44,r45,H⟩
  case refine_2 =>
  clear H r1 r2 r9 r10 r11 r12 r44 r45
  rintro ρ w7 ⟨r1,r2,r9,r10,r11,r12,r13,r18,r44,r45,H⟩
  have hdl:(diffs cs).length=cs.length:=by simp [diffs]
  have hvd:VecOk w7 (some ⟨dg,0,none⟩) dc 36 1 cs.length (nums .u32 (diffs cs)):=H.get (i:=6) rfl
  have hdc:cs.length≤dc:=by
   rcases hvd with ⟨h0,_⟩ | ⟨g',cur',h0,_,h1,_⟩
   ·cases h0
   ·exact h1
  have hg0:=apart_disj H.apart (i:=6) (j:=0) rfl rfl (by decide) dg (by simp [vecR,footA])
  have hg1:=apart_disj H.apart (i:=6) (j:=1) rfl rfl (by decide) dg (by simp [vecR,footA])
  rw [← hdl] at hvd
  refine Cy (Lo O (YP r10) (Lo O (YS (show _=Value.slice (some ⟨dg,0,none⟩) (diffs cs).length dc by rw [hdl];exact r18)) (Lo O (YS r18) (Lo O (Y.len sl_22 O) (Lo O (YP r9) ?_)))))
  refine VL.pixels (others:=[mapR .i64 mb (setM (l.map (·.kind)++[3])),r,blkR b13 (trV 3 bits now (.slice (some ⟨g,0,none⟩) cs.length cg)) 61,vecR (some ⟨g,0,none⟩) cg 36 1 cs.length (nums .u32 cs),vecR (some ⟨dg,0,none⟩) dc 36 1 cs.length (nums .u32 (diffs cs))]) (pixels_all false) H hw hS0 hBW (vec_row hvd) (fun s hs => ?_) (wd:=cs.length) (ht:=1) (by rw [hdl,Nat.mul_one]) (by omega) (by omega) hcs1 (by omega) (fun q hq => ?_) (by unfold kLim;simp;omega) (by unfold xLim;simp;omega) O O O O O O O ?_
  ·simp only [List.mem_cons,List.not_mem_nil,or_false] at hs
   rcases hs with rfl | rfl
   ·exact hg0
   ·exact hg1
  ·obtain ⟨j,_,rfl⟩:=List.mem_map.1 hq
   split
   ·exact getD_lt32 hcs32 0
   ·exact (lessPx_parts _ _).2.2.2.2
  intro w a9 c9 Zp k9 hZ hZl hk9 hk9' H
  refine Lt ?_
  replace H:St W [] [wrR wb a9 c9 (X3++Zp),blkR cb (chL v k9) 53,mapR .i64 mb (setM (l.map (·.kind)++[3])),r,blkR b13 (trV 3 bits now (.slice (some ⟨g,0,none⟩) cs.length cg)) 61,vecR (some ⟨g,0,none⟩) cg 36 1 cs.length (nums .u32 cs),vecR (some ⟨dg,0,none⟩) dc 36 1 cs.length (nums .u32 (diffs cs))] w:=H
  obtain ⟨hrow,hqc,hdis⟩:=hC.row hr hpb hpc H (i:=3) rfl
  have hvi2:VecOk w (some ⟨g,0,none⟩) cg 36 1 cs.length (nums .u32 cs):=H.get (i:=5) rfl
  have hzm:zMax false=700000:=rfl
  have hkm:kMax false=100000:=rfl
  refine Cy (Lo O (Y.ldn (cs:=trV 3 bits now (.slice (some ⟨g,0,none⟩) cs.length cg)) ldn_61 r13 O (fun j hj => by rw [Nat.zero_add];exact (H.blk (i:=4) O).cell j)) (Lo O (YS r2) (Lo O (YI r1) (VL.tdo H ⟨3,now,bits,cs⟩ ht (by show 3≤3;omega) hnow1 h2 (by show bits≤9;omega) hrow hc32 hcl hcn (fun _ => ⟨g,cg,rfl,vec_row hvi2⟩) (fun h => absurd h (show ¬ (3:Nat)≤1 by decide)) (fun h => absurd h (show ¬ (3:Nat)=0 by decide)) (fun _ => ⟨hpal bits hbits,hcols.nodup⟩) (by show cs.length≤4096;omega) O O O O ?_))))
  intro w g2 gc H
  refine Lo O (AS O) (Lt ?_)
  have hnw:newW ⟨3,now,bits,cs⟩=tilesN now bits:=by unfold newW;rw [if_pos rfl]
  have hEn:Enc wd ht ra (i+1) px (l++[⟨3,now,bits,cs⟩]) (newW ⟨3,now,bits,cs⟩) (fwd1 ht ⟨3,now,bits,cs⟩ cur) (X3++Zp) k9 :=
   hE.step (t:=⟨3,now,bits,cs⟩) (Xp:=Zp) (by show 3≤3;omega) rfl (by omega) hki h2 (decTr_reads (by show 3≤3;omega) rfl (fun h => absurd h (show ¬ (3:Nat)≤1 by decide)) (fun h => absurd h (show ¬ (3:Nat)=2 by decide)) (fun _ => ⟨hcs1,by show cs.length≤256;omega,hbits,hZ,hcs32⟩)) (fun _ => hpal bits hbits) (by rw [hX3,hX2];unfold trBits;rw [if_neg (show ¬ (3:Nat)≤1 by decide),if_neg (show ¬ (3:Nat)=2 by decide)];simp) (by rw [List.length_append];omega) (by omega)
  rw [hnw] at hEn
  refine Cr (Lo O (YI r11) (Lo O (Y.fa fa_61_1 r13) (Lo O (Y.ld ld_3 O (H.cell 5 (v:=.int .i64 (bits:Nat)) O O)) (VL.callP O ent_24 (blocks_any _ now bits (by omega) (by omega)) O (Lo O (AI O) (Ln (blk_n (blk_n (tn ?_)))))))))
  exact ⟨a9,c9,X3++Zp,k9,l++[⟨3,now,bits,cs⟩],tilesN now bits,_,g2,0,gc,_,hEn,.inr ⟨rfl,rfl⟩,r1,rfl,r9,r10,rfl,r12,r44,r45,by rw [List.map_append];exact H.sub [1,2,3,0] O (by decide)⟩
 refine CF O (by omega) (Ck (tn (Cy (Lo O (Y.mov r12) (Lo O (Y.fa fa_61_0 O) (Lo O (Y.ld ld_3 O (H.cell 4 (v:=.int .i64 (kind:Nat)) O O)) (VL.mapUpdate (v:=.bool true) 2 H mpt_kinds O O O O ?_)))))))
 intro w H
 replace H:St W [] [wrR wb a c X,blkR cb (chL v (k+1)) 53,mapR .i64 mb (setM (l.map (·.kind)++[kind])),r,blkR b13 (trV kind 0 now (.slice none 0 0)) 61] w:=by rw [← setM_put];exact H
 refine Lt (Cy (Lo O (YP r10) (VL.bits H 0 O 1 1 (by omega) (by omega) (by omega) O O O O ?_)))
 intro w a6 c6 H
 simp only [List.set] at H
 refine Lt (Cy (Lo O (YP r10) (Lo O (Y.fa fa_61_0 O) (Lo O (Y.ld ld_3 O (H.cell 4 (v:=.int .i64 (kind:Nat)) O O)) (VL.bits H 0 O kind 2 (by omega) (by omega) (by rw [List.length_append,bnl];omega) O O O O ?_)))))
 intro w a7 c7 H
 simp only [List.set] at H
 refine Lt (Cy (Lo O (Y.fa fa_61_0 O) (Lo O (Y.ld ld_3 O (H.cell 4 (v:=.int .i64 (kind:Nat)) O O)) (Lt ?_))))
 obtain ⟨X2,hX2⟩:∃ X2,X2=X++bitsN 1 1++bitsN kind 2:=⟨_,rfl⟩
 have hX2l:X2.length=X.length+3:=by rw [hX2];simp [bnl]
 rw [← hX2] at H
 refine Cb (Cs (Cy (Lo O (Y.eql O O) (Lo O (Y.asgB O) (Lt ?_)))))
 by_cases hk2:kind=2
 case pos =>
  subst hk2
  refine CF O (by omega) (Cr (Lo O (Y.eql O O) (Lo O (Y.asgB O) (Lt (CF O (by omega) (Cy (Lo O (Y.eql O O) (Lo O (Y.asgB O) (Lt (CF O (by omega) ?_))))))))))
  obtain ⟨hrow,hqc,hdis⟩:=hC.row hr hpb hpc H (i:=3) rfl
  refine Cr (Lo O (Y.ldn (cs:=trV 2 0 now (.slice none 0 0)) ldn_61 O O (fun j hj => by rw [Nat.zero_add];exact (H.blk (i:=4) O).cell j)) (Lo O (YS r2) (Lo O (YI r1) (VL.tdo H ⟨2,now,0,[]⟩ ht (by show 2≤3;omega) hnow1 h2 (by show 0≤9;omega) hrow hc32 hcl hcn (fun h => absurd O h) (fun h => absurd h (show ¬ (2:Nat)≤1 by decide)) (fun h => absurd h (show ¬ (2:Nat)=0 by decide)) (fun h => absurd h (show ¬ (2:Nat)=3 by decide)) (by simp) O O O O ?_))))
  intro w g gc H
  refine Lo O (AS O) (Ln (blk_n (blk_n (tn ?_))))
  have hEn:Enc wd ht ra (i+1) px (l++[⟨2,now,0,[]⟩]) now (fwd1 ht ⟨2,now,0,[]⟩ cur) X2 (k+1) :=
   hE.step (t:=⟨2,now,0,[]⟩) (Xp:=[]) (by show 2≤3;omega) rfl (by omega) hki h2 (decTr_reads (by show 2≤3;omega) rfl (fun h => absurd h (show ¬ (2:Nat)≤1 by decide)) (fun _ => ⟨rfl,rfl⟩) (fun h => absurd h (show ¬ (2:Nat)=3 by decide))) (fun h => absurd h (show ¬ (2:Nat)=3 by decide)) (by rw [hX2];simp [trBits]) (by omega) (by omega)
  exact ⟨a7,c7,X2,k+1,l++[⟨2,now,0,[]⟩],now,_,g,0,gc,_,hEn,.inr ⟨rfl,rfl⟩,r1,rfl,r9,r10,r11,r12,r44,r45,by rw [List.map_append];exact H.sub [1,2,3,0] O (by decide)⟩
 have hk1:kind≤1:=by omega
 refine VC.join (fun ρ w' => ρ 78=.bool true∧ρ 1=.int .i64 (ht:Nat)∧ρ 2=.slice (some ⟨qb,qo,none⟩) cur.length qc∧ρ 9=.pointer (some ⟨cb,0,none⟩)∧ρ 10=.pointer (some ⟨wb,0,none⟩)∧ρ 11=.int .i64 (now:Nat)∧ρ 12=.map (some mb)∧ρ 13=.pointer (some ⟨b13,0,none⟩)∧ρ 44=.int .i64 (n5:Nat)∧ρ 45=.int .i64 (i:Nat) ∧
  St W [] [wrR wb a7 c7 X2,blkR cb (chL v (k+1)) 53,mapR .i64 mb (setM (l.map (·.kind)++[kind])),r,blkR b13 (trV kind 0 now (.slice none 0 0)) 61] w') ?_ ?_
 case refine_1 =>
  by_cases hk0:kind=0
  case pos =>
   subst hk0
   refine CT O (by omega) (Ck (tn ?_))
   exact ⟨rfl,r1,r2,r9,r10,r11,r12,rfl,r44,r45,H⟩
  obtain rfl:kind=1:=by omega
  refine CF O (by omega) (Cr (Lo O (Y.eql O O) (Lo O (Y.asgB O) (Lt ?_))))
  exact ⟨rfl,r1,r2,r9,r10,r11,r12,rfl,r44,r45,H⟩
 case refine_2 =>
 clear H r1 r2 r9 r10 r11 r12 r44 r45
 rintro ρ w6 ⟨r78,r1,r2,r9,r10,r11,r12,r13,r44,r45,H⟩
 refine CB r78 (fun _ => ?_) (fun h => nomatch h)
 refine Cy (Lo O (YP r9) (VL.next H 1 O hw hS0 hBc 8 (by omega) (by omega) (by omega) O O O ?_))
 intro w rb hrb H
 simp only [List.set] at H
 refine Lo O (Y.add (r:=((2+rb:Nat):Int)) O O (n64 (a:=2) (by omega))) (Lo O (Y.fa fa_61_1 r13) (VL.putI (m:=((2+rb:Nat):Int)) H 4 st_3 O O O O ?_))
 intro w H
 refine Lt ?_
 obtain ⟨bits,hbits⟩:∃ bits,bits=2+rb:=⟨_,rfl⟩
 replace H:St W [] [wrR wb a7 c7 X2,blkR cb (chL v (k+2)) 53,mapR .i64 mb (setM (l.map (·.kind)++[kind])),r,blkR b13 (trV kind bits now (.slice none 0 0)) 61] w:=by rw [hbits];exact H
 have hb9:bits≤9:=by omega
 refine Cs (Cd mixedP (by kernel_rfl) ?_)
 intro w hsame
 replace H:=H.same hsame
 refine So O (YI r11) (So O (Y.fa fa_61_1 r13) (So O (Y.ld ld_3 O (H.cell 4 (v:=.int .i64 (bits:Nat)) O O)) (VS.call O ent_24 (blocks_any _ now bits (by omega) hb9) O (So O (YI r1) (So O (Y.fa fa_61_1 r13) (So O (Y.ld ld_3 O (H.cell 4 (v:=.int .i64 (bits:Nat)) O O)) (VS.call O ent_24 (blocks_any _ ht bits (by omega) hb9) O (So O (AI O) (So O (AI O) (Sn (tn ?_)))))))))))
 have hta:=tilesN_le (b:=bits) hnow1
 have htb:=tilesN_le (b:=bits) h2
 obtain ⟨aw,haw⟩:∃ aw,aw=tilesN now bits:=⟨_,rfl⟩
 obtain ⟨ah,hah⟩:∃ ah,ah=tilesN ht bits:=⟨_,rfl⟩
 rw [← haw,← hah]
 rw [← haw] at hta
 rw [← hah] at htb
 have hprod:aw * ah≤4096:=by
  have:=Nat.mul_le_mul hta.2 htb.2
  omega
 have hprod1:1≤aw * ah:=Nat.mul_pos hta.1 htb.1
 refine Cs (Cy (Lo O (YI O) (Lo O (YI O) (Lo O (Y.mul (r:=((aw * ah:Nat):Int)) O O (m64 (by omega))) (Lo O (YI O) (Lt ?_))))))
 refine VC.join (fun ρ w' => ∃ img ia ic kk,img.length=aw * ah∧(∀ q ∈ img,q<2 ^ 32∧(kind=0→pG q<14))∧k≤kk∧kk≤k+2+4 * img.length∧ρ 1=.int .i64 (ht:Nat)∧ρ 2=.slice (some ⟨qb,qo,none⟩) cur.length qc∧ρ 9=.pointer (some ⟨cb,0,none⟩)∧ρ 10=.pointer (some ⟨wb,0,none⟩)∧ρ 11=.int .i64 (now:Nat)∧ρ 12=.map (some mb)∧ρ 13=.pointer (some ⟨b13,0,none⟩)∧ρ 15=.int .i64 (aw:Nat)∧ρ 16=.int .i64 (ah:Nat)∧ρ 44=.int .i64 (n5:Nat)∧ρ 45=.int .i64 (i:Nat) ∧
  St W [] [wrR wb a7 c7 X2,blkR cb (chL v kk) 53,mapR .i64 mb (setM (l.map (·.kind)++[kind])),r,blkR b13 (trV kind bits now (.slice ia img.length ic)) 61,vecR ia ic 36 1 img.length (nums .u32 img)] w') ?_ ?_
 case refine_1 =>
  refine Cb ?_
  refine Cl (fun mm ρ w' => ∃ img ia ic kk,img.length≤aw * ah∧mm=aw * ah - img.length∧(∀ q ∈ img,q<2 ^ 32∧(kind=0→pG q<14))∧k≤kk∧kk≤k+2+4 * img.length∧ρ 1=.int .i64 (ht:Nat)∧ρ 2=.slice (some ⟨qb,qo,none⟩) cur.length qc∧ρ 9=.pointer (some ⟨cb,0,none⟩)∧ρ 10=.pointer (some ⟨wb,0,none⟩)∧ρ 11=.int .i64 (now:Nat)∧ρ 12=.map (some mb)∧ρ 13=.pointer (some ⟨b13,0,none⟩)∧ρ 15=.int .i64 (aw:Nat)∧ρ 16=.int .i64 (ah:Nat)∧ρ 44=.int .i64 (n5:Nat)∧ρ 45=.int .i64 (i:Nat)∧ρ 95=.int .i64 ((aw * ah:Nat):Int)∧ρ 96=.int .i64 (img.length:Nat) ∧
   St W [] [wrR wb a7 c7 X2,blkR cb (chL v kk) 53,mapR .i64 mb (setM (l.map (·.kind)++[kind])),r,blkR b13 (trV kind bits now (.slice ia img.length ic)) 61,vecR ia ic 36 1 img.length (nums .u32 img)] w') (aw * ah)
   ⟨[],none,0,k+2,Nat.zero_le _,rfl,by simp,by omega,by simp,r1,r2,r9,r10,r11,r12,r13,rfl,rfl,r44,r45,rfl,rfl,(H.vec0 36 1).sub [1,2,3,4,5,0] rfl (by decide)⟩ ?_
  clear H r1 r2 r9 r10 r11 r12 r13 r44 r45 r78
  rintro mm2 ρ w7 ⟨img,ia,ic,kk,himg,hmm2,hall,hkk1,hkk2,r1,r2,r9,r10,r11,r12,r13,r15,r16,r44,r45,r95,r96,H⟩
  refine Cy (Lo O (Y.lss r96 r95) (Lt ?_))
  by_cases hli:img.length<aw * ah
  case neg =>
   have:img.length=aw * ah:=by omega
   refine Cs (CF O (by omega) (Cx (thn_x (thn_x (blk_x (tn ?_))))))
   exact ⟨img,ia,ic,kk,this,hall,hkk1,hkk2,r1,r2,r9,r10,r11,r12,r13,r15,r16,r44,r45,H⟩
  refine Cs (CT O (by omega) (Ck (tn (Cs (Cb (Cy (Lo O (YP r9) (VL.next H 1 O hw hS0 hBc 14 (by omega) (by omega) (by omega) O O O ?_))))))))
  intro w m0 hm0 H
  simp only [List.set] at H
  refine Lo O (AI O) (Lt (Cs (Cy (Lo O (Y.fa fa_61_0 r13) (Lo O (Y.ld ld_3 O (H.cell 4 (v:=.int .i64 (kind:Nat)) O O)) (Lo O (Y.eql O O) (Lt ?_)))))))
  refine VC.join (fun ρ w' => ∃ m kn,m<256∧(kind=0→m<14)∧kk≤kn∧kn≤kk+2∧ρ 17=.int .i64 (m:Nat)∧ρ 1=.int .i64 (ht:Nat)∧ρ 2=.slice (some ⟨qb,qo,none⟩) cur.length qc∧ρ 9=.pointer (some ⟨cb,0,none⟩)∧ρ 10=.pointer (some ⟨wb,0,none⟩)∧ρ 11=.int .i64 (now:Nat)∧ρ 12=.map (some mb)∧ρ 13=.pointer (some ⟨b13,0,none⟩)∧ρ 15=.int .i64 (aw:Nat)∧ρ 16=.int .i64 (ah:Nat)∧ρ 44=.int .i64 (n5:Nat)∧ρ 45=.int .i64 (i:Nat)∧ρ 95=.int .i64 ((aw * ah:Nat):Int)∧ρ 96=.int .i64 (img.length:Nat) ∧
   St W [] [wrR wb a7 c7 X2,blkR cb (chL v kn) 53,mapR .i64 mb (setM (l.map (·.kind)++[kind])),r,blkR b13 (trV kind bits now (.slice ia img.length ic)) 61,vecR ia ic 36 1 img.length (nums .u32 img)] w') ?_ ?_
  case refine_1 =>
   by_cases hk0:kind=1
   case pos =>
    subst hk0
    refine CT O (by omega) (Cr (Lo O (YP r9) (VL.next H 1 O hw hS0 hBc 256 (by omega) (by omega) (by omega) O O O ?_)))
    intro w m1 hm1 H
    simp only [List.set] at H
    refine Lo O (AI O) (Lt ?_)
    exact ⟨m1,kk+1+1,hm1,fun h => absurd h (by decide),by omega,by omega,rfl,r1,r2,r9,r10,r11,r12,r13,r15,r16,r44,r45,r95,r96,H⟩
   refine CF O (by omega) (Ck (tn ?_))
   exact ⟨m0,kk+1,by omega,fun _ => hm0,by omega,by omega,rfl,r1,r2,r9,r10,r11,r12,r13,r15,r16,r44,r45,r95,r96,H⟩
  case refine_2 =>
  clear H r1 r2 r9 r10 r11 r12 r13 r15 r16 r44 r45 r95 r96
  rintro ρ w8 ⟨m,kn,hm256,hm14,hkn1,hkn2,r17,r1,r2,r9,r10,r11,r12,r13,r15,r16,r44,r45,r95,r96,H⟩
  refine VC.joinB (fun ρ w' => ∃ r1_ r2_ ia' ic',r1_<256∧r2_<256∧ρ 1=.int .i64 (ht:Nat)∧ρ 2=.slice (some ⟨qb,qo,none⟩) cur.length qc∧ρ 9=.pointer (some ⟨cb,0,none⟩)∧ρ 10=.pointer (some ⟨wb,0,none⟩)∧ρ 11=.int .i64 (now:Nat)∧ρ 12=.map (some mb)∧ρ 13=.pointer (some ⟨b13,0,none⟩)∧ρ 15=.int .i64 (aw:Nat)∧ρ 16=.int .i64 (ah:Nat)∧ρ 44=.int .i64 (n5:Nat)∧ρ 45=.int .i64 (i:Nat)∧ρ 95=.int .i64 ((aw * ah:Nat):Int)∧ρ 96=.int .i64 (img.length:Nat) ∧
   St W [] [wrR wb a7 c7 X2,blkR cb (chL v (kn+2)) 53,mapR .i64 mb (setM (l.map (·.kind)++[kind])),r,blkR b13 (trV kind bits now (.slice ia' (img.length+1) ic')) 61,vecR ia' ic' 36 1 (img.length+1) (nums .u32 (img++[imgPx r1_ m r2_]))] w') ?_ ?_
  case refine_2 =>
   clear H r1 r2 r9 r10 r11 r12 r13 r15 r16 r17 r44 r45 r95 r96
   rintro ρ w9 ⟨q1,q2,ia',ic',hq1,hq2,r1,r2,r9,r10,r11,r12,r13,r15,r16,r44,r45,r95,r96,H⟩
   have hpp:=argb_parts (a:=255) (r:=q1) (g:=m) (b:=q2) (by omega) hq1 hm256 hq2
   have hal:∀ q ∈ img++[imgPx q1 m q2],q<2 ^ 32∧(kind=0→pG q<14):=fun q hq => by
    rcases List.mem_append.1 hq with hq | hq
    ·exact hall q hq
    ·rw [List.mem_singleton.1 hq]
     exact ⟨hpp.2.2.2.2,fun h => by unfold imgPx;rw [hpp.2.2.1];exact hm14 h⟩
   refine Cr (Lo O (Y.add (r:=((img.length+1:Nat):Int)) r96 O (n64 (b:=1) (by omega))) (Lo O (YI O) (Lt ?_)))
   exact ⟨aw * ah - (img.length+1),by omega,img++[imgPx q1 m q2],ia',ic',kn+2,by simp;omega,by simp,hal,by omega,by simp;omega,r1,r2,r9,r10,r11,r12,r13,r15,r16,r44,r45,r95,by simp;rfl,by rw [List.length_append];exact H⟩
  case refine_1 =>
  refine VC.held ((fun _ => True)) mixedP (by with_reducible repeat (first | refine NoP.thn ?_ | refine NoP.blk ?_ | refine NoP.jmp ?_ | refine NoP.nojmp ?_ | exact NoP.done)) ?_
  intro w hsame
  replace H:=H.same hsame
  refine Ht 0 O (by kernel_rfl) (by kernel_rfl) (by kernel_rfl) O trivial (fun w hI => Y.fa fa_61_3 r13) (Ht 2 O (by kernel_rfl) (by kernel_rfl) (by kernel_rfl) O trivial (fun w hI => YP r9) (Ht 4 O (by kernel_rfl) (by kernel_rfl) (by kernel_rfl) O trivial (fun w hI => YI r17) (Ht 5 O (by kernel_rfl) (by kernel_rfl) (by kernel_rfl) O trivial (fun w hI => YP r9) ?_)))
  refine VH.orders [0,2,4,5] [1,3,6,7,8,9] [(6,[3]),(7,[3,6]),(8,[7]),(9,[1,8])] 6 O (by kernel_rfl) (by decide) (by kernel_rfl)
   (fun D ρ w' => (∃ q1 q2 b8 ia' ic',q1<256∧q2<256∧(1 ∉ D→ρ 106=.slice ia img.length ic)∧(3 ∉ D→ρ 108=.int .i64 (q1:Nat))∧(6 ∉ D→ρ 111=.int .i64 (q2:Nat))∧(7 ∉ D→ρ 112=.int .u32 (imgPx q1 m q2:Nat))∧(8 ∉ D→ρ 113=.slice (some ⟨b8,0,none⟩) 1 1)∧(9 ∉ D→ρ 114=.slice ia' (img.length+1) ic')∧(7 ∉ D→3 ∉ D∧6 ∉ D)∧(8 ∉ D→7 ∉ D)∧(9 ∉ D→8 ∉ D) ∧
     St W [] (unl D 8 (blkR b8 (nums .u32 [imgPx q1 m q2]) 36)++[wrR wb a7 c7 X2,blkR cb (chL v (kD kn D)) 53,mapR .i64 mb (setM (l.map (·.kind)++[kind])),r,blkR b13 (trV kind bits now (.slice ia img.length ic)) 61,alt D 9 (vecR ia ic 36 1 img.length (nums .u32 img)) (vecR ia' ic' 36 1 (img.length+1) (nums .u32 img++nums .u32 [imgPx q1 m q2]))]) w') ∧
    ρ 105=.pointer (some ⟨b13,3,none⟩)∧ρ 107=.pointer (some ⟨cb,0,none⟩)∧ρ 109=.int .i64 (m:Nat)∧ρ 110=.pointer (some ⟨cb,0,none⟩) ∧
    ρ 1=.int .i64 (ht:Nat)∧ρ 2=.slice (some ⟨qb,qo,none⟩) cur.length qc∧ρ 9=.pointer (some ⟨cb,0,none⟩)∧ρ 10=.pointer (some ⟨wb,0,none⟩)∧ρ 11=.int .i64 (now:Nat)∧ρ 12=.map (some mb)∧ρ 13=.pointer (some ⟨b13,0,none⟩)∧ρ 15=.int .i64 (aw:Nat)∧ρ 16=.int .i64 (ah:Nat)∧ρ 44=.int .i64 (n5:Nat)∧ρ 45=.int .i64 (i:Nat)∧ρ 95=.int .i64 ((aw * ah:Nat):Int)∧ρ 96=.int .i64 (img.length:Nat))
   (fun _ _ _ _ => trivial) ?_ ?_ ?_
  ·exact ⟨⟨0,0,0,none,0,by omega,by omega,fun h => absurd (by decide) h,fun h => absurd (by decide) h,fun h => absurd (by decide) h,fun h => absurd (by decide) h,fun h => absurd (by decide) h,fun h => absurd (by decide) h,fun h => absurd (by decide) h,fun h => absurd (by decide) h,fun h => absurd (by decide) h,H⟩,rfl,rfl,rfl,rfl,r1,r2,r9,r10,r11,r12,r13,r15,r16,r44,r45,r95,r96⟩
  ·clear H r1 r2 r9 r10 r11 r12 r13 r15 r16 r17 r44 r45 r95 r96
   rintro D j ρ w' hj hjD hpre hDn ⟨⟨q1,q2,b8,ia',ic',hq1,hq2,f1,f3,f6,f7,f8,f9,m7,m8,m9,H⟩,r105,r107,r109,r110,r1,r2,r9,r10,r11,r12,r13,r15,r16,r44,r45,r95,r96⟩
   have ne:∀ {x y:Nat},x≠y→(x ∈ D.erase y ↔ x ∈ D):=fun hxy => List.mem_erase_of_ne hxy
   have hself:j ∉ D.erase j:=hDn.not_mem_erase
   simp only [List.mem_cons,List.not_mem_nil,or_false] at hj
   have n7:3 ∈ D∨6 ∈ D→7 ∈ D:=fun h => Classical.byContradiction fun h7 => by rcases h with h | h;exact (m7 h7).1 h;exact (m7 h7).2 h
   have n8:7 ∈ D→8 ∈ D:=fun h => Classical.byContradiction fun h8 => m8 h8 h
   have n9:8 ∈ D→9 ∈ D:=fun h => Classical.byContradiction fun h9 => m9 h9 h
   rcases hj with rfl | rfl | rfl | rfl | rfl | rfl
   ·have hcell13:w'.cell? ⟨b13,3,none⟩=some (.slice ia img.length ic):=(H.get (r:=blkR b13 (trV kind bits now (.slice ia img.length ic)) 61) (i:=(unl D 8 (blkR b8 (nums .u32 [imgPx q1 m q2]) 36)).length+4) (by rw [List.getElem?_append_right (by omega),Nat.add_sub_cancel_left];rfl)).cellv rfl
    refine VO.op O O (Y.ld ld_22 r105 hcell13) ?_
    refine ⟨⟨q1,q2,b8,ia',ic',hq1,hq2,fun _ => rfl,?_,?_,?_,?_,?_,?_,?_,?_,?_⟩,r105,r107,r109,r110,r1,r2,r9,r10,r11,r12,r13,r15,r16,r44,r45,r95,r96⟩
    ·rw [ne (by decide)];exact f3
    ·rw [ne (by decide)];exact f6
    ·rw [ne (by decide)];exact f7
    ·rw [ne (by decide)];exact f8
    ·rw [ne (by decide)];exact f9
    ·rw [ne (by decide),ne (by decide),ne (by decide)];exact m7
    ·rw [ne (by decide),ne (by decide)];exact m8
    ·rw [ne (by decide),ne (by decide)];exact m9
    ·rw [unl_ne (by decide),alt_ne (by decide),kD_ne (by decide) (by decide)];exact H
   ·have h7:=n7 (.inl hjD)
    have h8:=n8 h7
    have h9:=n9 h8
    rw [unl_mem h8,alt_mem h9] at H
    refine VO.call O O ent_22 (next_any' w' cb B v (kD kn D) 256 ((H.get (i:=1) rfl:(blkR cb (chL v (kD kn D)) 53).pred w')) (hw.keep H.frm hS0) hBc (by have:=kD_le kn D;omega) (by omega) (by omega)) (by simp [ev,r107]) ?_
    rintro e w2 ⟨⟨x1,hx1,he⟩,hb2,hf2⟩
    replace H:=H.turnB 1 rfl hf2 hb2
    refine ⟨_,he,⟨x1,q2,b8,ia',ic',hx1,hq2,?_,fun _ => rfl,?_,?_,?_,?_,?_,?_,?_,?_⟩,r105,r107,r109,r110,r1,r2,r9,r10,r11,r12,r13,r15,r16,r44,r45,r95,r96⟩
    ·rw [ne (by decide)];exact f1
    ·rw [ne (by decide)];exact f6
    ·rw [ne (by decide)];exact fun h => absurd h7 h
    ·rw [ne (by decide)];exact fun h => absurd h8 h
    ·rw [ne (by decide)];exact fun h => absurd h9 h
    ·rw [ne (by decide)];exact fun h => absurd h7 h
    ·rw [ne (by decide)];exact fun h => absurd h8 h
    ·rw [ne (by decide)];exact fun h => absurd h9 h
    ·rw [unl_ne (by decide),alt_ne (by decide),kD_3 hjD hDn,unl_mem h8,alt_mem h9];exact H
   ·have h7:=n7 (.inr hjD)
    have h8:=n8 h7
    have h9:=n9 h8
    rw [unl_mem h8,alt_mem h9] at H
    refine VO.call O O ent_22 (next_any' w' cb B v (kD kn D) 256 ((H.get (i:=1) rfl:(blkR cb (chL v (kD kn D)) 53).pred w')) (hw.keep H.frm hS0) hBc (by have:=kD_le kn D;omega) (by omega) (by omega)) (by simp [ev,r110]) ?_
    rintro e w2 ⟨⟨x1,hx1,he⟩,hb2,hf2⟩
    replace H:=H.turnB 1 rfl hf2 hb2
    refine ⟨_,he,⟨q1,x1,b8,ia',ic',hq1,hx1,?_,?_,fun _ => rfl,?_,?_,?_,?_,?_,?_,?_⟩,r105,r107,r109,r110,r1,r2,r9,r10,r11,r12,r13,r15,r16,r44,r45,r95,r96⟩
    ·rw [ne (by decide)];exact f1
    ·rw [ne (by decide)];exact f3
    ·rw [ne (by decide)];exact fun h => absurd h7 h
    ·rw [ne (by decide)];exact fun h => absurd h8 h
    ·rw [ne (by decide)];exact fun h => absurd h9 h
    ·rw [ne (by decide)];exact fun h => absurd h7 h
    ·rw [ne (by decide)];exact fun h => absurd h8 h
    ·rw [ne (by decide)];exact fun h => absurd h9 h
    ·rw [unl_ne (by decide),alt_ne (by decide),kD_6 hjD hDn,unl_mem h8,alt_mem h9];exact H
   ·have h8:=n8 hjD
    have h9:=n9 h8
    have h3:=hpre (7,[3,6]) (by simp) rfl 3 (by simp)
    have h6:=hpre (7,[3,6]) (by simp) rfl 6 (by simp)
    refine VO.call O O ent_25 (color_any w' ((255:Nat):Int) ((q1:Nat):Int) ((m:Nat):Int) ((q2:Nat):Int) 255 q1 m q2 (by omega) (by omega) (by omega) (by omega)) (by simp [ev,f3 h3,f6 h6,r109]) ?_
    rintro e w2 ⟨he,rfl⟩
    refine ⟨_,he,⟨q1,q2,b8,ia',ic',hq1,hq2,?_,?_,?_,fun _ => rfl,?_,?_,?_,?_,?_,?_⟩,r105,r107,r109,r110,r1,r2,r9,r10,r11,r12,r13,r15,r16,r44,r45,r95,r96⟩
    ·rw [ne (by decide)];exact f1
    ·rw [ne (by decide)];exact f3
    ·rw [ne (by decide)];exact f6
    ·rw [ne (by decide)];exact fun h => absurd h8 h
    ·rw [ne (by decide)];exact fun h => absurd h9 h
    ·exact fun _ => ⟨by rw [ne (by decide)];exact h3,by rw [ne (by decide)];exact h6⟩
    ·rw [ne (by decide)];exact fun h => absurd h8 h
    ·rw [ne (by decide),ne (by decide)];exact fun h => absurd h9 h
    ·rw [unl_ne (by decide),alt_ne (by decide),kD_ne (by decide) (by decide)];exact H
   ·have h9:=n9 hjD
    have h7:=hpre (8,[7]) (by simp) rfl 7 (by simp)
    rw [unl_mem hjD,alt_mem h9] at H
    refine VO.bslice O H mk_22 (nums .u32 [imgPx q1 m q2]) O (ps:=[(0,.int .u32 (imgPx q1 m q2:Nat))]) (by simp [ev,f7 h7]) (by decide) (by decide) (by kernel_rfl) ?_
    intro w2 b2 _ _ H
    refine ⟨⟨q1,q2,b2,ia',ic',hq1,hq2,?_,?_,?_,?_,fun _ => rfl,?_,?_,?_,?_,?_⟩,r105,r107,r109,r110,r1,r2,r9,r10,r11,r12,r13,r15,r16,r44,r45,r95,r96⟩
    ·rw [ne (by decide)];exact f1
    ·rw [ne (by decide)];exact f3
    ·rw [ne (by decide)];exact f6
    ·rw [ne (by decide)];exact f7
    ·rw [ne (by decide)];exact fun h => absurd h9 h
    ·rw [ne (by decide),ne (by decide),ne (by decide)];exact m7
    ·exact fun _ => by rw [ne (by decide)];exact h7
    ·rw [ne (by decide)];exact fun h => absurd h9 h
    ·rw [unl_eq hDn,alt_ne (by decide),alt_mem h9,kD_ne (by decide) (by decide)];exact H
   ·have h1_:=hpre (9,[1,8]) (by simp) rfl 1 (by simp)
    have h8:=hpre (9,[1,8]) (by simp) rfl 8 (by simp)
    rw [unl_not h8,alt_mem hjD] at H
    refine VO.append O H 6 mk_22 (by decide) O (f1 h1_) O (f8 h8) (news:=nums .u32 [imgPx q1 m q2]) O (fun j u hj => by rw [Nat.zero_add];exact H.cell 0 O hj) (nums_one _ _) (by simp only [maxLen];omega) (by omega) ?_
    intro a2 c2 w2 _ H
    simp only [List.set,List.cons_append,List.nil_append] at H
    refine ⟨⟨q1,q2,b8,a2,c2,hq1,hq2,?_,?_,?_,?_,?_,fun _ => rfl,?_,?_,?_,?_⟩,r105,r107,r109,r110,r1,r2,r9,r10,r11,r12,r13,r15,r16,r44,r45,r95,r96⟩
    ·rw [ne (by decide)];exact f1
    ·rw [ne (by decide)];exact f3
    ·rw [ne (by decide)];exact f6
    ·rw [ne (by decide)];exact f7
    ·rw [ne (by decide)];exact f8
    ·rw [ne (by decide),ne (by decide),ne (by decide)];exact m7
    ·rw [ne (by decide),ne (by decide)];exact m8
    ·exact fun _ => by rw [ne (by decide)];exact h8
    ·rw [unl_ne (by decide),unl_not h8,alt_eq hDn,kD_ne (by decide) (by decide)];exact H
  clear H r1 r2 r9 r10 r11 r12 r13 r15 r16 r17 r44 r45 r95 r96
  rintro ρ w9 ⟨⟨q1,q2,b8,ia',ic',hq1,hq2,f1,f3,f6,f7,f8,f9,m7,m8,m9,H⟩,r105,r107,r109,r110,r1,r2,r9,r10,r11,r12,r13,r15,r16,r44,r45,r95,r96⟩
  have r114:=f9 (by simp)
  rw [unl_nil,alt_nil,kD_nil] at H
  clear f1 f3 f6 f7 f8 f9 m7 m8 m9
  refine Ht 10 O (by kernel_rfl) (by kernel_rfl) (by kernel_rfl) O trivial (fun w hI => Y.fa fa_61_3 r13) (VH.st 11 O (by kernel_rfl) (Sk.st st_22 O r114 O (H.cell 5 (off:=3) (v:=.slice ia img.length ic) O O) (H.fz 5 O)) trivial ?_)
  replace H:=H.put 5 (off:=3) (.slice ia' (img.length+1) ic') rfl
  refine VH.nil (by kernel_rfl) (blk_n (tn ?_))
  exact ⟨q1,q2,ia',ic',hq1,hq2,r1,r2,r9,r10,r11,r12,r13,r15,r16,r44,r45,r95,r96,by rw [nums_append];exact H.sub [1,2,3,4,5,6] O (by decide)⟩
 case refine_2 =>
 clear H r1 r2 r9 r10 r11 r12 r13 r44 r45 r78
 rintro ρ w7 ⟨img,ia,ic,kk,himg,hall,hkk1,hkk2,r1,r2,r9,r10,r11,r12,r13,r15,r16,r44,r45,H⟩
 have hvi:VecOk w7 ia ic 36 1 img.length (nums .u32 img):=H.get (i:=5) rfl
 obtain ⟨g,rfl,_⟩:=hvi.cell (by omega)
 clear hvi
 refine Cy (Lo O (YP r10) (Lo O (Y.fa fa_61_1 r13) (Lo O (Y.ld ld_3 O (H.cell 4 (v:=.int .i64 (bits:Nat)) O O)) (Lo O (Y.sub (r:=((bits - 2:Nat):Int)) O O (s64 (b:=2) (by omega))) (VL.bits H 0 O (bits - 2) 3 (by omega) (by omega) (by omega) O O O O ?_)))))
 intro w a8 c8 H
 simp only [List.set] at H
 refine Lt ?_
 obtain ⟨X3,hX3⟩:∃ X3,X3=X2++bitsN (bits - 2) 3:=⟨_,rfl⟩
 have hX3l:X3.length=X.length+6:=by rw [hX3,List.length_append,bnl];omega
 rw [← hX3] at H
 have hvi:VecOk w (some ⟨g,0,none⟩) ic 36 1 img.length (nums .u32 img):=H.get (i:=5) rfl
 have hic:img.length≤ic:=by
  rcases hvi with ⟨h0,_⟩ | ⟨g',cur',h0,_,h1,_⟩
  ·cases h0
  ·exact h1
 have hg0:=apart_disj H.apart (i:=5) (j:=0) rfl rfl (by decide) g (by simp [vecR,footA])
 have hg1:=apart_disj H.apart (i:=5) (j:=1) rfl rfl (by decide) g (by simp [vecR,footA])
 refine Cy (Lo O (YP r10) (Lo O (Y.fa fa_61_3 r13) (Lo O (Y.ld ld_22 O (H.cell 4 (v:=.slice (some ⟨g,0,none⟩) img.length ic) O O)) (Lo O (YI r15) (Lo O (YI r16) (Lo O (YP r9) ?_))))))
 refine VL.pixels (others:=[mapR .i64 mb (setM (l.map (·.kind)++[kind])),r,blkR b13 (trV kind bits now (.slice (some ⟨g,0,none⟩) img.length ic)) 61,vecR (some ⟨g,0,none⟩) ic 36 1 img.length (nums .u32 img)]) (pixels_all false) H hw hS0 hBW (vec_row hvi) (fun s hs => ?_) himg (by omega) hic hta.1 htb.1 (fun q hq => (hall q hq).1) (by unfold kLim;simp;omega) (by unfold xLim;simp;omega) O O O O O O O ?_
 ·simp only [List.mem_cons,List.not_mem_nil,or_false] at hs
  rcases hs with rfl | rfl
  ·exact hg0
  ·exact hg1
 intro w a9 c9 Zp k9 hZ hZl hk9 hk9' H
 refine Lt ?_
 replace H:St W [] [wrR wb a9 c9 (X3++Zp),blkR cb (chL v k9) 53,mapR .i64 mb (setM (l.map (·.kind)++[kind])),r,blkR b13 (trV kind bits now (.slice (some ⟨g,0,none⟩) img.length ic)) 61,vecR (some ⟨g,0,none⟩) ic 36 1 img.length (nums .u32 img)] w:=H
 obtain ⟨hrow,hqc,hdis⟩:=hC.row hr hpb hpc H (i:=3) rfl
 have hvi2:VecOk w (some ⟨g,0,none⟩) ic 36 1 img.length (nums .u32 img):=H.get (i:=5) rfl
 have hzm:zMax false=700000:=rfl
 have hkm:kMax false=100000:=rfl
 have hn3:¬ kind=3:=hk3
 refine Cr (Lo O (Y.ldn (cs:=trV kind bits now (.slice (some ⟨g,0,none⟩) img.length ic)) ldn_61 r13 O (fun j hj => by rw [Nat.zero_add];exact (H.blk (i:=4) O).cell j)) (Lo O (YS r2) (Lo O (YI r1) (VL.tdo H ⟨kind,now,bits,img⟩ ht (by show kind≤3;omega) hnow1 h2 hb9 hrow hc32 hcl hcn (fun _ => ⟨g,ic,rfl,vec_row hvi2⟩) (fun _ => ⟨by show img.length=tilesN now bits * tilesN ht bits;rw [himg,haw,hah],fun q hq => (hall q hq).1⟩) (fun h q hq => (hall q hq).2 h) (fun h => absurd h hn3) (by show img.length≤4096;omega) O O O O ?_))))
 intro w g2 gc H
 refine Lo O (AS O) (Ln (blk_n (blk_n (tn ?_))))
 have hnw:newW ⟨kind,now,bits,img⟩=now:=by unfold newW;rw [if_neg hn3]
 have hEn:Enc wd ht ra (i+1) px (l++[⟨kind,now,bits,img⟩]) (newW ⟨kind,now,bits,img⟩) (fwd1 ht ⟨kind,now,bits,img⟩ cur) (X3++Zp) k9 :=
  hE.step (t:=⟨kind,now,bits,img⟩) (Xp:=Zp) (by show kind≤3;omega) rfl (by omega) hki h2 (decTr_reads (by show kind≤3;omega) rfl (fun _ => ⟨by show 2≤bits;omega,hb9,by rw [decPix_false,haw,hah] at hZ;exact hZ⟩) (fun h => absurd h hk2) (fun h => absurd h hn3)) (fun h => absurd h hn3) (by rw [hX3,hX2];unfold trBits;rw [if_pos (show kind≤1 from hk1)];simp) (by rw [List.length_append];omega) (by omega)
 rw [hnw] at hEn
 exact ⟨a9,c9,X3++Zp,k9,l++[⟨kind,now,bits,img⟩],now,_,g2,0,gc,_,hEn,.inr ⟨rfl,rfl⟩,r1,rfl,r9,r10,r11,r12,r44,r45,by rw [List.map_append];exact H.sub [1,2,3,0] O (by decide)⟩
end Go.Proofs.YtinkhckpckfajaaDoor
set_option maxHeartbeats 1000000
namespace Go.Proofs.YtinkhckpckfajaaDoor
open Go
theorem LIn.keep {v:Value} {n:Nat} {w w':World} (h:LIn v n w) (hf:Frm [] w w'):LIn v n w':=by
 obtain ⟨a,c,rfl,h⟩:=h
 refine ⟨a,c,rfl,h.imp id ?_⟩
 rintro ⟨sb,so,ls,rfl,hn,hp⟩
 exact ⟨sb,so,ls,rfl,hn,hp.keep hf List.not_mem_nil⟩
def WIn (v:Value) (n:Nat) (w:World):Prop:=∃ a c,v=.slice a n c∧(n=0∨∃ sb so,∃ zs:List Int,a=some ⟨sb,so,none⟩∧n=zs.length∧∀ j (h:j<zs.length),w.cell? ⟨sb,so+j,none⟩=some (.int .i64 zs[j]))
theorem WIn.keep {v:Value} {n:Nat} {w w':World} (h:WIn v n w) (hf:Frm [] w w'):WIn v n w':=by
 obtain ⟨a,c,rfl,h⟩:=h
 refine ⟨a,c,rfl,h.imp id ?_⟩
 rintro ⟨sb,so,zs,rfl,hn,hp⟩
 exact ⟨sb,so,zs,rfl,hn,fun j hj => hf.cell (hp j hj) List.not_mem_nil⟩
theorem WIn.way {v:Value} {n:Nat} {w:World} (h:WIn v n w) (hn:n≤2147483647) {pb:Nat} (hpb:pb<w.heap.size):∃ B,WayAt B v w:=by
 obtain ⟨a,c,rfl,h⟩:=h
 by_cases h0:n=0
 ·exact ⟨pb,hpb,a,n,c,rfl,hn,.inl h0⟩
 ·rcases h with h | ⟨sb,so,zs,rfl,hl,hp⟩
  ·exact absurd h h0
  ·exact ⟨sb,World.block_lt_of_cell? w _ (hp 0 (by omega)),_,n,c,rfl,hn,.inr ⟨sb,so,zs,rfl,hl,rfl,hp⟩⟩
theorem rowK_pack (X:Bits) (j:Nat) (h:j<(packB X).length):(rowK .u8 (byteOf X) (nB X))[j]?=some (.int .u8 ((packB X)[j]:Nat)):=by
 rw [packB_length] at h
 rw [rowK_get h]
 simp [packB]
theorem rowK_packB (X:Bits):rowK .u8 (byteOf X) (nB X)=nums .u8 (packB X):=by simp [rowK,nums,packB]
theorem StrOk.sin {W w':World} {X:Bits} {e:Ending} (h:StrOk W X e w') (hX:0<nB X) (hG:Gl W):∃ sb c,e=.returned (.slice (some ⟨sb,0,none⟩) (packB X).length c)∧SIn sb 0 (packB X) w'∧Frm [] W w'∧W.heap.size≤sb∧(packB X).length≤c∧VecOk w' (some ⟨sb,0,none⟩) c 5 1 (packB X).length (nums .u8 (packB X))∧X.length≤10000000:=by
 obtain ⟨a,c,rfl,hv,hfa,hf,hXl⟩:=h
 obtain ⟨sb,rfl,hc⟩:=hv.cell hX
 have hcc:nB X≤c∧c≤maxLen:=by
  rcases hv with ⟨h0,_⟩ | ⟨g,cur,h0,_,h1,h2,_⟩
  ·cases h0
  ·exact ⟨h1,h2⟩
 refine ⟨sb,c,by rw [packB_length],⟨hG.keep hf (by intro b hb;simp at hb),fun j hj => by rw [Nat.zero_add];exact hc j _ (rowK_pack X j hj),packB_lt X,?_,?_⟩,hf,hfa sb (by simp [footA]),by rw [packB_length];exact hcc.1,by rw [packB_length,← rowK_packB];exact hv,hXl⟩
 ·rw [packB_length]
  unfold nB
  omega
 ·exact World.block_lt_of_cell? w' _ (hc 0 _ (rowK_get hX))
theorem rds_pack {X:Bits} {v:Nat × Nat × List Nat} (h:Rds decAll X v):∃ R',decAll (bitsOf (packB X))=some (v,R'):=by
 obtain ⟨k,_,e⟩:=bits_pack X
 rw [e]
 exact ⟨_,h _⟩
theorem rds_pos {X:Bits} {v:Nat × Nat × List Nat} (h:Rds decAll X v):0<nB X:=by
 refine Nat.pos_of_ne_zero fun h0 => ?_
 have hX:X=[]:=List.eq_nil_of_length_eq_zero (by unfold nB at h0;omega)
 subst hX
 have:=h []
 cases this
section
variable {w:World} {nn:Nat} {ops:Array Oper} {lo:List Oper} {Q:Post} {rest:List Oper} {ρ:Env} {ty:TypeId} {pos:String} {after:Array Edge} {x1 x2 x3 x4:Operand} {d:Nat} {ts:Array TypeId} {wd ht pb po pc n m:Nat} {px:List Nat} {v lv:Value}
theorem VL.picture {x y:Int} {ln:Nat} (hm0:0<m) (hm:m≤16384) (L:LIn lv ln w) (hd:Nat.blt d nn=true) (h1:ev ρ x1=.int .i64 x) (h2:ev ρ x2=.int .i64 y) (h3:ev ρ x3=.int .i64 (m:Nat)) (h4:ev ρ x4=lv)
  (h:∀ w' wd ht px pb c,Frm [] w w'→1≤wd→wd≤m→1≤ht→ht≤m→px.length=wd * ht→PIn pb 0 px w'→px.length≤c→w.heap.size≤pb→VecOk w' (some ⟨pb,0,none⟩) c 36 1 px.length (nums .u32 px)→VL Tryd.prog nn ops Q rest (upd ρ d (.tuple #[.int .i64 (wd:Nat),.int .i64 (ht:Nat),.slice (some ⟨pb,0,none⟩) px.length c])) w') :
  VL Tryd.prog nn ops Q (⟨some d,.call ⟨.value (.func 11),#[x1,x2,x3,x4],ts⟩,ty,pos,after,none⟩ :: rest) ρ w :=
 VL.call hd ent_11 (picture_any w x y m lv ln hm0 hm L) (by simp [h1,h2,h3,h4]) fun e w' ⟨hf,wd,ht,px,a,c,he,g1,g2,g3,g4,g5,g6,hv,hfa⟩ => by
  have hpos:0<wd * ht:=Nat.mul_pos g1 g3
  obtain ⟨pb,rfl,hc⟩:=hv.cell hpos
  rw [← g5] at he hv
  have hc2:px.length≤c:=by
   rcases hv with ⟨h0,_⟩ | ⟨g,cur,h0,_,h1,h2,_⟩
   ·cases h0
   ·exact h1
  have hrow:=vec_row hv
  exact ⟨_,he,h w' wd ht px pb c hf g1 g2 g3 g4 g5 ⟨hrow,g6,World.block_lt_of_cell? w' _ (hrow 0 (by omega))⟩ hc2 (hfa pb (by simp [footA])) hv⟩
theorem VL.encode (G:Gl w) (I:PIn pb po px w) (hpc:px.length≤pc) (hl:px.length=wd * ht) (hn:px.length≤4096) (g1:1≤wd) (g2:1≤ht) (hw:WIn v n w) (hn2:n≤2147483647) (hd:Nat.blt d nn=true)
  (h1:ev ρ x1=.int .i64 (wd:Nat)) (h2:ev ρ x2=.int .i64 (ht:Nat)) (h3:ev ρ x3=.slice (some ⟨pb,po,none⟩) px.length pc) (h4:ev ρ x4=v)
  (h:∀ w' X sb c,Frm [] w w'→Rds decAll X (wd,ht,px)→SIn sb 0 (packB X) w'→w.heap.size≤sb→(packB X).length≤c→0<nB X→VecOk w' (some ⟨sb,0,none⟩) c 5 1 (packB X).length (nums .u8 (packB X))→X.length≤10000000→VL Tryd.prog nn ops Q rest (upd ρ d (.slice (some ⟨sb,0,none⟩) (packB X).length c)) w') :
  VL Tryd.prog nn ops Q (⟨some d,.call ⟨.value (.func 13),#[x1,x2,x3,x4],ts⟩,ty,pos,after,none⟩ :: rest) ρ w:=by
 obtain ⟨B,hB⟩:=hw.way hn2 I.sbl
 refine VL.call hd ent_13 (encode_any w wd ht pb po pc B px v I.row hpc hl hn g1 g2 I.small hB) (by simp [h1,h2,h3,h4]) fun e w' ⟨X,hS,hR⟩ => ?_
 obtain ⟨sb,c,he,hI,hf,hsb,hc,hV,hXl⟩:=hS.sin (rds_pos hR) G
 exact ⟨_,he,h w' X sb c hf hR hI hsb hc (rds_pos hR) hV hXl⟩
theorem VL.is {sb so sc:Nat} {s:List Nat} {R':Bits} (I:SIn sb so s w) (Ip:PIn pb po px w) (hdec:decAll (bitsOf s)=some ((wd,ht,px),R')) (hd:Nat.blt d nn=true) (h1:ev ρ x1=.slice (some ⟨sb,so,none⟩) s.length sc)
  (h2:ev ρ x2=.int .i64 (wd:Nat)) (h3:ev ρ x3=.int .i64 (ht:Nat)) (h4:ev ρ x4=.slice (some ⟨pb,po,none⟩) px.length pc) (h:∀ w',Frm [] w w'→VL Tryd.prog nn ops Q rest (upd ρ d (.bool true)) w') :
  VL Tryd.prog nn ops Q (⟨some d,.call ⟨.value (.func 14),#[x1,x2,x3,x4],ts⟩,ty,pos,after,none⟩ :: rest) ρ w :=
 VL.call hd ent_14 (is_any sb so sc s w I pb po pc wd ht px R' Ip hdec) (by simp [h1,h2,h3,h4]) fun e w' ⟨he,hf⟩ => ⟨_,he,h w' hf⟩
theorem VL.isG {sb so sc:Nat} {s:List Nat} {R':Bits} {j dj:Nat} {b:Bool} (I:SIn sb so s w) (Ip:PIn pb po px w) (hdec:decAll (bitsOf s)=some ((wd,ht,px),R')) (hj:(lo[j]?).bind (·.dst)=some dj) (hdj:Nat.blt dj nn=true) (hb:ρ dj=.bool b) (hd:Nat.blt d nn=true) (h1:ev ρ x1=.slice (some ⟨sb,so,none⟩) s.length sc)
  (h2:ev ρ x2=.int .i64 (wd:Nat)) (h3:ev ρ x3=.int .i64 (ht:Nat)) (h4:ev ρ x4=.slice (some ⟨pb,po,none⟩) px.length pc) (h:∀ w',Frm [] w w'→VL Tryd.prog nn lo.toArray Q rest (upd ρ d (.bool true)) w') :
  VL Tryd.prog nn lo.toArray Q (⟨some d,.call ⟨.value (.func 14),#[x1,x2,x3,x4],ts⟩,ty,pos,after,some (j,b)⟩ :: rest) ρ w :=
 VL.callG hj hdj hb hd ent_14 (is_any sb so sc s w I pb po pc wd ht px R' Ip hdec) (by simp [h1,h2,h3,h4]) fun e w' ⟨he,hf⟩ => ⟨_,he,h w' hf⟩
end
theorem SIn.keep0 {sb so:Nat} {s:List Nat} {w w':World} (h:SIn sb so s w) (hf:Frm [] w w'):SIn sb so s w' :=
 ⟨h.gl.keep hf (by intro b hb;simp at hb),fun j hj => hf.cell (h.bytes j hj) List.not_mem_nil,h.small,h.len,Nat.lt_of_lt_of_le h.sbl hf.size⟩
theorem LIn.val {v:Value} {n:Nat} {w:World} (h:LIn v n w):∃ a c,v=.slice a n c:=by obtain ⟨a,c,e,_⟩:=h;exact ⟨a,c,e⟩
theorem WIn.val {v:Value} {n:Nat} {w:World} (h:WIn v n w):∃ a c,v=.slice a n c:=by obtain ⟨a,c,e,_⟩:=h;exact ⟨a,c,e⟩
theorem Gl.keep0 {w w':World} (h:Gl w) (hf:Frm [] w w'):Gl w':=h.keep hf (by intro b hb;simp at hb)
theorem back_walk (W:World) (x y:Int) (lv wv:Value) (ln wn:Nat) (G:Gl W) (L:LIn lv ln W) (Wy:WIn wv wn W) :
  Calls Tryd.prog 4 #[.int .i64 x,.int .i64 y,lv,wv] W fun e w' => e=.returned (.bool true)∧Frm [] W w':=by
 obtain ⟨la,lc,rfl⟩:=L.val
 obtain ⟨wa,wc,rfl⟩:=Wy.val
 have H:St W [] [] W:=St.nil W []
 refine enter (m:=35) Tryd.func4 O Tryd.ntmps4 O (Cy (Lo O (Y.asgB O) (Lt ?_)))
 by_cases h1:2147483647<ln
 case pos =>
  refine Cs (Cy (Lo O (YS O) (Lo O (Y.len sl_22 O) (Lo O (Y.gtrD (b:=true) O O (decide_eq_true (by omega))) (Lo O (Y.movB O) (VL.skipG O O O O O (VL.skipG O O O O O (VL.skipG O O O O O (Lo O (Y.pick O O) (Lt ?_))))))))))
  refine CB O (fun _ => ?_) (fun h => nomatch h)
  refine Cy (Lo O (Y.asgB O) (Lt (Ct (thn_r ?_))))
  exact Done.ret1 O O ⟨rfl,Frm.refl _ _⟩
 by_cases h2:2147483647<wn
 case pos =>
  refine Cs (Cy (Lo O (YS O) (Lo O (Y.len sl_22 O) (Lo O (Y.gtrD (b:=false) O O (decide_eq_false (by omega))) (Lo O (Y.movB O) (LG O O O O (YS O) (LG O O O O (Y.len sl_23 O) (LG O O O O (Y.gtrD (b:=true) O O (decide_eq_true (by omega))) (Lo O (Y.pick O O) (Lt ?_))))))))))
  refine CB O (fun _ => ?_) (fun h => nomatch h)
  refine Cy (Lo O (Y.asgB O) (Lt (Ct (thn_r ?_))))
  exact Done.ret1 O O ⟨rfl,Frm.refl _ _⟩
 refine Cs (Cy (Lo O (YS O) (Lo O (Y.len sl_22 O) (Lo O (Y.gtrD (b:=false) O O (decide_eq_false (by omega))) (Lo O (Y.movB O) (LG O O O O (YS O) (LG O O O O (Y.len sl_23 O) (LG O O O O (Y.gtrD (b:=false) O O (decide_eq_false (by omega))) (Lo O (Y.pick O O) (Lt (CB O (fun h => nomatch h) (fun _ => (Ck (tn (Cy (Lo O (YI O) (Lo O (YI O) (Lo O (YS O) ?_))))))))))))))))))
 refine VL.picture (m:=40) (by decide) (by decide) L O O O O O ?_
 intro w1 wd ht px pb pc hf1 g1 g2 g3 g4 g5 Ip hpc hpb hv
 refine Lo O (Y.movT O) (Lo O (Y.ext O O) (Lo O (Y.ext O O) (Lo O (Y.ext O O) (Lo O (AI O) (Lo O (AI O) (Lo O (AS O) (Lt ?_)))))))
 have hp:px.length≤1600:=by rw [g5];exact Nat.mul_le_mul g2 g4
 refine Cy (Lo O (YI O) (Lo O (YI O) (Lo O (YS O) (Lo O (YS O) (VL.encode (G.keep0 hf1) Ip hpc g5 (by omega) g1 g3 (Wy.keep hf1) (by omega) O O O O O ?_)))))
 intro w2 X sb sc hf2 hR I hsb hsc hX _ _
 obtain ⟨R',hdec⟩:=rds_pack hR
 refine Lo O (YI O) (Lo O (YI O) (Lo O (YS O) (VL.is I (Ip.keep hf2 List.not_mem_nil) hdec O O O O O ?_)))
 intro w3 hf3
 refine Lo O (Y.asgB O) (Lt (Ct ?_))
 exact Done.ret1 O O ⟨rfl,(hf1.trans hf2).trans hf3⟩
end Go.Proofs.YtinkhckpckfajaaDoor
namespace Go.Proofs.YtinkhckpckfajaaDoor
open Go Go.ChangeShapes Go.WideShapes Go.ChangeAt Go.RowKit
section
variable {H:Type} {enc:TypeId × Value→H}
theorem ints_in {P:Program} {W:World} {base:Nat} {t e:TypeId} {k:IntKind} {v:Value} {d:DataW H} {p:List MemPlace} (ht:P.underlying t=some (.slice e)) (he:P.underlying e=some (.int k)) (hc:P.cellsOf e=1)
  (hval:Value.okWide P W .any base t v) (hd:DataW.Trod enc P W 0 (fun _ => true) true t v d p) :
  ∃ a n c,v=.slice a n c∧(n=0∨∃ sb so,∃ zs:List Int,a=some ⟨sb,so,none⟩∧n=zs.length∧(∀ j (h:j<zs.length),W.cell? ⟨sb,so+j,none⟩=some (.int k zs[j]))∧∀ z ∈ zs,(Lit.int k z).wf=true):=by
 obtain ⟨a0,len,cap,rfl⟩:=okWide_slice ht hval
 obtain ⟨fuel,hf⟩:=hd
 rcases Go.ChangeShapes.open_ints ht he hc hf with ⟨h,_⟩ | ⟨a,len',cap',zs,h,_,hl,_,hzl,_,hcell,hwf⟩
 ·simp only [Value.cells,List.cons.injEq,Value.slice.injEq,and_true] at h
  exact ⟨a0,len,cap,rfl,.inl h.2.1⟩
 ·simp only [Value.cells,List.cons.injEq,Value.slice.injEq,and_true] at h
  obtain ⟨rfl,rfl,rfl⟩:=h
  refine ⟨_,_,_,rfl,?_⟩
  by_cases h0:len=0
  ·exact .inl h0
  ·right
   simp only [if_true] at hzl
   obtain ⟨b,off,spot⟩:=a
   have hspot:spot=none:=by simpa [Addr.add] using World.cell?_spot (hcell 0 (by omega))
   subst hspot
   refine ⟨b,off,zs.take len,rfl,by rw [List.length_take];omega,fun j hj => ?_,fun z hz => hwf z (List.mem_of_mem_take hz)⟩
   rw [List.length_take] at hj
   have:=hcell j (by omega)
   rw [add_lit0] at this
   rw [this,List.getElem_take]
   simp [show j<zs.length by omega]
theorem l_in {W:World} {base:Nat} {v:Value} {d:DataW H} {p:List MemPlace} (hval:Value.okWide Tryd.prog W .any base 22 v) (hd:DataW.Trod enc Tryd.prog W 0 (fun _ => true) true 22 v d p):∃ n,LIn v n W:=by
 obtain ⟨a,n,c,rfl,h⟩:=ints_in Tryd.underlying22 Tryd.underlying36 (by kernel_rfl) hval hd
 refine ⟨n,a,c,rfl,?_⟩
 by_cases h0:n=0
 ·exact .inl h0
 rcases h with h | ⟨sb,so,zs,rfl,rfl,hz,hwf⟩
 ·exact absurd h h0
 right
 have hz0:∀ j (h:j<zs.length),((zs[j].toNat:Nat):Int)=zs[j]∧zs[j].toNat<4294967296:=fun j hj => by
  have:=hwf _ (List.getElem_mem hj)
  simp only [Lit.wf,Bool.and_eq_true,decide_eq_true_eq] at this
  have h1:(0:Int)≤zs[j]∧zs[j]≤4294967295:=this
  omega
 refine ⟨sb,so,zs.map Int.toNat,rfl,by simp,fun j hj => ?_,fun q hq => ?_,World.block_lt_of_cell? W _ (hz 0 (by omega))⟩
 ·simp only [List.length_map] at hj
  rw [hz j hj,List.getElem_map,(hz0 j hj).1]
 ·obtain ⟨z,hz2,rfl⟩:=List.mem_map.1 hq
  obtain ⟨j,hj,rfl⟩:=List.mem_iff_getElem.1 hz2
  exact (hz0 j hj).2
theorem w_in {W:World} {base:Nat} {v:Value} {d:DataW H} {p:List MemPlace} (hval:Value.okWide Tryd.prog W .any base 23 v) (hd:DataW.Trod enc Tryd.prog W 0 (fun _ => true) true 23 v d p):∃ n,WIn v n W:=by
 obtain ⟨a,n,c,rfl,h⟩:=ints_in Tryd.underlying23 Tryd.underlying3 (by kernel_rfl) hval hd
 refine ⟨n,a,c,rfl,h.imp id ?_⟩
 rintro ⟨sb,so,zs,rfl,rfl,hz,_⟩
 exact ⟨sb,so,zs,rfl,rfl,hz⟩
theorem trodAll_below {P:Program} (hl:laidOutB P=true) {W W':World} (hb:Below W.heap.size W W'):∀ (ts:List TypeId) (vs:List Value) (ds:List (DataW H)) (ps:List MemPlace),(∀ t ∈ ts,P.readableRec t=true∧t<P.types.size)→(∀ x ∈ ps,x.block<W.heap.size) →
  DataW.TrodAll enc P W 0 (fun _ => true) true ts vs ds ps→DataW.TrodAll enc P W' 0 (fun b => decide (b<W.heap.size)) true ts vs ds ps
 | [],vs,ds,ps,hr,hlt,h => by
  obtain ⟨rfl,rfl,rfl⟩:=trodAll_nil h
  exact trodAll_mk0
 | t :: ts,vs,ds,ps,hr,hlt,h => by
  obtain ⟨v,vs',d,ds',p,p',rfl,rfl,rfl,h1,h2⟩:=trodAll_cons h
  obtain ⟨r1,r2⟩:=hr t (by simp)
  exact trodAll_cons_mk (Below.trod hl r1 r2 h1 hb fun x hx => hlt x (List.mem_append_left _ hx)) (trodAll_below hl hb ts vs' ds' p' (fun t ht => hr t (List.mem_cons_of_mem _ ht)) (fun x hx => hlt x (List.mem_append_right _ hx)) h2)
theorem kept_of_frm {W W':World} (h:Frm [] W W') (may:MemPlace→Prop):W.keptBut W' may:=by
 refine ⟨h.os,h.output,fun i hi => ?_⟩
 rw [h.block i hi (by simp)]
 split
 ·rename_i c t fr c' t' fr' e1 e2
  rw [e1] at e2
  cases e2
  exact ⟨rfl,rfl,rfl,fun _ _ => rfl⟩
 ·rename_i e1 e2
  rw [e1] at e2
  cases e2
  exact .inr ⟨rfl,rfl⟩
 ·rfl
theorem laidOut:laidOutB Tryd.prog=true:=by kernel_rfl
theorem post_law {f:Func} {s:ChangeSpec} {W W':World} {args:Array Value} {ds:List (DataW H)} {before:List MemPlace} (hvars:s.vars=[]) (hW:DataW.Whole enc Tryd.prog f.params.toList s.vars false W args.toList ds [] before)
  (hfn:s.fn H (ds++[])={ results:=[.lit (.bool true)],args:=ds }) (hres:f.resultTypes=#[4]) (hr:∀ t ∈ f.params.toList,Tryd.prog.readableRec t=true∧t<Tryd.prog.types.size) (hf:Frm [] W W') :
  s.post enc Tryd.prog f false true false false W args (.bool true) W':=by
 have hlt:=hW.lt
 have hW2:=hW
 obtain ⟨p,q,hA,hV,rfl,hfz,hnd⟩:=hW2
 rw [hvars] at hV
 obtain ⟨_,rfl⟩:=trodVars_none hV
 refine ⟨ds,[],_,[],p,[],hW,?_,?_,?_,kept_of_frm hf _,fun h => nomatch h⟩
 ·rw [hres,hfn]
  exact trodAll_mk1 (shut_bool Tryd.underlying4 _)
 ·rw [hfn]
  exact trodAll_below laidOut hf.below _ _ _ _ hr (fun x hx => by simpa using hlt x (List.mem_append_left _ hx)) hA
 ·rw [hfn,hvars]
  rfl
end
theorem own:ownKnob Tryd.prog.godebug=none:=by kernel_rfl
theorem door_met (os:Os) (args:Array Value):laidMetH Tryd.prog laidS ((World.doorLaid Tryd.prog 2000 os).forCall (fun _ _ => 0) ⟨#[],args,[]⟩).memory :=
 laidMetH_of_parts3 (fuel:=8) (laidMet_of_run' 8 (by kernel_rfl) (by kernel_rfl)) (by kernel_rfl) (by kernel_rfl)
end Go.Proofs.YtinkhckpckfajaaDoor
