/-
  A picture is written and read: part 11 of 13 (Put, PixP, PutSym, Pixels).
-/
import Derived.Test.YtinkhckpckfajaaDoorA10
set_option linter.unusedVariables false
set_option linter.unusedSimpArgs false
set_option maxRecDepth 100000
set_option maxHeartbeats 2000000
namespace Go.Proofs.YtinkhckpckfajaaDoor
open Go
theorem hsame_cell {w w2:World} {a:Addr} {v:Value} (h:Same w w2) (hc:w.cell? a=some v):w2.cell? a=some v:=h.frm.cell hc (by simp)
theorem group0_any (W:World) (i:Nat):Calls Tryd.prog 42 #[.int .i64 (i:Nat)] W fun e w' => e=.returned (.int .i64 (0:Nat))∧Frm [] W w':=by
 refine enter (m:=3) Tryd.func42 O Tryd.ntmps42 O (Cy (Lo O (AI O) (Lt (Cy (Lo O (AI O) (Lt (Ct ?_)))))))
 exact Done.ret1 O O ⟨rfl,Frm.refl _ _⟩
theorem group1_any (W:World) (i wide hb across gb b17 b8 b15 b16:Nat) (gpx:List Nat) (hr:Row W .u32 gb 0 gpx) (h32:∀ p ∈ gpx,p<2 ^ 32) (hi:i≤1000000) (hw1:1≤wide) (hw2:wide≤1000000) (hhb:hb≤9) (hac:across≤1000000)
  (h17:W.cell? ⟨b17,0,none⟩=some (.slice (some ⟨gb,0,none⟩) gpx.length gpx.length)) (h8:W.cell? ⟨b8,0,none⟩=some (.int .i64 (wide:Nat))) (h15:W.cell? ⟨b15,0,none⟩=some (.int .i64 (hb:Nat))) (h16:W.cell? ⟨b16,0,none⟩=some (.int .i64 (across:Nat)))
  (hlt:i / wide / 2 ^ hb * across+i % wide / 2 ^ hb<gpx.length) :
  Calls Tryd.prog 43 #[.int .i64 (i:Nat),.pointer (some ⟨b17,0,none⟩),.pointer (some ⟨b8,0,none⟩),.pointer (some ⟨b15,0,none⟩),.pointer (some ⟨b16,0,none⟩)] W fun e w' => e=.returned (.int .i64 (partN (gpx.getD (i / wide / 2 ^ hb * across+i % wide / 2 ^ hb) 0) 8:Nat))∧Frm [] W w':=by
 have H:St W [] [] W:=St.nil W []
 have d1:i / wide≤i:=Nat.div_le_self _ _
 have d2:i / wide / 2 ^ hb≤i / wide:=Nat.div_le_self _ _
 have d3:i % wide≤i:=Nat.mod_le _ _
 have d4:i % wide / 2 ^ hb≤i % wide:=Nat.div_le_self _ _
 have d5:i / wide / 2 ^ hb * across≤1000000 * 1000000:=Nat.mul_le_mul (by omega) hac
 obtain ⟨j,hj⟩:∃ j,j=i / wide / 2 ^ hb * across+i % wide / 2 ^ hb:=⟨_,rfl⟩
 have hcell:=hr _ hlt
 have hg:gpx[i / wide / 2 ^ hb * across+i % wide / 2 ^ hb]=gpx.getD (i / wide / 2 ^ hb * across+i % wide / 2 ^ hb) 0:=by simp [hlt]
 have hp32:gpx.getD (i / wide / 2 ^ hb * across+i % wide / 2 ^ hb) 0<2 ^ 32:=by rw [← hg];exact h32 _ (List.getElem_mem hlt)
 rw [hg,Nat.zero_add] at hcell
 refine enter (m:=24) Tryd.func43 O Tryd.ntmps43 O (Cy (Lo O (AI O) (Lt (Cs (Cd mixedP (by kernel_rfl) ?_)))))
 intro w hsame
 replace H:=H.same hsame
 refine So O (Y.ld ld_22 O (hsame_cell hsame h17)) (So O (YI O) (So O (Y.ld ld_3 O (hsame_cell hsame h8)) (So O (Y.quo O O (by omega) (q64 (by omega))) (So O (Y.ld ld_3 O (hsame_cell hsame h15)) (So O (Y.shr O O (by omega) (shrK (k:=.i64) (by show _≤(64:Nat);omega))) (So O (Y.ld ld_3 O (hsame_cell hsame h16)) (So O (Y.mul O O (m64 (by omega))) (So O (YI O) (So O (Y.ld ld_3 O (hsame_cell hsame h8)) (So O (Y.remr O O (by omega) (rN)) (So O (Y.ld ld_3 O (hsame_cell hsame h15)) (So O (Y.shr O O (by omega) (shrK (k:=.i64) (by show _≤(64:Nat);omega))) (So O (Y.add O O (n64 (by omega))) (So O (Y.ixS0 (i / wide / 2 ^ hb * across+i % wide / 2 ^ hb) sl_22 O O O hlt) (So O (Y.ld ld_36 O (hsame_cell hsame hcell)) (VS.part _ 8 hp32 (by omega) O O O (So O (AI O) (Sn (tn ?_)))))))))))))))))))
 refine Ct ?_
 exact Done.ret1 O O ⟨rfl,H.frm⟩
theorem put_any (W:World) (wb c0:Nat) (a0:Option Addr) (X:Bits) (q g s long num:Nat) (b6 b22 b33 b34 b21 vn vl gn gl n:Nat) (mn ml cn cl:Nat) (five:List Int) (cells:List Value)
  (hP:WrP wb a0 c0 X W) (h6:W.cell? ⟨b6,0,none⟩=some (.pointer (some ⟨wb,0,none⟩))) (h33:Blk W b33 cells 110) (h33g:cells[4]?=some (.int .i64 (g:Nat))) (h34:Blk W b34 (ints five) 111) (hq:q<5) (hs:five[q]?=some (s:Int))
  (h22:W.cell? ⟨b22,0,none⟩=some (.slice (some ⟨vn,0,none⟩) mn cn)) (h21:W.cell? ⟨b21,0,none⟩=some (.slice (some ⟨vl,0,none⟩) ml cl)) (hgn:g<mn) (hgl:g<ml)
  (hvn:W.cell? ⟨vn,g * 5+q,none⟩=some (.slice (some ⟨gn,0,none⟩) n n)) (hvl:W.cell? ⟨vl,g * 5+q,none⟩=some (.slice (some ⟨gl,0,none⟩) n n)) (hsn:s<n)
  (hnum:W.cell? ⟨gn,s,none⟩=some (.int .i64 (num:Nat))) (hlong:W.cell? ⟨gl,s,none⟩=some (.int .i64 (long:Nat))) (hl15:long≤15) (hnum2:num<2 ^ 62) (hX:X.length≤1099511000000) :
  Calls Tryd.prog 48 #[.int .i64 (q:Nat),.pointer (some ⟨b6,0,none⟩),.pointer (some ⟨b22,0,none⟩),.pointer (some ⟨b33,0,none⟩),.pointer (some ⟨b34,0,none⟩),.pointer (some ⟨b21,0,none⟩)] W fun e w' => ∃ a c,e=.returned (.tuple #[])∧WrP wb a c (X++bitsM num long) w'∧(∀ x ∈ footA a,x ∈ footA a0∨W.heap.size≤x)∧Frm (wb :: footA a0) W w':=by
 have H:St W (wb :: footA a0) [wrR wb a0 c0 X] W:=St.one hP (wrR_local _ _ _ _) (fun b hb => hb)
 have hfive:(ints five)[q]?=some (.int .i64 (s:Int)):=by unfold ints;rw [List.getElem?_map,hs];rfl
 refine enter (m:=33) Tryd.func48 O Tryd.ntmps48 O (VC.drawTail 25 mixedP (by kernel_rfl) ?_)
 intro w hsame
 replace H:=H.same hsame
 refine So O (Y.ld ld_54 O (hsame_cell hsame h6)) (So O (Y.ld ld_106 O (hsame_cell hsame h22)) (So O (Y.fa fa_110_4 O) (So O (Y.ld ld_3 O (hsame_cell hsame (h33.cellv h33g))) (So O (YI O) (So O (Y.ixS g sl_106 O O O hgn) (So O (Y.ixA1 q ar_113 O O O hq) (So O (Y.ld ld_23 O (by rw [Nat.zero_add];exact hsame_cell hsame hvn)) (So O (YI O) (So O (Y.ixA0 q ar_111 O O O hq) (So O (Y.ld ld_3 O (hsame_cell hsame (h34.cellv hfive))) (So O (Y.ixS0 s sl_23 O O O hsn) (So O (Y.ld ld_3 O (hsame_cell hsame hnum)) (So O (Y.ld ld_106 O (hsame_cell hsame h21)) (So O (Y.fa fa_110_4 O) (So O (Y.ld ld_3 O (hsame_cell hsame (h33.cellv h33g))) (So O (YI O) (So O (Y.ixS g sl_106 O O O hgl) (So O (Y.ixA1 q ar_113 O O O hq) (So O (Y.ld ld_23 O (by rw [Nat.zero_add];exact hsame_cell hsame hvl)) ?_)))))))))))))))))))
 refine So O (YI O) (So O (Y.ixA0 q ar_111 O O O hq) (So O (Y.ld ld_3 O (hsame_cell hsame (h34.cellv hfive))) (So O (Y.ixS0 s sl_23 O O O hsn) (So O (Y.ld ld_3 O (hsame_cell hsame hlong)) (Sn (VL.code H 0 O num long (by omega) hnum2 (by omega) O O O O ?_))))))
 intro w a c H
 simp only [List.set] at H
 refine Ln ?_
 exact Done.end0 O ⟨a,c,rfl,H.wrEnd⟩
section
variable {w0 w w':World} {S T:List Nat} {used rest l:List Res}
theorem St.keepBut (h:St w0 S (used++rest) w) (hf:Frm T w w') (hT:∀ b ∈ T,∃ r ∈ used,b ∈ r.foot):∀ r ∈ rest,r.pred w':=fun r hr => by
 have hm:=List.mem_append_right used hr
 have hap:=List.pairwise_append.1 h.apart
 refine (h.loc r hm).1 w w' (fun b hb => hf.block b ((h.loc r hm).2 w (h.has r hm) b hb) fun hbT => ?_) (h.has r hm)
 obtain ⟨s,hs,hbs⟩:=hT b hbT
 exact hap.2.2 s hs r hr b hbs hb
theorem St.notIn (h:St w0 S (used++rest) w) (hT:∀ b ∈ T,∃ r ∈ used,b ∈ r.foot):∀ r ∈ rest,∀ b ∈ r.foot,b ∉ T:=fun r hr b hb hbT => by
 have hap:=List.pairwise_append.1 h.apart
 obtain ⟨s,hs,hbs⟩:=hT b hbT
 exact hap.2.2 s hs r hr b hbs hb
theorem St.left (h:St w0 S (used++rest) w):St w0 S used w :=
 ⟨h.frm,fun r hr => h.has r (List.mem_append_left _ hr),fun r hr => h.loc r (List.mem_append_left _ hr),fun r hr => h.own r (List.mem_append_left _ hr),(List.pairwise_append.1 h.apart).1⟩
theorem St.right (h:St w0 S (used++rest) w):St w0 S rest w :=
 ⟨h.frm,fun r hr => h.has r (List.mem_append_right _ hr),fun r hr => h.loc r (List.mem_append_right _ hr),fun r hr => h.own r (List.mem_append_right _ hr),(List.pairwise_append.1 h.apart).2.1⟩
end
theorem St.subL {w0 w:World} {S:List Nat} {l rest:List Res} (h:St w0 S (l++rest) w) (is:List Nat) {l':List Res} (hl:is.map (fun i => l[i]?)=l'.map some) (hn:is.Pairwise (·≠·)):St w0 S (l'++rest) w:=by
 have hlt:∀ i ∈ is,i<l.length:=fun i hi => by
  have h1:l[i]? ∈ l'.map some:=by rw [← hl];exact List.mem_map_of_mem hi
  obtain ⟨r,_,hr⟩:=List.mem_map.1 h1
  exact (List.getElem?_eq_some_iff.1 hr.symm).1
 refine h.sub (is++(List.range rest.length).map (l.length+·)) ?_ ?_
 ·rw [List.map_append,List.map_append]
  congr 1
  ·rw [← hl]
   exact List.map_congr_left fun i hi => List.getElem?_append_left (hlt i hi)
  ·apply List.ext_getElem
   ·simp
   ·intro j h1 h2
    have hj:j<rest.length:=by simpa using h2
    simp [List.getElem?_append_right,hj]
 ·refine List.pairwise_append.2 ⟨hn,?_,fun i hi j hj => ?_⟩
  ·refine List.pairwise_map.2 ((List.nodup_range (n:=rest.length)).imp fun hne e => hne (by omega))
  ·obtain ⟨q,_,rfl⟩:=List.mem_map.1 hj
   have:=hlt i hi
   omega
def alt (D:List Nat) (i:Nat) (r r':Res):Res:=if i ∈ D then r else r'
theorem alt_ne {D:List Nat} {i j:Nat} {r r':Res} (h:i≠j):alt (D.erase j) i r r'=alt D i r r':=by
 unfold alt
 by_cases e:i ∈ D
 ·rw [if_pos e,if_pos ((List.mem_erase_of_ne h).2 e)]
 ·rw [if_neg e,if_neg (fun h2 => e ((List.mem_erase_of_ne h).1 h2))]
theorem alt_eq {D:List Nat} {i:Nat} {r r':Res} (h:D.Nodup):alt (D.erase i) i r r'=r':=if_neg h.not_mem_erase
theorem alt_mem {D:List Nat} {i:Nat} {r r':Res} (h:i ∈ D):alt D i r r'=r:=if_pos h
theorem alt_nil {i:Nat} {r r':Res}:alt [] i r r'=r':=if_neg (by simp)
theorem unl_not {D:List Nat} {i:Nat} {r:Res} (h:i ∉ D):unl D i r=[r]:=if_neg h
section
variable {P:Program} {w w0:World} {t ty el by_:Nat} {zs:List Value} {a:Option Addr} {c n m c2 b off:Nat} {xs news:List Value} {S:List Nat} {l:List Res} {nn d:Nat} {Q:Post} {lo:List Oper} {ρ:Env} {pos:String} {after:Array Edge} {s x:Operand} {K:Env→World→Prop}
theorem VO.append {i:Nat} (hio:lo[i]?=some ⟨some d,.call ⟨.builtin .append,#[s,x],#[t,t]⟩,ty,pos,after,none⟩) (H:St w0 S l w) (j:Nat) (F:MK P t el by_ zs) (hz:0<zs.length) (hd:Nat.blt d nn=true) (hs:ev ρ s=.slice a n c) (hi:l[j]?=some (vecR a c el zs.length n xs)) (hx:ev ρ x=.slice (some ⟨b,off,none⟩) m c2)
  (hl:news.length=m * zs.length) (hc:∀ j u,news[j]?=some u→w.cell? ⟨b,off+j,none⟩=some u) (h1:∀ u ∈ news,u.oneCell'=true) (h63:n+m≤maxLen) (hby:(n+m) * by_≤140737488355328)
  (h:∀ a' c' w',Frm (footA a) w w'→St w0 S (l.set j (vecR a' c' el zs.length (n+m) (xs++news))) w'→K (upd ρ d (.slice a' (n+m) c')) w'):VO P nn lo.toArray Q i K ρ w:=by
 obtain ⟨a',c',w',hr,hV,hf,hfoot⟩:=append_vec (ty:=ty) (c2:=c2) F hz (H.get hi) hl hc h1 h63 hby
 refine VO.op hio hd (v:=.slice a' (n+m) c') (w':=w') ?_ (h a' c' w' hf (H.turn hi hf hV (vecR_local _ _ _ _ _ _) hfoot))
 unfold Yld
 simp only [execOp,resolve,Sem.run_bind,Sem.run_pure,Result.andThen_ok,Go.invoke,builtin,List.map_toArray,List.map_cons,List.map_nil,hs,hx,hr]
variable {parts:Array (Nat × Operand)} {len:Nat}
theorem VO.bslice {i:Nat} (hio:lo[i]?=some ⟨some d,.buildSlice t len parts,ty,pos,after,none⟩) (H:St w0 S l w) (F:MK P t el by_ zs) (cs:List Value) (hd:Nat.blt d nn=true) {ps:List (Nat × Value)} (hp:(parts.toList.map fun q => (q.1,ev ρ q.2))=ps) (h24:len * zs.length≤2 ^ 24) (h0:len * zs.length≠0)
  (hf:Instr.fill (fun i => some (i * zs.length,zs.length)) (mkCells len zs).toArray ps=some cs.toArray)
  (h:∀ w' b,w.heap.size≤b→Frm [] w w'→St w0 S (blkR b cs el :: l) w'→K (upd ρ d (.slice (some ⟨b,0,none⟩) len len)) w'):VO P nn lo.toArray Q i K ρ w:=by
 obtain ⟨hu,i2,z,h1,h2,h3,h4,h5⟩:=F
 have hz:z.cells=zs.toArray:=by rw [← h3]
 have hzs:z.cells.size=zs.length:=by rw [hz];simp
 have hr:=run_buildSlice (P:=P) w t el len (parts.map fun q => (q.1,ev ρ q.2)) cs.toArray i2 z hu h1 h2 (by rw [h4];omega) (by rw [h4];exact h0) (by
  have e:madeCells zs.toArray (len * zs.length)=(mkCells len zs).toArray:=by rw [← madeCells_list]
  rw [h4,hz,Array.toList_map,hp,← hf,← e]
  rfl)
 refine VO.op hio hd (v:=.slice (some ⟨w.heap.size,0,none⟩) len len) (w':=w.alloc (.cells cs.toArray el)) ?_ (h _ _ (Nat.le_refl _) (Frm.new _ _ _) (H.new _ el))
 unfold Yld
 simp only [execOp,Sem.run_bind,hr,Result.andThen_ok]
 rfl
end
def usedOf (ts:List (Tk × Nat)) (g q s:Nat):Bool:=ts.any fun t => t.2 == g && t.1.syms.contains (q,s)
theorem usedOf_snoc (ts:List (Tk × Nat)) (t:Tk × Nat) (g q s:Nat):usedOf (ts++[t]) g q s=(usedOf ts g q s || (t.2 == g && t.1.syms.contains (q,s))):=by simp [usedOf]
theorem alph_le {cc:Nat} (h:cc≤11) (q:Nat):1≤alph cc q∧alph cc q≤2328:=by
 have:2 ^ cc≤2 ^ 11:=Nat.pow_le_pow_right (by omega) h
 have:=Nat.two_pow_pos cc
 unfold alph
 split
 ·split <;> omega
 ·split <;> omega
theorem five_get (t:Tk) {q:Nat} (hq:q<5):(∃ s:Nat,t.five[q]?=some (s:Int)∧∀ s',t.syms.contains (q,s')=decide (s'=s))∨(t.five[q]?=some (-1)∧∀ s',t.syms.contains (q,s')=false):=by
 have hc:q=0∨q=1∨q=2∨q=3∨q=4:=by omega
 cases t with
 | lit p =>
  rcases hc with rfl | rfl | rfl | rfl | rfl
  ·exact .inl ⟨_,rfl,fun s' => by simp [Tk.syms]⟩
  ·exact .inl ⟨_,rfl,fun s' => by simp [Tk.syms]⟩
  ·exact .inl ⟨_,rfl,fun s' => by simp [Tk.syms]⟩
  ·exact .inl ⟨_,rfl,fun s' => by simp [Tk.syms]⟩
  ·exact .inr ⟨rfl,fun s' => by simp [Tk.syms]⟩
 | hit p k =>
  rcases hc with rfl | rfl | rfl | rfl | rfl
  ·exact .inl ⟨_,rfl,fun s' => by simp [Tk.syms]⟩
  ·exact .inr ⟨rfl,fun s' => by simp [Tk.syms]⟩
  ·exact .inr ⟨rfl,fun s' => by simp [Tk.syms]⟩
  ·exact .inr ⟨rfl,fun s' => by simp [Tk.syms]⟩
  ·exact .inr ⟨rfl,fun s' => by simp [Tk.syms]⟩
 | cp p far long =>
  rcases hc with rfl | rfl | rfl | rfl | rfl
  ·exact .inl ⟨_,rfl,fun s' => by simp [Tk.syms]⟩
  ·exact .inr ⟨rfl,fun s' => by simp [Tk.syms]⟩
  ·exact .inr ⟨rfl,fun s' => by simp [Tk.syms]⟩
  ·exact .inr ⟨rfl,fun s' => by simp [Tk.syms]⟩
  ·exact .inl ⟨_,rfl,fun s' => by simp [Tk.syms]⟩
theorem Tk.Ok.sym {w cc at_:Nat} {px:List Nat} {t:Tk} (h:t.Ok w cc px at_) {q s:Nat} (hs:t.syms.contains (q,s)=true):q<5∧s<alph cc q:=by
 have hm:(q,s) ∈ t.syms:=by simpa using hs
 cases t with
 | lit p =>
  have:=parts_lt p
  simp only [Tk.syms,List.mem_cons,List.not_mem_nil,or_false,Prod.mk.injEq] at hm
  rcases hm with ⟨rfl,rfl⟩ | ⟨rfl,rfl⟩ | ⟨rfl,rfl⟩ | ⟨rfl,rfl⟩
  ·exact ⟨by omega,by unfold alph;rw [if_pos rfl];omega⟩
  ·exact ⟨by omega,by unfold alph;rw [if_neg (by omega),if_neg (by omega)];omega⟩
  ·exact ⟨by omega,by unfold alph;rw [if_neg (by omega),if_neg (by omega)];omega⟩
  ·exact ⟨by omega,by unfold alph;rw [if_neg (by omega),if_neg (by omega)];omega⟩
 | hit p k =>
  simp only [Tk.syms,List.mem_cons,List.not_mem_nil,or_false,Prod.mk.injEq] at hm
  obtain ⟨rfl,rfl⟩:=hm
  obtain ⟨_,h1,h2,_⟩:=h
  exact ⟨by omega,by unfold alph;rw [if_pos rfl,if_neg (by omega)];omega⟩
 | cp p far long =>
  obtain ⟨_,h1,h2,_,h3,h4,_⟩:=h
  have s1:=(sym_spec h1 (by omega)).2.1 h2
  have s2:=(sym_spec h3 h4).1
  simp only [Tk.syms,List.mem_cons,List.not_mem_nil,or_false,Prod.mk.injEq] at hm
  rcases hm with ⟨rfl,rfl⟩ | ⟨rfl,rfl⟩
  ·exact ⟨by omega,by unfold alph;rw [if_pos rfl];omega⟩
  ·exact ⟨by omega,by unfold alph;rw [if_neg (by omega),if_pos rfl];omega⟩
def usR (ub:Nat→Nat) (u:Nat→Nat→Bool) (cc lo m:Nat):List Res:=(List.range' lo m).map fun q => blkR (ub q) (rowB (u q) (alph cc q)) 4
theorem usR_get {ub:Nat→Nat} {u:Nat→Nat→Bool} {cc q:Nat} (h:q<5) (rest:List Res):(usR ub u cc 0 5++rest)[q]?=some (blkR (ub q) (rowB (u q) (alph cc q)) 4):=by
 rw [List.getElem?_append_left (by simpa [usR] using h)]
 simp [usR,h]
theorem usR_set {ub:Nat→Nat} {u v:Nat→Nat→Bool} {cc q:Nat} (h:q<5) (rest:List Res) (hv:∀ q',q'<5→q'≠q→v q'=u q') :
  (usR ub u cc 0 5++rest).set q (blkR (ub q) (rowB (v q) (alph cc q)) 4)=usR ub v cc 0 5++rest:=by
 rw [List.set_append_left _ _ (by simpa [usR] using h)]
 congr 1
 apply List.ext_getElem
 ·simp [usR]
 ·intro j h1 h2
  have hj:j<5:=by simpa [usR] using h2
  rw [List.getElem_set]
  by_cases e:q=j
  ·subst e
   simp [usR]
  ·rw [if_neg e]
   simp [usR,hv j hj (fun h => e h.symm)]
theorem usR_cg {ub:Nat→Nat} {u v:Nat→Nat→Bool} {cc lo m:Nat} (h:∀ q s,u q s=v q s):usR ub u cc lo m=usR ub v cc lo m:=by
 have:u=v:=funext fun q => funext fun s => h q s
 rw [this]
theorem usR_get0 {ub:Nat→Nat} {u:Nat→Nat→Bool} {cc q:Nat} (h:q<5) (r:Res):(r :: usR ub u cc 0 5)[q+1]?=some (blkR (ub q) (rowB (u q) (alph cc q)) 4):=by
 have:=usR_get (ub:=ub) (u:=u) (cc:=cc) h []
 rw [List.append_nil] at this
 rw [List.getElem?_cons_succ]
 exact this
theorem usR_set0 {ub:Nat→Nat} {u v:Nat→Nat→Bool} {cc q:Nat} (h:q<5) (r:Res) (hv:∀ q',q'<5→q'≠q→v q'=u q') :
  (r :: usR ub u cc 0 5).set (q+1) (blkR (ub q) (rowB (v q) (alph cc q)) 4)=r :: usR ub v cc 0 5:=by
 have:=usR_set (ub:=ub) (cc:=cc) h [] hv
 rw [List.append_nil,List.append_nil] at this
 rw [List.set_cons_succ,this]
theorem usR_cg5 {ub:Nat→Nat} {u v:Nat→Nat→Bool} {cc:Nat} (h:∀ q,q<5→∀ s,u q s=v q s):usR ub u cc 0 5=usR ub v cc 0 5:=by
 apply List.map_congr_left
 intro q hq
 have hq5:q<5:=by simpa using hq
 have:u q=v q:=funext fun s => h q hq5 s
 rw [this]
theorem usR_cons (ub:Nat→Nat) (u:Nat→Nat→Bool) (cc lo m:Nat):usR ub u cc lo (m+1)=blkR (ub lo) (rowB (u lo) (alph cc lo)) 4 :: usR ub u cc (lo+1) m:=by
 unfold usR
 rw [List.range'_succ,List.map_cons]
def fiveC (ub:Nat→Nat) (cc:Nat):List Value:=(List.range 5).map fun q => .slice (some ⟨ub q,0,none⟩) (alph cc q) (alph cc q)
theorem fiveC_get {ub:Nat→Nat} {cc q:Nat} (h:q<5):(fiveC ub cc)[q]?=some (.slice (some ⟨ub q,0,none⟩) (alph cc q) (alph cc q)):=by simp [fiveC,h]
theorem perm_in2 {α:Type} (x:α) (A B C:List α):(x :: (A++(B++C))).Perm (A++(B++(x :: C))):=by simpa only [List.append_assoc] using (List.perm_middle (a:=x) (l₁:=A++B) (l₂:=C)).symm
theorem perm_in3 {α:Type} (x:α) (A B D C:List α):(x :: (A++(B++(D++C)))).Perm (A++(B++(D++(x :: C)))):=by simpa only [List.append_assoc] using (List.perm_middle (a:=x) (l₁:=A++B++D) (l₂:=C)).symm
theorem perm_in4 {α:Type} (x:α) (A B D E C:List α):(x :: (A++(B++(D++(E++C))))).Perm (A++(B++(D++(E++(x :: C))))):=by simpa only [List.append_assoc] using (List.perm_middle (a:=x) (l₁:=A++B++D++E) (l₂:=C)).symm
theorem perm_in5 {α:Type} (x:α) (A B D E F C:List α):(x :: (A++(B++(D++(E++(F++C)))))).Perm (A++(B++(D++(E++(F++(x :: C)))))):=by simpa only [List.append_assoc] using (List.perm_middle (a:=x) (l₁:=A++B++D++E++F) (l₂:=C)).symm
theorem Tk.cells_length (t:Tk) (g:Nat):(t.cells g).length=5:=by cases t <;> rfl
theorem Tk.cells_group (t:Tk) (g:Nat):(t.cells g)[4]?=some (.int .i64 (g:Nat)):=by cases t <;> rfl
theorem Tk.cells_one (t:Tk) (g:Nat):∀ u ∈ t.cells g,u.oneCell'=true:=by
 intro u hu
 cases t <;> simp only [Tk.cells,List.mem_cons,List.not_mem_nil,or_false] at hu <;> rcases hu with rfl | rfl | rfl | rfl | rfl <;> rfl
theorem tksCells_get:∀ (ts:List (Tk × Nat)) (q j:Nat) (t:Tk × Nat),ts[q]?=some t→j<5→(tksCells ts)[q * 5+j]?=(t.1.cells t.2)[j]?
 | [],q,j,t,h,_ => by simp at h
 | x :: ts,0,j,t,h,hj => by
  simp only [List.getElem?_cons_zero,Option.some.injEq] at h
  subst h
  rw [Nat.zero_mul,Nat.zero_add]
  exact List.getElem?_append_left (by rw [Tk.cells_length];exact hj)
 | x :: ts,q+1,j,t,h,hj => by
  have:=tksCells_get ts q j t (by simpa using h) hj
  rw [show (q+1) * 5+j=(q * 5+j)+5 by omega]
  refine (List.getElem?_append_right (by rw [Tk.cells_length];omega)).trans ?_
  rw [Tk.cells_length,Nat.add_sub_cancel]
  exact this
theorem tkVec_cell {w:World} {g cap e:Nat} {ts:List (Tk × Nat)} {q:Nat} {t:Tk × Nat} (h:VecOk w (some ⟨g,0,none⟩) cap e 5 ts.length (tksCells ts)) (hq:ts[q]?=some t):∀ j,j<5→w.cell? ⟨g,0+q * 5+j,none⟩=(t.1.cells t.2)[j]?:=fun j hj => by
 have:=tksCells_get ts q j t hq hj
 rw [Nat.zero_add]
 cases e2:(t.1.cells t.2)[j]? with
 | none =>
  have:=List.getElem?_eq_none_iff.1 e2
  rw [Tk.cells_length] at this
  omega
 | some u => exact VecOk.cellS h (this.trans e2)
theorem usedOf_take {ts:List (Tk × Nat)} {j:Nat} {t:Tk × Nat} (h:ts[j]?=some t) (g q s:Nat):usedOf (ts.take (j+1)) g q s=(usedOf (ts.take j) g q s || (t.2 == g && t.1.syms.contains (q,s))):=by
 obtain ⟨h1,h2⟩:=List.getElem?_eq_some_iff.1 h
 rw [List.take_succ_eq_append_getElem h1,usedOf_snoc,h2]
structure En where
 ls:List Nat
 ns:List Nat
 t:T
 gl:Nat
 gn:Nat
def lenV (e:En):Value:=.slice (some ⟨e.gl,0,none⟩) e.ls.length e.ls.length
def numV (e:En):Value:=.slice (some ⟨e.gn,0,none⟩) e.ns.length e.ns.length
def partC (vs:List Value):List Value:=vs++List.replicate (5 - vs.length) (.slice none 0 0)
theorem partC_get {vs:List Value} (h:vs.length<5):(partC vs)[vs.length]?=some (.slice none 0 0):=by
 unfold partC
 rw [List.getElem?_append_right (Nat.le_refl _),Nat.sub_self,List.getElem?_replicate,if_pos (by omega)]
theorem partC_set {vs:List Value} (h:vs.length<5) (v:Value):(partC vs).set vs.length v=partC (vs++[v]):=by
 unfold partC
 rw [List.set_append_right _ _ (Nat.le_refl _),Nat.sub_self,List.length_append,List.length_singleton,show 5 - vs.length=(5 - (vs.length+1))+1 by omega,List.replicate_succ,List.set_cons_zero,List.append_assoc]
 rfl
theorem partC_all {vs:List Value} (h:vs.length=5):partC vs=vs:=by unfold partC;rw [h];simp
theorem lenV_one (es:List En):∀ u ∈ es.map lenV,u.oneCell'=true:=by
 intro u hu
 obtain ⟨e,_,rfl⟩:=List.mem_map.1 hu
 rfl
theorem numV_one (es:List En):∀ u ∈ es.map numV,u.oneCell'=true:=by
 intro u hu
 obtain ⟨e,_,rfl⟩:=List.mem_map.1 hu
 rfl
def rowsR (qs:List (Nat × List Nat)):Res:=⟨qs.map (·.1),fun w => ∀ q ∈ qs,Blk w q.1 (nums .i64 q.2) 3⟩
theorem rowsR_local (qs:List (Nat × List Nat)):(rowsR qs).Local∧(rowsR qs).In:=by
 refine ⟨fun w w' h hp q hq => (h q.1 (List.mem_map_of_mem hq)).trans (hp q hq),fun w hp b hb => ?_⟩
 obtain ⟨q,hq,rfl⟩:=List.mem_map.1 hb
 exact (hp q hq).lt
theorem St.rows0 {w0 w:World} {S:List Nat} {l:List Res} (H:St w0 S l w):St w0 S (rowsR [] :: l) w :=
 H.cons (fun q hq => by cases hq) (rowsR_local _) (by simp [rowsR]) (by simp [rowsR])
theorem St.rows2 {w0 w:World} {S:List Nat} {l:List Res} {b1 b2:Nat} {l1 l2:List Nat} {qs:List (Nat × List Nat)} (H:St w0 S (blkR b1 (nums .i64 l1) 3 :: blkR b2 (nums .i64 l2) 3 :: rowsR qs :: l) w):St w0 S (rowsR ((b1,l1) :: (b2,l2) :: qs) :: l) w:=by
 have H2:St w0 S l w:=⟨H.frm,fun r hr => H.has r (by simp [hr]),fun r hr => H.loc r (by simp [hr]),fun r hr => H.own r (by simp [hr]),by
  have:=H.apart
  simp only [Apart,List.pairwise_cons] at this ⊢
  exact this.2.2.2⟩
 have hb1:Blk w b1 (nums .i64 l1) 3:=H.blk (i:=0) rfl
 have hb2:Blk w b2 (nums .i64 l2) 3:=H.blk (i:=1) rfl
 have hq:(rowsR qs).pred w:=H.get (i:=2) rfl
 refine H2.cons (r:=rowsR ((b1,l1) :: (b2,l2) :: qs)) ?_ (rowsR_local _) ?_ ?_
 ·intro q hq2
  simp only [List.mem_cons] at hq2
  rcases hq2 with rfl | rfl | h
  ·exact hb1
  ·exact hb2
  ·exact hq q h
 ·intro b hb
  simp only [rowsR,List.map_cons,List.mem_cons] at hb
  rcases hb with rfl | rfl | h
  ·exact H.own _ (List.mem_cons_self ..) b (by simp [blkR])
  ·exact H.own (blkR b (nums .i64 l2) 3) (by simp) b (by simp [blkR])
  ·exact H.own (rowsR qs) (by simp) b h
 ·intro s hs b hb
  have hap:=H.apart
  simp only [Apart,List.pairwise_cons,List.mem_cons,forall_eq_or_imp] at hap
  simp only [rowsR,List.map_cons,List.mem_cons] at hb
  rcases hb with rfl | rfl | h
  ·exact hap.1.2.2 s hs b (by simp [blkR])
  ·exact hap.2.1.2 s hs b (by simp [blkR])
  ·exact hap.2.2.1 s hs b h
theorem tree_foot {ub n wb c cb k:Nat} {u:Nat→Bool} {a:Option Addr} {X:Bits} {v:Value}:∀ r ∈ [blkR ub (rowB u n) 4,wrR wb a c X,blkR cb (chL v k) 53],∀ b ∈ r.foot,b ∈ ub :: wb :: cb :: footA a:=by
 intro r hr b hb
 rcases List.mem_cons.1 hr with rfl | hr
 ·simp only [blkR,List.mem_singleton] at hb
  simp [hb]
 ·exact List.mem_cons_of_mem _ (wr_ch_foot r hr b hb)
theorem tree_foot2 {ub n wb c cb k:Nat} {u:Nat→Bool} {a:Option Addr} {X:Bits} {v:Value}:∀ b ∈ ub :: wb :: cb :: footA a,∃ r ∈ [blkR ub (rowB u n) 4,wrR wb a c X,blkR cb (chL v k) 53],b ∈ r.foot:=by
 intro b hb
 rcases List.mem_cons.1 hb with rfl | hb
 ·exact ⟨_,List.mem_cons_self ..,by simp [blkR]⟩
 ·obtain ⟨r,hr,hbr⟩:=wr_ch_foot2 (c:=c) (X:=X) (k:=k) (v:=v) b hb
  exact ⟨r,List.mem_cons_of_mem _ hr,hbr⟩
def rowsOf (es:List En):List (Nat × List Nat):=es.flatMap fun e => [(e.gl,e.ls),(e.gn,e.ns)]
structure EnsTo (ts:List (Tk × Nat)) (cc:Nat) (es:List En) (Z:Bits):Prop where
 go:∀ m Z' l,Rds (decTrees cc m es.length) Z' l→Rds (decTrees cc (es.length+m) 0) (Z++Z') (es.map (·.t)++l)
 ok:∀ j e,es[j]?=some e→CodeOk (usedOf ts (j / 5) (j % 5)) (alph cc (j % 5)) e.ls e.ns e.t
 len:Z.length≤60100 * es.length
theorem EnsTo.nil (ts:List (Tk × Nat)) (cc:Nat):EnsTo ts cc [] []:=⟨fun m Z' l h => by simpa using h,fun j e h => by simp at h,by simp⟩
theorem EnsTo.snoc {ts:List (Tk × Nat)} {cc:Nat} {es:List En} {Z Z1:Bits} {e:En} (h:EnsTo ts cc es Z) (hc:CodeOk (usedOf ts (es.length / 5) (es.length % 5)) (alph cc (es.length % 5)) e.ls e.ns e.t) (hr:Rds (decHT (alph cc (es.length % 5))) Z1 e.t) (hl:Z1.length≤60100) :
  EnsTo ts cc (es++[e]) (Z++Z1):=by
 refine ⟨fun m Z' l hd => ?_,fun j e' hj => ?_,?_⟩
 ·have:=h.go (m+1) (Z1++Z') (e.t :: l) (by
   rw [decTrees]
   refine hr.pb ?_
   rw [List.length_append,List.length_singleton] at hd
   exact Rds.last hd (Rds.ret _))
  rw [List.length_append,List.length_singleton,List.append_assoc,List.map_append,List.append_assoc,show es.length+1+m=es.length+(m+1) by omega]
  exact this
 ·by_cases hlt:j<es.length
  ·rw [List.getElem?_append_left hlt] at hj
   exact h.ok j e' hj
  ·have hj2:=(List.getElem?_eq_some_iff.1 hj).1
   rw [List.length_append,List.length_singleton] at hj2
   obtain rfl:j=es.length:=by omega
   rw [List.getElem?_append_right (by omega),Nat.sub_self] at hj
   simp only [List.getElem?_cons_zero,Option.some.injEq] at hj
   subst hj
   exact hc
 ·have:=h.len
  simp only [List.length_append,List.length_singleton]
  omega
theorem EnsTo.reads {ts:List (Tk × Nat)} {cc:Nat} {es:List En} {Z:Bits} (h:EnsTo ts cc es Z):Rds (decTrees cc es.length 0) Z (es.map (·.t)):=by
 have:=h.go 0 [] [] (Rds.ret _)
 simpa using this
def enBits (es:List En) (g q s:Nat):Bits:=match es[5 * g+q]? with
 | some e => bitsM (e.ns.getD s 0) (e.ls.getD s 0)
 | none => []
theorem enBits_some {es:List En} {g q s:Nat} {e:En} (h:es[5 * g+q]?=some e):enBits es g q s=bitsM (e.ns.getD s 0) (e.ls.getD s 0):=by unfold enBits;rw [h]
theorem enBits_len {ts:List (Tk × Nat)} {cc:Nat} {es:List En} {Z:Bits} (h:EnsTo ts cc es Z) (g q s:Nat):(enBits es g q s).length≤15:=by
 unfold enBits
 split
 ·rename_i e he
  rw [bitsM_length]
  exact (h.ok _ e he).most s
 ·simp
theorem tkBits_len {c:Nat→Nat→Bits} (hc:∀ q s,(c q s).length≤15) {t:Tk} (hf:t.fits):(t.bits c).length≤66:=by
 cases t with
 | lit p =>
  have:=hc 0 (pG p)
  have:=hc 1 (pR p)
  have:=hc 2 (pB p)
  have:=hc 3 (pA p)
  simp only [Tk.bits,List.length_append]
  omega
 | hit p k =>
  have:=hc 0 (280+k)
  simp only [Tk.bits]
  omega
 | cp p far long =>
  obtain ⟨_,h1,h2,h3,h4⟩:=hf
  have:=hc 0 (256+symN long)
  have:=hc 4 (symN far)
  have:=(sym_spec h1 (by omega)).2.2.2.1
  have:=(sym_spec h3 h4).2.2.2.1
  simp only [Tk.bits,List.length_append,bnl]
  omega
theorem tksBits_len {c:Nat→Nat→Nat→Bits} (hc:∀ g q s,(c g q s).length≤15):∀ (ts:List (Tk × Nat)),(∀ t ∈ ts,t.1.fits)→(tksBits c ts).length≤66 * ts.length
 | [],h => by simp [tksBits]
 | t :: ts,h => by
  have h1:=tkBits_len (hc t.2) (h t (by simp))
  have h2:=tksBits_len hc ts fun x hx => h x (List.mem_cons_of_mem _ hx)
  simp only [tksBits,List.flatMap_cons,List.length_append,List.length_cons] at h2 ⊢
  omega
theorem decPixB_reads {mt:Par (Nat × List Nat)} {w h cc hb:Nat} {hpx px:List Nat} {Zc Zm Ze:Bits} {ts:List (Tk × Nat)} {es:List En} (hc:Rds ccBits Zc cc) (hm:Rds mt Zm (hb,hpx)) (he:EnsTo ts cc es Ze) (hel:es.length=5 * (maxGroup hpx+1)) (hpl:px.length=w * h) (h32:∀ p ∈ px,p<2 ^ 32)
  (hts:TksTo w cc (groupAt hb (tilesN w hb) hpx w) px ts px.length) (hg:∀ t ∈ ts,t.2≤maxGroup hpx) :
  Rds (decPixB mt w h) (Zc++(Zm++(Ze++tksBits (enBits es) ts))) px:=by
 refine hc.pb ?_
 rw [← List.append_assoc Zm]
 refine Rds.pb (v:=((hb,hpx),es.map (·.t))) ?_ ?_
 ·refine hm.pb ?_
  rw [← hel]
  exact Rds.last he.reads (Rds.ret _)
 ·have hall:=hts.go [] rfl
  rw [List.append_nil] at hall
  have key:=pixLoop_reads (n:=w * h) (G:=fun g j => (es.map (·.t)).getD (5 * g+j) (.leaf 0)) (c:=enBits es) hpl h32 ts (w * h) 0 hall (by omega) (fun t ht q hq => by
   obtain ⟨i,hi,_,hok⟩:=(hts.fits t ht).2
   have hcon:t.1.syms.contains (q.1,q.2)=true:=by simpa using hq
   have hs:=hok.sym hcon
   have hgt:=hg t ht
   have hlt:5 * t.2+q.1<es.length:=by omega
   have hge:=List.getElem?_eq_getElem hlt
   have hco:=he.ok _ _ hge
   rw [show (5 * t.2+q.1) / 5=t.2 by omega,show (5 * t.2+q.1) % 5=q.1 by omega] at hco
   have e1:(es.map (·.t)).getD (5 * t.2+q.1) (.leaf 0)=es[5 * t.2+q.1].t:=by simp [hlt]
   rw [e1,enBits_some hge]
   refine hco.reads q.2 hs.2 ?_
   unfold usedOf
   exact List.any_eq_true.2 ⟨t,ht,by simp [hq]⟩)
  rw [List.take_zero] at key
  exact key
end Go.Proofs.YtinkhckpckfajaaDoor
set_option maxHeartbeats 1000000
namespace Go.Proofs.YtinkhckpckfajaaDoor
open Go
theorem VL.putSym {w0 w:World} {S:List Nat} {wb c cb k:Nat} {a:Option Addr} {v:Value} {X:Bits} {nn:Nat} {ops:Array Oper} {Q:Post} {rest:List Oper} {ρ:Env} {ty:TypeId} {pos:String} {after:Array Edge} {x cl:Operand} {d:Nat} {tys:Array TypeId}
  {b6 b21 b22 b33 b34 vl vn cL cN ct cc many:Nat} {at_:Option Addr} {ts:List (Tk × Nat)} {es:List En} {qs:List (Nat × List Nat)} {Ze:Bits} {tk:Tk} {g:Nat}
  (H:St w0 S [blkR b34 (ints tk.five) 111,blkR b33 (tk.cells g) 110,wrR wb a c X,blkR cb (chL v k) 53,blkR b6 [.pointer (some ⟨wb,0,none⟩)] 54,vecR at_ ct 110 5 ts.length (tksCells ts),blkR b21 [.slice (some ⟨vl,0,none⟩) many cL] 106,blkR b22 [.slice (some ⟨vn,0,none⟩) many cN] 106,vecR (some ⟨vl,0,none⟩) cL 113 5 many (es.map lenV),vecR (some ⟨vn,0,none⟩) cN 113 5 many (es.map numV),rowsR qs] w)
  (hes:es.length=5 * many) (hqs:∀ e ∈ es,(e.gl,e.ls) ∈ qs∧(e.gn,e.ns) ∈ qs) (hEn:EnsTo ts cc es Ze) (hg:g<many) (q s:Nat) (hs:tk.five[q]?=some (s:Int)) (hsc:tk.syms.contains (q,s)=true) {wd i:Nat} {px:List Nat} (hok:tk.Ok wd cc px i) (hX:X.length≤1099511000000)
  (hd:Nat.blt d nn=true) (hcl:ev ρ cl=.func (.func 48) ([]:List Value).toArray [.pointer (some ⟨b6,0,none⟩),.pointer (some ⟨b22,0,none⟩),.pointer (some ⟨b33,0,none⟩),.pointer (some ⟨b34,0,none⟩),.pointer (some ⟨b21,0,none⟩)].toArray) (hx:ev ρ x=.int .i64 (q:Nat))
  (h:∀ w' a' c',St w0 S [blkR b34 (ints tk.five) 111,blkR b33 (tk.cells g) 110,wrR wb a' c' (X++enBits es g q s),blkR cb (chL v k) 53,blkR b6 [.pointer (some ⟨wb,0,none⟩)] 54,vecR at_ ct 110 5 ts.length (tksCells ts),blkR b21 [.slice (some ⟨vl,0,none⟩) many cL] 106,blkR b22 [.slice (some ⟨vn,0,none⟩) many cN] 106,vecR (some ⟨vl,0,none⟩) cL 113 5 many (es.map lenV),vecR (some ⟨vn,0,none⟩) cN 113 5 many (es.map numV),rowsR qs] w'→VL Tryd.prog nn ops Q rest (upd ρ d (.tuple #[])) w') :
  VL Tryd.prog nn ops Q (⟨some d,.call ⟨.value cl,#[x],tys⟩,ty,pos,after,none⟩ :: rest) ρ w:=by
 have hsy:=hok.sym hsc
 have hlt:5 * g+q<es.length:=by omega
 obtain ⟨e,he⟩:∃ e,e=es[5 * g+q]:=⟨_,rfl⟩
 have hge:es[5 * g+q]?=some e:=by rw [he];exact List.getElem?_eq_getElem hlt
 have hem:=List.mem_of_getElem? hge
 have hco:=hEn.ok _ _ hge
 rw [show (5 * g+q) / 5=g by omega,show (5 * g+q) % 5=q by omega] at hco
 have hrows:(rowsR qs).pred w:=H.get (i:=10) rfl
 have b1:Blk w e.gl (nums .i64 e.ls) 3:=hrows _ (hqs e hem).1
 have b2:Blk w e.gn (nums .i64 e.ns) 3:=hrows _ (hqs e hem).2
 have v1:w.cell? ⟨vl,g * 5+q,none⟩=some (lenV e):=VecOk.cellS (H.get (i:=8) rfl) (by rw [show g * 5+q=5 * g+q by omega,List.getElem?_map,hge];rfl)
 have v2:w.cell? ⟨vn,g * 5+q,none⟩=some (numV e):=VecOk.cellS (H.get (i:=9) rfl) (by rw [show g * 5+q=5 * g+q by omega,List.getElem?_map,hge];rfl)
 unfold lenV at v1
 unfold numV at v2
 rw [hco.lens] at v1
 rw [hco.nums] at v2
 have hput:=put_any w wb c a X q g s (e.ls.getD s 0) (e.ns.getD s 0) b6 b22 b33 b34 b21 vn vl e.gn e.gl (alph cc q) many many cN cL tk.five (tk.cells g) (H.get (i:=2) rfl) (H.cell 4 rfl rfl) (H.blk (i:=1) rfl) (Tk.cells_group _ _) (H.blk (i:=0) rfl) hsy.1 hs (H.cell 7 rfl rfl) (H.cell 6 rfl rfl) hg hg v2 v1 hsy.2 (b2.cellv (nums_get (by rw [hco.nums];exact hsy.2))) (b1.cellv (nums_get (by rw [hco.lens];exact hsy.2))) (hco.most s) (hco.small s) hX
 refine VL.callV (fs:=[]) (vs:=[.int .i64 (q:Nat)]) (cs:=[.pointer (some ⟨b6,0,none⟩),.pointer (some ⟨b22,0,none⟩),.pointer (some ⟨b33,0,none⟩),.pointer (some ⟨b34,0,none⟩),.pointer (some ⟨b21,0,none⟩)]) hd ent_48 hcl hput (by simp [hx]) fun e2 w' ⟨a',c',he2,hP,hfa,hf⟩ => ⟨_,he2,h _ a' c' ?_⟩
 have H2:=H.wr 2 rfl hP hfa hf
 simp only [List.set] at H2
 rw [enBits_some hge]
 exact H2
theorem tksBits_take {c:Nat→Nat→Nat→Bits} {ts:List (Tk × Nat)} {j:Nat} {t:Tk × Nat} (h:ts[j]?=some t):tksBits c (ts.take (j+1))=tksBits c (ts.take j)++t.1.bits (c t.2):=by
 obtain ⟨h1,h2⟩:=List.getElem?_eq_some_iff.1 h
 rw [List.take_succ_eq_append_getElem h1,h2]
 simp [tksBits]
end Go.Proofs.YtinkhckpckfajaaDoor
set_option maxHeartbeats 4000000
namespace Go.Proofs.YtinkhckpckfajaaDoor
open Go
theorem Y.mkf {P:Program} {e:Operand→Value} {d:Option Tmp} {ty:TypeId} {pos:String} {after:Array Edge} {g:Option (Nat × Bool)} {w:World} {fn:Fn} {first captured:Array Operand} {fs cs:List Value} (h1:first.toList.map e=fs) (h2:captured.toList.map e=cs) :
  Yld P e ⟨d,.makeFunc fn first captured,ty,pos,after,g⟩ w (.func fn fs.toArray cs.toArray) w:=by
 have e1:first.map e=fs.toArray:=by apply Array.ext';rw [Array.toList_map,h1]
 have e2:captured.map e=cs.toArray:=by apply Array.ext';rw [Array.toList_map,h2]
 unfold Yld
 simp only [execOp,Instr.makeFunc,Sem.run_bind,Sem.run_pure,Result.andThen_ok,e1,e2]
theorem Y.mkf4 {P:Program} {e:Operand→Value} {d:Option Tmp} {ty:TypeId} {pos:String} {after:Array Edge} {g:Option (Nat × Bool)} {w:World} {fn:Fn} {a b c x:Operand} {va vb vc vx:Value} (h1:e a=va) (h2:e b=vb) (h3:e c=vc) (h4:e x=vx) :
  Yld P e ⟨d,.makeFunc fn #[] #[a,b,c,x],ty,pos,after,g⟩ w (.func fn ([]:List Value).toArray [va,vb,vc,vx].toArray) w:=Y.mkf rfl (by simp [h1,h2,h3,h4])
theorem Y.mkf5 {P:Program} {e:Operand→Value} {d:Option Tmp} {ty:TypeId} {pos:String} {after:Array Edge} {g:Option (Nat × Bool)} {w:World} {fn:Fn} {a b c x y:Operand} {va vb vc vx vy:Value} (h1:e a=va) (h2:e b=vb) (h3:e c=vc) (h4:e x=vx) (h5:e y=vy) :
  Yld P e ⟨d,.makeFunc fn #[] #[a,b,c,x,y],ty,pos,after,g⟩ w (.func fn ([]:List Value).toArray [va,vb,vc,vx,vy].toArray) w:=Y.mkf rfl (by simp [h1,h2,h3,h4,h5])
def kLim (main:Bool):Nat:=if main then 4611686018420000000 else 4611686018421000000
def xLim (main:Bool):Nat:=if main then 1099500000000 else 1099505000000
def zMax (main:Bool):Nat:=if main then 3000000 else 700000
def kMax (main:Bool):Nat:=if main then 600000 else 100000
def PixelsOK (main:Bool):Prop:=∀ (W:World) (wb c0:Nat) (a0:Option Addr) (X:Bits) (cb B k:Nat) (v:Value) (pb po pc:Nat) (px:List Nat) (wd ht:Nat),St W (wb :: cb :: footA a0) [wrR wb a0 c0 X,blkR cb (chL v k) 53] W→Row W .u32 pb po px→pb ∉ wb :: cb :: footA a0 →
 px.length=wd * ht→px.length≤4096→px.length≤pc→1≤wd→1≤ht→(∀ p ∈ px,p<2 ^ 32)→WayAt B v W→(∀ b ∈ wb :: cb :: footA a0,B≠b)→k≤kLim main→X.length≤xLim main →
 Calls Tryd.prog 26 #[.pointer (some ⟨wb,0,none⟩),.slice (some ⟨pb,po,none⟩) px.length pc,.int .i64 (wd:Nat),.int .i64 (ht:Nat),.bool main,.pointer (some ⟨cb,0,none⟩)] W fun e w' => ∃ a c Z k',e=.returned (.tuple #[]) ∧
  St W (wb :: cb :: footA a0) [wrR wb a c (X++Z),blkR cb (chL v k') 53] w'∧Rds (decPix main wd ht) Z px∧Z.length≤zMax main∧k≤k'∧k'≤k+kMax main
section
variable {w0 w:World} {S:List Nat} {others:List Res} {wb c cb B k:Nat} {a:Option Addr} {v:Value} {X:Bits}
variable {nn:Nat} {ops:Array Oper} {lo:List Oper} {Q:Post} {rest:List Oper} {ρ:Env} {ty:TypeId} {pos:String} {after:Array Edge} {x y z x1 x2 x3:Operand} {d:Nat} {ts:Array TypeId}
theorem VL.pixels {main:Bool} (OK:PixelsOK main) (H:St w0 S ([wrR wb a c X,blkR cb (chL v k) 53]++others) w) (hw:WayAt B v w0) (hS:∀ b ∈ S,B≠b) (hB0:B<w0.heap.size) {pb po pc wd ht:Nat} {px:List Nat} (hr:Row w .u32 pb po px) (hpb:∀ r ∈ [wrR wb a c X,blkR cb (chL v k) 53],pb ∉ r.foot)
  (hl:px.length=wd * ht) (hn:px.length≤4096) (hpc:px.length≤pc) (h1:1≤wd) (h2:1≤ht) (h32:∀ p ∈ px,p<2 ^ 32) (hk:k≤kLim main) (hX:X.length≤xLim main) (hd:Nat.blt d nn=true) (hx:ev ρ x=.pointer (some ⟨wb,0,none⟩)) (hy:ev ρ y=.slice (some ⟨pb,po,none⟩) px.length pc) (hz:ev ρ z=.int .i64 (wd:Nat)) (hx1:ev ρ x1=.int .i64 (ht:Nat)) (hx2:ev ρ x2=.bool main) (hx3:ev ρ x3=.pointer (some ⟨cb,0,none⟩))
  (h:∀ w' a' c' Z k',Rds (decPix main wd ht) Z px→Z.length≤zMax main→k≤k'→k'≤k+kMax main→St w0 S ([wrR wb a' c' (X++Z),blkR cb (chL v k') 53]++others) w'→VL Tryd.prog nn ops Q rest (upd ρ d (.tuple #[])) w') :
  VL Tryd.prog nn ops Q (⟨some d,.call ⟨.value (.func 26),#[x,y,z,x1,x2,x3],ts⟩,ty,pos,after,none⟩ :: rest) ρ w:=by
 have hab:=H.above hS hB0
 have hT:∀ b ∈ wb :: cb :: footA a,B≠b:=fun b hb => by
  obtain ⟨r,hr,hbr⟩:=wr_ch_foot2 (c:=c) (X:=X) (k:=k) (v:=v) b hb
  exact hab r (List.mem_append_left _ hr) b hbr
 refine VL.call hd ent_26 (OK w wb c a X cb B k v pb po pc px wd ht (H.part _ wr_ch_foot) hr (fun hm => ?_) hl hn hpc h1 h2 h32 (hw.keep H.frm hS) hT hk hX) (by simp [hx,hy,hz,hx1,hx2,hx3]) fun e w' ⟨a',c',Z,k',he,H',h1,h2,h3,h4⟩ => ⟨_,he,h _ a' c' Z k' h1 h2 h3 h4 (H.callee H' wr_ch_foot2)⟩
 obtain ⟨r,hr,hbr⟩:=wr_ch_foot2 (c:=c) (X:=X) (k:=k) (v:=v) pb hm
 exact hpb r hr hbr
end
theorem VH.next {w w0:World} {S:List Nat} {l:List Res} {cb B k:Nat} {v:Value} {nn:Nat} {lo:List Oper} {Q:Post} {fuel:Nat} {listed:Array Bool} {ρ:Env} {ty:TypeId} {pos:String} {after:Array Edge} {x y:Operand} {d:Nat} {ts:Array TypeId}
  (j:Nat) (hio:lo[j]?=some ⟨some d,.call ⟨.value (.func 22),#[x,y],ts⟩,ty,pos,after,none⟩) (hrd:Region.ready .any lo.toArray listed=[j]) (H:St w0 S l w) (i:Nat) (hi:l[i]?=some (blkR cb (chL v k) 53)) (hw:WayAt B v w0) (hS:∀ b ∈ S,B≠b) (hB:B≠cb) (m:Nat) (hk:k≤4611686018427387904) (hm0:0<m) (hm:m≤4294967296) (hd:Nat.blt d nn=true) (hx:ev ρ x=.pointer (some ⟨cb,0,none⟩)) (hy:ev ρ y=.int .i64 (m:Nat))
  (h:∀ w' r,r<m→St w0 S (l.set i (blkR cb (chL v (k+1)) 53)) w'→VH Tryd.prog nn lo.toArray Q (Frm S w0) fuel (listed.setIfInBounds j true) (upd ρ d (.int .i64 (r:Nat))) w') :
  VH Tryd.prog nn lo.toArray Q (Frm S w0) (fuel+1) listed ρ w :=
 VH.call j hio hrd hd ent_22 (next_any' w cb B v k m (H.blk hi) (hw.keep H.frm hS) hB hk hm0 hm) (by simp [hx,hy]) fun e w' ⟨⟨r,hr,he⟩,hb,hf⟩ => ⟨_,he,(H.turnB i hi hf hb).frm,h _ r hr (H.turnB i hi hf hb)⟩
theorem rowK_zeros (n:Nat):rowK .u32 (fun _ => 0) n=nums .u32 (List.replicate n 0):=by
 rw [← rowK_zero];simp [nums]
theorem decPix_false (w h:Nat):decPix false w h=decSub w h:=rfl
theorem groupAt_part {hb tpr w i:Nat} {gpx:List Nat} (hb0:hb≠0) (hR:∀ p ∈ gpx,pR p=0):groupAt hb tpr gpx w i=partN (gpx.getD (i / w / 2 ^ hb * tpr+i % w / 2 ^ hb) 0) 8:=by
 unfold groupAt
 rw [if_neg hb0,Nat.mul_comm tpr]
 have:pR (gpx.getD (i / w / 2 ^ hb * tpr+i % w / 2 ^ hb) 0)=0:=by
  rw [List.getD_eq_getElem?_getD]
  cases e:gpx[i / w / 2 ^ hb * tpr+i % w / 2 ^ hb]? with
  | none => rfl
  | some p => exact hR p (List.mem_of_getElem? e)
 unfold pR at this
 unfold partN
 omega
theorem maxGroup_is {gpx:List Nat} {m:Nat} (h1:∀ p ∈ gpx,p / 256 % 65536≤m) (h2:∃ p ∈ gpx,p / 256 % 65536=m):maxGroup gpx=m:=by
 obtain ⟨p,hp,hpm⟩:=h2
 obtain ⟨i,hi,rfl⟩:=List.mem_iff_getElem.1 hp
 have h3:=maxGroup_ge hi
 rw [show gpx.getD i 0=gpx[i] by simp [hi],hpm] at h3
 refine Nat.le_antisymm ?_ h3
 have key:∀ (l:List Nat) (a:Nat),a≤m→(∀ p ∈ l,p / 256 % 65536≤m)→l.foldl (fun m p => max m (p / 256 % 65536)) a≤m:=by
  intro l
  induction l with
  | nil => intro a ha _;exact ha
  | cons x l ih =>
   intro a ha hl
   rw [List.foldl_cons]
   refine ih _ ?_ fun p hp => hl p (List.mem_cons_of_mem _ hp)
   have:=hl x (by simp)
   omega
 exact key gpx 0 (by omega) h1
theorem pixels_any (main:Bool) (OK:main=true→PixelsOK false):PixelsOK main:=by
 intro W wb c0 a0 X cb B k v pb po pc px wd ht H hr hpb hpl hn hpc hw1 hh1 h32 hw hB hk hX
 have hcbB:B≠cb:=hB cb (by simp)
 have hB0:B<W.heap.size:=hw.1
 have hwd:wd≤4096:=by
  have:=Nat.mul_le_mul_left wd hh1
  omega
 have hht:ht≤4096:=by
  have:=Nat.mul_le_mul_right ht hw1
  omega
 have hk1:k≤4611686018421000000:=by
  unfold kLim at hk
  split at hk <;> omega
 have hX1:X.length≤1099505000000:=by
  unfold xLim at hX
  split at hX <;> omega
 have hpcb:pb≠cb:=fun e => hpb (by simp [e])
 obtain ⟨S,hS⟩:∃ S,S=wb :: cb :: footA a0:=⟨_,rfl⟩
 rw [← hS] at hpb hB H ⊢
 refine enter (m:=242) Tryd.func26 O Tryd.ntmps26 O (Cy (VL.box H (cs:=[.pointer (some ⟨wb,0,none⟩)]) O O O ?_))
 intro w b6 hn6 hb6 H
 refine VL.box H (cs:=[.int .i64 (wd:Nat)]) O O O ?_
 intro w b8 hn8 hb8 H
 refine Lt ?_
 replace H:St W S [wrR wb a0 c0 X,blkR cb (chL v k) 53,blkR b6 [.pointer (some ⟨wb,0,none⟩)] 54,blkR b8 [.int .i64 (wd:Nat)] 3] w:=H.sub [2,3,1,0] rfl (by decide)
 refine Cy (Lo O (AI O) (Lt (Cs (Cy (Lo O (YP O) (VL.next H 1 O hw hB hcbB 2 (by omega) (by omega) (by omega) O O O ?_))))))
 intro w q0 hq0 H
 simp only [List.set] at H
 refine Lo O (Y.eql O O) (Lt ?_)
 refine VC.join (fun ρ w' => ∃ cc Zc a c k1,cc≤11∧Rds ccBits Zc cc∧Zc.length≤5∧k≤k1∧k1≤k+3∧ρ 1=.slice (some ⟨pb,po,none⟩) px.length pc∧ρ 3=.int .i64 (ht:Nat)∧ρ 4=.bool main∧ρ 5=.pointer (some ⟨cb,0,none⟩)∧ρ 6=.pointer (some ⟨b6,0,none⟩)∧ρ 8=.pointer (some ⟨b8,0,none⟩)∧ρ 12=.int .i64 (cc:Nat) ∧
  St W S [wrR wb a c (X++Zc),blkR cb (chL v k1) 53,blkR b6 [.pointer (some ⟨wb,0,none⟩)] 54,blkR b8 [.int .i64 (wd:Nat)] 3] w') ?_ ?_
 case refine_1 =>
  by_cases hq00:(q0:Int)=0
  case neg =>
   refine CF O hq00 (Cr (Lo O (Y.ld ld_54 O (H.cell 2 O O)) (VL.bits H 0 O 0 1 (by omega) (by omega) (by omega) O O O O ?_)))
   intro w a c H
   simp only [List.set] at H
   refine Lt ?_
   refine ⟨0,bitsN 0 1,a,c,k+1,by omega,?_,by rw [bnl];omega,by omega,by omega,rfl,rfl,rfl,rfl,rfl,rfl,rfl,H⟩
   exact Rds.last (rds_bits (n:=0) (k:=1) (by decide)) (by rw [if_pos rfl];exact Rds.ret _)
  refine CT O hq00 (Cy (Lo O (YP O) (VL.next H 1 O hw hB hcbB 7 (by omega) (by omega) (by omega) O O O ?_)))
  intro w q7 hq7 H
  simp only [List.set] at H
  refine Lo O (Y.add O O (n64 (a:=1) (by omega))) (Lo O (AI O) (Lt (Cs (Cy (Lo O (YP O) (VL.next H 1 O hw hB hcbB 20 (by omega) (by omega) (by omega) O O O ?_))))))
  intro w q20 hq20 H
  simp only [List.set] at H
  refine Lo O (Y.eql O O) (Lt ?_)
  refine VC.join (fun ρ w' => ∃ cc,1≤cc∧cc≤11∧ρ 1=.slice (some ⟨pb,po,none⟩) px.length pc∧ρ 3=.int .i64 (ht:Nat)∧ρ 4=.bool main∧ρ 5=.pointer (some ⟨cb,0,none⟩)∧ρ 6=.pointer (some ⟨b6,0,none⟩)∧ρ 8=.pointer (some ⟨b8,0,none⟩)∧ρ 12=.int .i64 (cc:Nat) ∧
   St W S [wrR wb a0 c0 X,blkR cb (chL v (k+1+1+1)) 53,blkR b6 [.pointer (some ⟨wb,0,none⟩)] 54,blkR b8 [.int .i64 (wd:Nat)] 3] w') ?_ ?_
  case refine_1 =>
   by_cases hq200:(q20:Int)=0
   case neg =>
    refine CF O hq200 (Ck (tn ?_))
    exact ⟨1+q7,by omega,by omega,rfl,rfl,rfl,rfl,rfl,rfl,rfl,H⟩
   refine CT O hq200 (Cr (Lo O (AI O) (Lt ?_)))
   exact ⟨11,by omega,by omega,rfl,rfl,rfl,rfl,rfl,rfl,rfl,H⟩
  case refine_2 =>
  clear H
  rintro ρ w5 ⟨cc,hcc1,hcc,r1,r3,r4,r5,r6,r8,r12,H⟩
  refine Cy (Lo O (Y.ld ld_54 r6 (H.cell 2 O O)) (VL.bits H 0 O 1 1 (by omega) (by omega) (by omega) O O O O ?_))
  intro w a c H
  simp only [List.set] at H
  refine Lt (Cr (Lo O (Y.ld ld_54 r6 (H.cell 2 O O)) (Lo O (YI r12) (VL.bits H 0 O cc 4 (by omega) (by omega) (by rw [List.length_append,bnl];omega) O O O O ?_))))
  intro w a2 c2 H
  simp only [List.set,List.append_assoc] at H
  refine Lt ?_
  refine ⟨cc,bitsN 1 1++bitsN cc 4,a2,c2,k+1+1+1,hcc,?_,by rw [List.length_append,bnl,bnl];omega,by omega,by omega,r1,r3,r4,r5,r6,r8,r12,H⟩
  refine (rds_bits (n:=1) (k:=1) (by decide)).pb ?_
  rw [if_neg (by decide)]
  exact Rds.last (rds_bits (show cc<2 ^ 4 by omega)) (by rw [if_neg (by omega)];exact Rds.ret _)
 case refine_2 =>
 clear H
 rintro ρ w5 ⟨cc,Zc,a1,c1,k1,hcc,hZc,hZcl,hk2,hk3,r1,r3,r4,r5,r6,r8,r12,H⟩
 have hX2:(X++Zc).length≤X.length+5:=by rw [List.length_append];omega
 obtain ⟨X1,hX1e⟩:∃ X1,X1=X++Zc:=⟨_,rfl⟩
 rw [← hX1e] at H hX2
 refine Cy (Lo O (Y.asg O) (Lt (Cy (Lo O (AI O) (Lt (Cs (Cs ?_)))))))
 refine VC.join (fun ρ w' => ∃ (T:Bool) (k2:Nat),ρ 60=.bool T∧(T=true→main=true)∧k1≤k2∧k2≤k1+1∧(main=false→k2=k1)∧ρ 1=.slice (some ⟨pb,po,none⟩) px.length pc∧ρ 3=.int .i64 (ht:Nat)∧ρ 4=.bool main∧ρ 5=.pointer (some ⟨cb,0,none⟩)∧ρ 6=.pointer (some ⟨b6,0,none⟩)∧ρ 8=.pointer (some ⟨b8,0,none⟩)∧ρ 12=.int .i64 (cc:Nat)∧ρ 13=.func (.func 42) #[] #[]∧ρ 14=.int .i64 (1:Nat) ∧
  St W S [wrR wb a1 c1 X1,blkR cb (chL v k2) 53,blkR b6 [.pointer (some ⟨wb,0,none⟩)] 54,blkR b8 [.int .i64 (wd:Nat)] 3] w') ?_ ?_
 case refine_1 =>
  cases main
  case false =>
   refine Cr (Lo O (Y.movB r4) (Lo O (Y.movB O) (VL.skipG O O O O O (VL.skipG O O O O O (VL.skipG O O O O O (Lo O (Y.pick O O) (Lt ?_)))))))
   exact ⟨false,k1,rfl,id,by omega,by omega,fun _ => rfl,r1,r3,r4,r5,r6,r8,r12,rfl,rfl,H⟩
  refine Cr (Lo O (Y.movB r4) (Lo O (Y.movB O) (LG O O O O (YP r5) (VL.nextG H 1 O hw hB hcbB 3 (by omega) (by omega) (by omega) O O O O O O ?_))))
  intro w q3 hq3 H
  simp only [List.set] at H
  refine LG O O O O (Y.eql O O) (Lo O (Y.pick O O) (Lt ?_))
  exact ⟨_,k1+1,rfl,fun _ => rfl,by omega,by omega,fun h => by (cases h),r1,r3,r4,r5,r6,r8,r12,rfl,rfl,H⟩
 case refine_2 =>
 clear H r1 r3 r4 r5 r6 r8 r12
 rintro ρ w6 ⟨T,k2,r60,hTm,hk4,hk5,hk6,r1,r3,r4,r5,r6,r8,r12,r13,r14,H⟩
 refine VC.join (fun ρ w' => ∃ many hb hpx Zm a c k3 gf fs cs extra,1≤many∧many≤3∧maxGroup hpx+1=many∧Rds (mtOf main wd ht) Zm (hb,hpx)∧(main=false→Zm=[]∧k3=k2)∧Zm.length≤800000∧k2≤k3∧k3≤k2+200000∧Ent Tryd.prog gf ∧
  (∀ i,i<px.length→groupAt hb (tilesN wd hb) hpx wd i<many) ∧
  (∀ w' i,(∀ r ∈ blkR b8 [.int .i64 (wd:Nat)] 3 :: extra,r.pred w')→i<px.length→Calls Tryd.prog gf (fs++[Value.int .i64 (i:Nat)]++cs).toArray w' fun e w'' => e=.returned (.int .i64 (groupAt hb (tilesN wd hb) hpx wd i:Nat))∧Frm [] w' w'') ∧
  ρ 1=.slice (some ⟨pb,po,none⟩) px.length pc∧ρ 3=.int .i64 (ht:Nat)∧ρ 4=.bool main∧ρ 5=.pointer (some ⟨cb,0,none⟩)∧ρ 6=.pointer (some ⟨b6,0,none⟩)∧ρ 8=.pointer (some ⟨b8,0,none⟩)∧ρ 12=.int .i64 (cc:Nat)∧ρ 13=.func (.func gf) fs.toArray cs.toArray∧ρ 14=.int .i64 (many:Nat) ∧
  St W S ([wrR wb a c (X1++Zm),blkR cb (chL v k3) 53,blkR b6 [.pointer (some ⟨wb,0,none⟩)] 54,blkR b8 [.int .i64 (wd:Nat)] 3]++extra) w') ?_ ?_
 case refine_1 =>
  cases T
  case false =>
   refine CB r60 (fun h => nomatch h) (fun _ => (Cy (Lo O (Y.movB r4) (Lt ?_))))
   cases main
   case false =>
    refine CB O (fun h => nomatch h) (fun _ => (Ck (tn ?_)))
    refine ⟨1,0,[],[],a1,c1,k2,42,[],[],[],by omega,by omega,rfl,Rds.ret _,fun _ => ⟨rfl,rfl⟩,by simp,by omega,by omega,ent_42,fun i _ => by unfold groupAt;simp,fun w' i _ _ => group0_any w' i,r1,r3,r4,r5,r6,r8,r12,r13,r14,?_⟩
    rw [List.append_nil,List.append_nil]
    exact H
   refine CB O (fun _ => ?_) (fun h => nomatch h)
   refine Cr (Lo O (Y.ld ld_54 r6 (H.cell 2 O O)) (VL.bits H 0 O 0 1 (by omega) (by omega) (by omega) O O O O ?_))
   intro w a c H
   simp only [List.set] at H
   refine Lt ?_
   refine ⟨1,0,[],bitsN 0 1,a,c,k2,42,[],[],[],by omega,by omega,rfl,?_,fun h => by (cases h),by rw [bnl];omega,by omega,by omega,ent_42,fun i _ => by unfold groupAt;simp,fun w' i _ _ => group0_any w' i,r1,r3,r4,r5,r6,r8,r12,r13,r14,?_⟩
   ·exact Rds.last (rds_bits (n:=0) (k:=1) (by decide)) (by rw [if_pos rfl];exact Rds.ret _)
   ·rw [List.append_nil]
    exact H
  obtain rfl:=hTm rfl
  have OK':=OK rfl
  refine CB r60 (fun _ => ?_) (fun h => nomatch h)
  refine Cy (Lo O (YP r5) (VL.next H 1 O hw hB hcbB 8 (by omega) (by omega) (by omega) O O O ?_))
  intro w q8 hq8 H
  simp only [List.set] at H
  refine Lo O (Y.add O O (n64 (a:=2) (by omega))) (VL.alloc H zer_3 O ?_)
  intro w b15 hn15 hb15 H
  refine VL.putI (m:=((2+q8:Nat):Int)) H 0 st_3 O O O O ?_
  intro w H
  simp only [List.set] at H
  refine Lt ?_
  obtain ⟨hb,hhb⟩:∃ hb,hb=2+q8:=⟨_,rfl⟩
  rw [← hhb] at H
  have htw:=tilesN_le (b:=hb) hw1
  have hth:=tilesN_le (b:=hb) hh1
  obtain ⟨aw,haw⟩:∃ aw,aw=tilesN wd hb:=⟨_,rfl⟩
  obtain ⟨ah,hah⟩:∃ ah,ah=tilesN ht hb:=⟨_,rfl⟩
  rw [← haw] at htw
  rw [← hah] at hth
  have hnl:aw * ah≤4096:=by
   have:=Nat.mul_le_mul htw.2 hth.2
   omega
  have hnl1:1≤aw * ah:=Nat.mul_le_mul htw.1 hth.1
  refine Cy (Lo O (Y.ld ld_3 r8 (H.cell 4 O O)) (Lo O (Y.ld ld_3 O (H.cell 0 O O)) (VL.callP O ent_24 (blocks_any _ wd hb (by omega) (by omega)) O (VL.alloc H zer_3 O ?_))))
  intro w b16 hn16 hb16 H
  refine VL.putI (m:=((aw:Nat):Int)) H 0 st_3 O O (by rw [haw];rfl) O ?_
  intro w H
  simp only [List.set] at H
  refine Lt (Cs ?_)
  refine VC.join (fun ρ w' => ∃ g b17,ρ 1=.slice (some ⟨pb,po,none⟩) px.length pc∧ρ 3=.int .i64 (ht:Nat)∧ρ 4=.bool true∧ρ 5=.pointer (some ⟨cb,0,none⟩)∧ρ 6=.pointer (some ⟨b6,0,none⟩)∧ρ 8=.pointer (some ⟨b8,0,none⟩)∧ρ 12=.int .i64 (cc:Nat)∧ρ 14=.int .i64 (1:Nat)∧ρ 15=.pointer (some ⟨b15,0,none⟩)∧ρ 16=.pointer (some ⟨b16,0,none⟩)∧ρ 17=.pointer (some ⟨b17,0,none⟩) ∧
   St W S [blkR b17 [.slice (some ⟨g,0,none⟩) (aw * ah) (aw * ah)] 22,blkR g (nums .u32 (List.replicate (aw * ah) 0)) 36,blkR b16 [.int .i64 (aw:Nat)] 3,blkR b15 [.int .i64 (hb:Nat)] 3,wrR wb a1 c1 X1,blkR cb (chL v (k2+1)) 53,blkR b6 [.pointer (some ⟨wb,0,none⟩)] 54,blkR b8 [.int .i64 (wd:Nat)] 3] w') ?_ ?_
  case refine_1 =>
   obtain ⟨wS,hwS⟩:∃ wS,wS=w:=⟨_,rfl⟩
   have H0:=H
   rw [← hwS] at H0
   refine VC.held ((Frm [] wS)) mixedP (by with_reducible repeat (first | refine NoP.thn ?_ | refine NoP.blk ?_ | refine NoP.jmp ?_ | refine NoP.nojmp ?_ | exact NoP.done)) ?_
   intro w hsame
   replace H:=H.same hsame
   refine Ht 0 O (by kernel_rfl) (by kernel_rfl) (by kernel_rfl) O (hwS ▸ hsame.frm) (fun w hI => Y.ld ld_3 O (hI.cell (H0.cell 0 O O) (by simp))) (Ht 1 O (by kernel_rfl) (by kernel_rfl) (by kernel_rfl) O (hwS ▸ hsame.frm) (fun w hI => YI r3) (Ht 2 O (by kernel_rfl) (by kernel_rfl) (by kernel_rfl) O (hwS ▸ hsame.frm) (fun w hI => Y.ld ld_3 O (hI.cell (H0.cell 1 O O) (by simp))) ?_))
   refine VH.orders [0,1,2] [3,4,5,6] [(4,[3]),(5,[4])] 4 O (by kernel_rfl) (by decide) (by kernel_rfl)
    (fun D ρ w' => (∃ g b,(5 ∉ D→ρ 72=.slice (some ⟨g,0,none⟩) (aw * ah) (aw * ah))∧(6 ∉ D→ρ 17=.pointer (some ⟨b,0,none⟩)∧wS.heap.size≤b)∧Frm [] wS w' ∧
      St W S (unl D 6 (blkR b [.slice none 0 0] 22)++(unl D 5 (blkR g (nums .u32 (List.replicate (aw * ah) 0)) 36)++[blkR b16 [.int .i64 (aw:Nat)] 3,blkR b15 [.int .i64 (hb:Nat)] 3,wrR wb a1 c1 X1,blkR cb (chL v (k2+1)) 53,blkR b6 [.pointer (some ⟨wb,0,none⟩)] 54,blkR b8 [.int .i64 (wd:Nat)] 3])) w') ∧
     (3 ∉ D→ρ 70=.int .i64 (ah:Nat))∧(4 ∉ D→ρ 71=.int .i64 ((aw * ah:Nat):Int))∧ρ 67=.int .i64 (aw:Nat)∧ρ 68=.int .i64 (ht:Nat)∧ρ 69=.int .i64 (hb:Nat)∧ρ 1=.slice (some ⟨pb,po,none⟩) px.length pc∧ρ 3=.int .i64 (ht:Nat)∧ρ 4=.bool true∧ρ 5=.pointer (some ⟨cb,0,none⟩)∧ρ 6=.pointer (some ⟨b6,0,none⟩)∧ρ 8=.pointer (some ⟨b8,0,none⟩)∧ρ 12=.int .i64 (cc:Nat)∧ρ 14=.int .i64 (1:Nat)∧ρ 15=.pointer (some ⟨b15,0,none⟩)∧ρ 16=.pointer (some ⟨b16,0,none⟩))
    (fun D ρ w' h => by obtain ⟨⟨g,b,_,_,h,_⟩,_⟩:=h;exact h) ?_ ?_ ?_
   ·exact ⟨⟨0,0,fun h => absurd (by decide) h,fun h => absurd (by decide) h,hwS ▸ hsame.frm,H⟩,fun h => absurd (by decide) h,fun h => absurd (by decide) h,rfl,rfl,rfl,r1,r3,r4,r5,r6,r8,r12,r14,rfl,rfl⟩
   ·clear H r1 r3 r4 r5 r6 r8 r12 r13 r14
    rintro D j ρ w' hj hjD hpre hDn ⟨⟨g,b,h5,h6,hF,H⟩,h3,h4,r67,r68,r69,r1,r3,r4,r5,r6,r8,r12,r14,r15,r16⟩
    have ne:∀ {x y:Nat},x≠y→(x ∈ D.erase y ↔ x ∈ D):=fun hxy => List.mem_erase_of_ne hxy
    simp only [List.mem_cons,List.not_mem_nil,or_false] at hj
    rcases hj with rfl | rfl | rfl | rfl
    ·refine VO.call O O ent_24 (blocks_any w' ht hb (by omega) (by omega)) (by simp [ev,r68,r69]) ?_
     rintro e w2 ⟨he2,rfl⟩
     exact ⟨_,he2,⟨g,b,by rw [ne (by decide)];exact h5,by rw [ne (by decide)];exact h6,hF,by rw [unl_ne (by decide),unl_ne (by decide)];exact H⟩,fun _ => by rw [hah];rfl,by rw [ne (by decide)];exact h4,r67,r68,r69,r1,r3,r4,r5,r6,r8,r12,r14,r15,r16⟩
    ·have r70:=h3 (hpre (4,[3]) (by simp) rfl 3 (by simp))
     refine VO.op O O (Y.mul r67 r70 (m64 (by omega))) ?_
     exact ⟨⟨g,b,by rw [ne (by decide)];exact h5,by rw [ne (by decide)];exact h6,hF,by rw [unl_ne (by decide),unl_ne (by decide)];exact H⟩,by rw [ne (by decide)];exact h3,fun _ => rfl,r67,r68,r69,r1,r3,r4,r5,r6,r8,r12,r14,r15,r16⟩
    ·have r71:=h4 (hpre (5,[4]) (by simp) rfl 4 (by simp))
     refine VO.make O H mk_22 (aw * ah) (aw * ah) r71 r71 O O (Nat.le_refl _) (by omega) (by omega) O ?_
     intro w2 g2 _ hF2 H
     rw [mkCells_one,rowK_zero,rowK_zeros] at H
     rw [unl_mem hjD,List.nil_append] at H
     exact ⟨⟨g2,b,fun _ => rfl,by rw [ne (by decide)];exact h6,hF.trans hF2,by rw [unl_ne (by decide),unl_eq hDn];exact H.perm List.perm_middle.symm⟩,by rw [ne (by decide)];exact h3,by rw [ne (by decide)];exact h4,r67,r68,r69,r1,r3,r4,r5,r6,r8,r12,r14,r15,r16⟩
    ·rw [unl_mem hjD,List.nil_append] at H
     refine VO.alloc O H zer_22 O ?_
     intro w2 b2 hn2 hF2 H
     exact ⟨⟨g,b2,by rw [ne (by decide)];exact h5,fun _ => ⟨rfl,Nat.le_trans hF.size hn2⟩,hF.trans hF2,by rw [unl_eq hDn,unl_ne (by decide)];exact H⟩,by rw [ne (by decide)];exact h3,by rw [ne (by decide)];exact h4,r67,r68,r69,r1,r3,r4,r5,r6,r8,r12,r14,r15,r16⟩
   clear H r1 r3 r4 r5 r6 r8 r12 r13 r14
   rintro ρ w6 ⟨⟨g,b17,h5,h6,hF,H⟩,h3,h4,r67,r68,r69,r1,r3,r4,r5,r6,r8,r12,r14,r15,r16⟩
   have r72:=h5 (by simp)
   obtain ⟨r17,hb17⟩:=h6 (by simp)
   rw [unl_nil,unl_nil] at H
   refine VH.putG 7 O (by kernel_rfl) H 0 st_22 r17 O r72 O O ?_
   intro w hF2 H
   simp only [List.cons_append,List.nil_append,List.set] at H
   refine ⟨hF.then hF2 (by simpa using hb17),?_⟩
   refine VH.nil (by kernel_rfl) (tn ?_)
   exact ⟨g,b17,r1,r3,r4,r5,r6,r8,r12,r14,r15,r16,r17,H⟩
  case refine_2 =>
  clear H r1 r3 r4 r5 r6 r8 r12 r13 r14 r60
  rintro ρ w7 ⟨g,b17,r1,r3,r4,r5,r6,r8,r12,r14,r15,r16,r17,H⟩
  refine Cy (Lo O (YP r5) (VL.next H 5 O hw hB hcbB 3 (by omega) (by omega) (by omega) O O O ?_))
  intro w qm hqm H
  simp only [List.set] at H
  refine Lo O (Y.add O O (n64 (a:=1) (by omega))) (Lo O (AI O) (Lt ?_))
  obtain ⟨many,hmany⟩:∃ many,many=1+qm:=⟨_,rfl⟩
  refine Cs (Cy (Lo O (Y.ld ld_22 r17 (H.cell 0 O O)) (Lo O (Y.len sl_22 O) (Lo O (YI O) (Lt ?_)))))
  refine VC.join (fun ρ w' => ∃ gpx k3,gpx.length=aw * ah∧(∀ p ∈ gpx,p<2 ^ 32∧pR p=0∧pG p<many)∧k2≤k3∧k3≤k2+2+3 * (aw * ah)∧ρ 1=.slice (some ⟨pb,po,none⟩) px.length pc∧ρ 3=.int .i64 (ht:Nat)∧ρ 4=.bool true∧ρ 5=.pointer (some ⟨cb,0,none⟩)∧ρ 6=.pointer (some ⟨b6,0,none⟩)∧ρ 8=.pointer (some ⟨b8,0,none⟩)∧ρ 12=.int .i64 (cc:Nat)∧ρ 14=.int .i64 (many:Nat)∧ρ 15=.pointer (some ⟨b15,0,none⟩)∧ρ 16=.pointer (some ⟨b16,0,none⟩)∧ρ 17=.pointer (some ⟨b17,0,none⟩) ∧
   St W S [blkR b17 [.slice (some ⟨g,0,none⟩) (aw * ah) (aw * ah)] 22,blkR g (nums .u32 gpx) 36,blkR b16 [.int .i64 (aw:Nat)] 3,blkR b15 [.int .i64 (hb:Nat)] 3,wrR wb a1 c1 X1,blkR cb (chL v k3) 53,blkR b6 [.pointer (some ⟨wb,0,none⟩)] 54,blkR b8 [.int .i64 (wd:Nat)] 3] w') ?_ ?_
  case refine_1 =>
   refine Cb ?_
   refine Cl (fun mm ρ w' => ∃ i gpx k3,mm=aw * ah - i∧i≤aw * ah∧gpx.length=aw * ah∧(∀ p ∈ gpx,p<2 ^ 32∧pR p=0∧pG p<many)∧k2≤k3∧k3≤k2+2+3 * i∧ρ 1=.slice (some ⟨pb,po,none⟩) px.length pc∧ρ 3=.int .i64 (ht:Nat)∧ρ 4=.bool true∧ρ 5=.pointer (some ⟨cb,0,none⟩)∧ρ 6=.pointer (some ⟨b6,0,none⟩)∧ρ 8=.pointer (some ⟨b8,0,none⟩)∧ρ 12=.int .i64 (cc:Nat)∧ρ 14=.int .i64 (many:Nat)∧ρ 15=.pointer (some ⟨b15,0,none⟩)∧ρ 16=.pointer (some ⟨b16,0,none⟩)∧ρ 17=.pointer (some ⟨b17,0,none⟩)∧ρ 77=.int .i64 ((aw * ah:Nat):Int)∧ρ 78=.int .i64 (i:Nat) ∧
    St W S [blkR b17 [.slice (some ⟨g,0,none⟩) (aw * ah) (aw * ah)] 22,blkR g (nums .u32 gpx) 36,blkR b16 [.int .i64 (aw:Nat)] 3,blkR b15 [.int .i64 (hb:Nat)] 3,wrR wb a1 c1 X1,blkR cb (chL v k3) 53,blkR b6 [.pointer (some ⟨wb,0,none⟩)] 54,blkR b8 [.int .i64 (wd:Nat)] 3] w') (aw * ah)
    ⟨0,List.replicate (aw * ah) 0,k2+1+1,rfl,by omega,List.length_replicate,fun p hp => by
     rw [List.eq_of_mem_replicate hp]
     exact ⟨by decide,rfl,by show 0<many;omega⟩,by omega,by omega,r1,r3,r4,r5,r6,r8,r12,by rw [hmany];rfl,r15,r16,r17,rfl,rfl,H⟩ ?_
   clear H r1 r3 r4 r5 r6 r8 r12 r14 r15 r16 r17
   rintro mm ρ w8 ⟨i,gpx,k3,hmm,hi,hgl,hgp,hk7,hk8,r1,r3,r4,r5,r6,r8,r12,r14,r15,r16,r17,r77,r78,H⟩
   refine Cy (Lo O (Y.lss r78 r77) (Lt ?_))
   by_cases hlt:i<aw * ah
   case neg =>
    obtain rfl:i=aw * ah:=by omega
    refine Cs (CF O (by omega) (Cx (thn_x (thn_x (blk_x (tn ?_))))))
    exact ⟨gpx,k3,hgl,hgp,hk7,hk8,r1,r3,r4,r5,r6,r8,r12,r14,r15,r16,r17,H⟩
   refine Cs (CT O (by omega) (Ck (tn (Cs (Cb (Cy (Lo O (YI r78) (Lo O (AI O) (Lt ?_)))))))))
   have H0:St W S ([blkR g (nums .u32 gpx) 36,blkR cb (chL v k3) 53]++[blkR b17 [.slice (some ⟨g,0,none⟩) (aw * ah) (aw * ah)] 22,blkR b16 [.int .i64 (aw:Nat)] 3,blkR b15 [.int .i64 (hb:Nat)] 3,wrR wb a1 c1 X1,blkR b6 [.pointer (some ⟨wb,0,none⟩)] 54,blkR b8 [.int .i64 (wd:Nat)] 3]) w8:=H.sub [1,5,0,2,3,4,6,7] rfl (by decide)
   have hw8:WayAt B v w8:=hw.keep H0.frm hB
   have hB2:∀ x ∈ [g,cb],B≠x:=fun x hx => by
    simp only [List.mem_cons,List.not_mem_nil,or_false] at hx
    rcases hx with rfl | rfl
    ·exact H0.above hB hB0 (blkR x (nums .u32 gpx) 36) (by simp) x (by simp [blkR])
    ·exact hcbB
   have h17n:b17 ∉ [g,cb]:=fun hm => by
    simp only [List.mem_cons,List.not_mem_nil,or_false] at hm
    rcases hm with e | e
    ·exact apart_disj H0.apart (i:=2) (j:=0) O O (by decide) b17 (by simp [blkR]) (by simp [blkR,e])
    ·exact apart_disj H0.apart (i:=2) (j:=1) O O (by decide) b17 (by simp [blkR]) (by simp [blkR,e])
   have h17c:w8.cell? ⟨b17,0,none⟩=some (.slice (some ⟨g,0,none⟩) (aw * ah) (aw * ah)):=H0.cell 2 rfl rfl
   replace H:St w8 [g,cb] [blkR g (nums .u32 gpx) 36,blkR cb (chL v k3) 53] w8:=H0.part [g,cb] (by simp [blkR])
   refine VC.held ((Frm [g,cb] w8)) mixedP (by with_reducible repeat (first | refine NoP.thn ?_ | refine NoP.blk ?_ | refine NoP.jmp ?_ | refine NoP.nojmp ?_ | exact NoP.done)) ?_
   intro w hsame
   replace H:=H.same hsame
   refine Ht 0 O (by kernel_rfl) (by kernel_rfl) (by kernel_rfl) O H.frm (fun w hI => Y.ld ld_22 r17 (hI.cell h17c h17n)) (Ht 1 O (by kernel_rfl) (by kernel_rfl) (by kernel_rfl) O H.frm (fun w hI => YI O) (Ht 2 O (by kernel_rfl) (by kernel_rfl) (by kernel_rfl) O H.frm (fun w hI => YP r5) (Ht 4 O (by kernel_rfl) (by kernel_rfl) (by kernel_rfl) O H.frm (fun w hI => YP r5) (Ht 5 O (by kernel_rfl) (by kernel_rfl) (by kernel_rfl) O H.frm (fun w hI => YI r14) (Ht 7 O (by kernel_rfl) (by kernel_rfl) (by kernel_rfl) O H.frm (fun w hI => YP r5) (VH.next 3 O (by kernel_rfl) H 1 O hw8 hB2 hcbB 256 (by omega) (by omega) (by omega) O O O ?_))))))
   intro w ra hra H
   simp only [List.set] at H
   refine VH.next 6 O (by kernel_rfl) H 1 O hw8 hB2 hcbB many (by omega) (by omega) (by omega) O O O ?_
   intro w rg hrg H
   simp only [List.set] at H
   refine VH.next 8 O (by kernel_rfl) H 1 O hw8 hB2 hcbB 256 (by omega) (by omega) (by omega) O O O ?_
   intro w rb hrb H
   simp only [List.set] at H
   refine VH.callP 9 O (by kernel_rfl) O ent_25 (color_any _ _ _ _ _ ra 0 rg rb (by omega) (by omega) (by omega) (by omega)) O H.frm (Ht 10 O (by kernel_rfl) (by kernel_rfl) (by kernel_rfl) O H.frm (fun w hI => Y.ixS0 i sl_22 O O O hlt) (VH.putI 11 O (by kernel_rfl) H 0 st_36 O O O (nums_get (by omega)) ?_))
   intro w H
   simp only [List.set,nums_set] at H
   refine VH.nil (by kernel_rfl) (blk_n (tn ?_))
   have hap:=argb_parts (a:=ra) (r:=0) (g:=rg) (b:=rb) (by omega) (by omega) (by omega) (by omega)
   replace H:=(H0.callee H (by simp [blkR])).sub (l':=[blkR b17 [.slice (some ⟨g,0,none⟩) (aw * ah) (aw * ah)] 22,blkR g (nums .u32 (gpx.set i (argb ra 0 rg rb))) 36,blkR b16 [.int .i64 (aw:Nat)] 3,blkR b15 [.int .i64 (hb:Nat)] 3,wrR wb a1 c1 X1,blkR cb (chL v (k3+1+1+1)) 53,blkR b6 [.pointer (some ⟨wb,0,none⟩)] 54,blkR b8 [.int .i64 (wd:Nat)] 3]) [2,0,3,4,5,1,6,7] rfl (by decide)
   refine Cr (Lo O (Y.add r78 O (n64 (b:=1) (by omega))) (Lo O (YI O) (Lt ?_)))
   refine ⟨aw * ah - (i+1),by omega,i+1,_,_,rfl,by omega,by rw [List.length_set];exact hgl,fun p hp => ?_,by omega,by omega,r1,r3,r4,r5,r6,r8,r12,r14,r15,r16,r17,r77,rfl,H⟩
   rcases List.mem_or_eq_of_mem_set hp with hp | rfl
   ·exact hgp p hp
   ·exact ⟨hap.2.2.2.2,hap.2.1,by rw [hap.2.2.1];exact hrg⟩
  case refine_2 =>
  clear H r1 r3 r4 r5 r6 r8 r12 r14 r15 r16 r17
  rintro ρ w8 ⟨gpx,k3,hgl,hgp,hk7,hk8,r1,r3,r4,r5,r6,r8,r12,r14,r15,r16,r17,H⟩
  have hlastlt:aw * ah - 1<gpx.length:=by omega
  refine Cs (VC.drawTail 8 mixedP (by kernel_rfl) ?_)
  intro w hsame
  replace H:=H.same hsame
  refine So O (Y.ld ld_22 r17 (H.cell 0 O O)) (So O (Y.ld ld_22 r17 (H.cell 0 O O)) (So O (Y.len sl_22 O) (So O (Y.sub (r:=((aw * ah - 1:Nat):Int)) O O (s64 (b:=1) ⟨by omega,by omega⟩)) (So O (YI r14) (So O (Y.sub (r:=((many - 1:Nat):Int)) O O (s64 (b:=1) ⟨by omega,by omega⟩)) (VS.color 255 0 (many - 1) 0 (by omega) (by omega) (by omega) (by omega) O O O O O (So O (Y.ixS0 (aw * ah - 1) sl_22 O O O (by omega)) (Sn (VL.putI H 1 st_36 O O O (nums_get hlastlt) ?_)))))))))
  intro w H
  simp only [List.set,nums_set] at H
  refine Lt ?_
  obtain ⟨hpx,hhpx⟩:∃ hpx,hpx=gpx.set (aw * ah - 1) (argb 255 0 (many - 1) 0):=⟨_,rfl⟩
  have hap:=argb_parts (a:=255) (r:=0) (g:=many - 1) (b:=0) (by omega) (by omega) (by omega) (by omega)
  have hhl:hpx.length=aw * ah:=by rw [hhpx,List.length_set];exact hgl
  have hhp:∀ p ∈ hpx,p<2 ^ 32∧pR p=0∧pG p<many:=fun p hp => by
   rw [hhpx] at hp
   rcases List.mem_or_eq_of_mem_set hp with hp | rfl
   ·exact hgp p hp
   ·exact ⟨hap.2.2.2.2,hap.2.1,by rw [hap.2.2.1];omega⟩
  have hmg:maxGroup hpx=many - 1:=by
   refine maxGroup_is (fun p hp => ?_) ⟨argb 255 0 (many - 1) 0,by rw [hhpx];exact List.mem_iff_getElem.2 ⟨aw * ah - 1,by rw [List.length_set];omega,by simp⟩,?_⟩
   ·obtain ⟨_,h2,h3⟩:=hhp p hp
    unfold pR at h2
    unfold pG at h3
    omega
   ·have h2:=hap.2.1
    have h3:=hap.2.2.1
    unfold pR at h2
    unfold pG at h3
    omega
  rw [← hhpx] at H
  refine Cy (Lo O (Y.ld ld_54 r6 (H.cell 6 O O)) (VL.bits H 4 O 1 1 (by omega) (by omega) (by omega) O O O O ?_))
  intro w a2 c2 H
  simp only [List.set] at H
  refine Lt (Cy (Lo O (Y.ld ld_54 r6 (H.cell 6 O O)) (Lo O (Y.ld ld_3 r15 (H.cell 3 O O)) (Lo O (Y.sub (r:=((hb - 2:Nat):Int)) O O (s64 (b:=2) ⟨by omega,by omega⟩)) (VL.bits H 4 O (hb - 2) 3 (by omega) (by omega) (by rw [List.length_append,bnl];omega) O O O O ?_)))))
  intro w a3 c3 H
  simp only [List.set] at H
  refine Lt ?_
  replace H:St W S ([wrR wb a3 c3 (X1++bitsN 1 1++bitsN (hb - 2) 3),blkR cb (chL v k3) 53]++[blkR b17 [.slice (some ⟨g,0,none⟩) (aw * ah) (aw * ah)] 22,blkR g (nums .u32 hpx) 36,blkR b16 [.int .i64 (aw:Nat)] 3,blkR b15 [.int .i64 (hb:Nat)] 3,blkR b6 [.pointer (some ⟨wb,0,none⟩)] 54,blkR b8 [.int .i64 (wd:Nat)] 3]) w:=H.sub [4,5,0,1,2,3,6,7] rfl (by decide)
  refine Cs (VC.drawTail 7 mixedP (by kernel_rfl) ?_)
  intro w hsame
  replace H:=H.same hsame
  refine So O (Y.ld ld_54 r6 (H.cell 6 O O)) (So O (Y.ld ld_22 r17 (H.cell 2 O O)) (So O (Y.ld ld_3 r16 (H.cell 4 O O)) (So O (YI r3) (So O (Y.ld ld_3 r15 (H.cell 5 O O)) (VS.call O ent_24 (blocks_any _ ht hb (by omega) (by omega)) O (So O (YP r5) (Sn ?_)))))))
  refine VL.pixels OK' H hw hB hB0 (pc:=aw * ah) (nums_row (H.blk (i:=3) O)) ?_ (by rw [hhl]) (by omega) (by omega) htw.1 hth.1 (fun p hp => (hhp p hp).1) (by unfold kLim;rw [if_neg (by simp)];unfold kLim at hk;rw [if_pos rfl] at hk;omega) (by unfold xLim;rw [if_neg (by simp)];unfold xLim at hX;rw [if_pos rfl] at hX;simp only [List.length_append,bnl];omega) O O (by rw [hhl];rfl) O (by rw [hah];rfl) O O ?_
  ·intro r hr
   simp only [List.mem_cons,List.not_mem_nil,or_false] at hr
   rcases hr with rfl | rfl
   ·exact apart_disj H.apart (i:=3) (j:=0) O O (by decide) g (by simp [blkR])
   ·exact apart_disj H.apart (i:=3) (j:=1) O O (by decide) g (by simp [blkR])
  intro w a4 c4 Zs k4 hZs hZsl hk9 hk10 H
  refine Lt (Cr (Lo O (Y.mkf4 r17 r8 r15 r16) (Lo O (Y.asg O) (Lt ?_))))
  unfold zMax at hZsl
  rw [if_neg (by simp)] at hZsl
  unfold kMax at hk10
  rw [if_neg (by simp)] at hk10
  have hidx:∀ i,i<px.length→i / wd / 2 ^ hb * aw+i % wd / 2 ^ hb<hpx.length:=fun i hi => by
   rw [hhl,Nat.mul_comm (i / wd / 2 ^ hb),haw,hah]
   exact tile_index (Nat.mod_lt _ hw1) (Nat.div_lt_of_lt_mul (by rw [← hpl];exact hi))
  have hgr:∀ i,groupAt hb (tilesN wd hb) hpx wd i=partN (hpx.getD (i / wd / 2 ^ hb * aw+i % wd / 2 ^ hb) 0) 8:=fun i => by
   rw [groupAt_part (by omega) (fun p hp => (hhp p hp).2.1),haw]
  refine ⟨many,hb,hpx,bitsN 1 1++(bitsN (hb - 2) 3++Zs),a4,c4,k4,43,[],[.pointer (some ⟨b17,0,none⟩),.pointer (some ⟨b8,0,none⟩),.pointer (some ⟨b15,0,none⟩),.pointer (some ⟨b16,0,none⟩)],
   [blkR b17 [.slice (some ⟨g,0,none⟩) (aw * ah) (aw * ah)] 22,blkR g (nums .u32 hpx) 36,blkR b16 [.int .i64 (aw:Nat)] 3,blkR b15 [.int .i64 (hb:Nat)] 3],by omega,by omega,by omega,?_,fun h => by (cases h),by simp only [List.length_append,bnl];omega,by omega,by omega,ent_43,fun i hi => ?_,fun w' i hr' hi => ?_,r1,r3,r4,r5,r6,r8,r12,rfl,r14,?_⟩
  ·refine (rds_bits (n:=1) (k:=1) (by decide)).pb ?_
   rw [if_neg (by decide)]
   refine (rds_bits (show hb - 2<2 ^ 3 by omega)).pb ?_
   rw [show hb - 2+2=hb by omega,← haw,← hah]
   exact Rds.last hZs (Rds.ret _)
  ·rw [hgr i]
   have hlt:=hidx i hi
   have e:hpx.getD (i / wd / 2 ^ hb * aw+i % wd / 2 ^ hb) 0=hpx[i / wd / 2 ^ hb * aw+i % wd / 2 ^ hb]:=by simp [hlt]
   rw [e]
   exact (hhp _ (List.getElem_mem hlt)).2.2
  ·rw [hgr i]
   have p8:Blk w' b8 [.int .i64 (wd:Nat)] 3:=hr' _ (List.mem_cons_self ..)
   have p17:Blk w' b17 [.slice (some ⟨g,0,none⟩) (aw * ah) (aw * ah)] 22:=hr' (blkR b17 _ _) (by simp)
   have pg:Blk w' g (nums .u32 hpx) 36:=hr' (blkR g _ _) (by simp)
   have p16:Blk w' b16 [.int .i64 (aw:Nat)] 3:=hr' (blkR b16 _ _) (by simp)
   have p15:Blk w' b15 [.int .i64 (hb:Nat)] 3:=hr' (blkR b15 _ _) (by simp)
   exact group1_any w' i wd hb aw g b17 b8 b15 b16 hpx (nums_row pg) (fun p hp => (hhp p hp).1) (by omega) hw1 (by omega) (by omega) (by omega) (by rw [hhl];exact p17.cellv O) (p8.cellv O) (p15.cellv O) (p16.cellv O) (hidx i hi)
  ·have H2:=H.sub [0,1,6,7,2,3,4,5] (l':=[wrR wb a4 c4 (X1++bitsN 1 1++bitsN (hb - 2) 3++Zs),blkR cb (chL v k4) 53,blkR b6 [.pointer (some ⟨wb,0,none⟩)] 54,blkR b8 [.int .i64 (wd:Nat)] 3,blkR b17 [.slice (some ⟨g,0,none⟩) (aw * ah) (aw * ah)] 22,blkR g (nums .u32 hpx) 36,blkR b16 [.int .i64 (aw:Nat)] 3,blkR b15 [.int .i64 (hb:Nat)] 3]) rfl (by decide)
   simp only [List.append_assoc] at H2
   exact H2
 case refine_2 =>
 clear H r1 r3 r4 r5 r6 r8 r12 r13 r14 r60
 rintro ρ w7 ⟨many,hb,hpx,Zm,a2,c2,k3,gf,fs,cs,extra,hm1,hm3,hmg,hZm,hZm0,hZml,hk7,hk8,hent,hglt,hcl,r1,r3,r4,r5,r6,r8,r12,r13,r14,H⟩
 have hX2:(X1++Zm).length≤X.length+800005:=by rw [List.length_append];omega
 obtain ⟨X2,hX2e⟩:∃ X2,X2=X1++Zm:=⟨_,rfl⟩
 rw [← hX2e] at H hX2
 replace H:St W S ([blkR cb (chL v k3) 53]++([wrR wb a2 c2 X2,blkR b6 [.pointer (some ⟨wb,0,none⟩)] 54,blkR b8 [.int .i64 (wd:Nat)] 3]++extra)) w7:=H.perm (List.Perm.swap _ _ _)
 have hch:∀ b ∈ [cb],∃ r ∈ [blkR cb (chL v k3) 53],b ∈ r.foot:=by simp [blkR]
 refine Cy (Lo O (YS r1) (Lo O (Y.ld ld_3 r8 (H.cell 3 O O)) (Lo O (YI r12) (Lo O (Y.mov r13) (Lo O (YP r5) (VL.call O ent_45 (tokens_any w7 pb po pc px (hr.keep H.frm hpb) h32 hn hpc wd cc hw1 (by omega) hcc cb B k3 v (H.blk (i:=0) O) (hw.keep H.frm hB) hcbB (by omega) hpcb (groupAt hb (tilesN wd hb) hpx wd) gf fs cs hent (fun w' i hf hi => hcl w' i (fun r hr' => H.keepBut hf hch r (List.mem_cons_of_mem _ (List.mem_cons_of_mem _ hr'))) hi)) O ?_))))))
 rintro e w ⟨ts,at_,ct,k4,he,hT,H',hk9,hk10⟩
 replace H:=H.callee H' hch
 refine ⟨_,he,?_⟩
 refine Lo O (AS O) (Lt ?_)
 replace H:St W S [wrR wb a2 c2 X2,blkR cb (chL v k4) 53,blkR b6 [.pointer (some ⟨wb,0,none⟩)] 54,vecR at_ ct 110 5 ts.length (tksCells ts)] w:=(H.left (used:=[vecR at_ ct 110 5 ts.length (tksCells ts),blkR cb (chL v k4) 53,wrR wb a2 c2 X2,blkR b6 [.pointer (some ⟨wb,0,none⟩)] 54,blkR b8 [.int .i64 (wd:Nat)] 3])).sub [2,1,3,0] rfl (by decide)
 have htl:=hT.len
 have hgts:∀ t ∈ ts,t.2<many:=fun t ht => by
  obtain ⟨_,i,hi,hti,_⟩:=hT.fits t ht
  rw [hti]
  exact hglt i hi
 refine Cy (Lo O (AI O) (Lt (Cs (Cy (Lo O (YI r12) (Lo O (Y.gtr O O) (Lt ?_)))))))
 refine VC.join (fun ρ w' => ρ 5=.pointer (some ⟨cb,0,none⟩)∧ρ 6=.pointer (some ⟨b6,0,none⟩)∧ρ 14=.int .i64 (many:Nat)∧ρ 19=.slice at_ ts.length ct∧ρ 20=.int .i64 ((alph cc 0 - 280:Nat):Int) ∧
  St W S [wrR wb a2 c2 X2,blkR cb (chL v k4) 53,blkR b6 [.pointer (some ⟨wb,0,none⟩)] 54,vecR at_ ct 110 5 ts.length (tksCells ts)] w') ?_ ?_
 case refine_1 =>
  by_cases hcc0:cc > 0
  case neg =>
   have e:alph cc 0 - 280=0:=by unfold alph;rw [if_pos rfl,if_pos (by omega)]
   rw [e]
   refine CF O (by omega) (Ck (tn ?_))
   exact ⟨r5,r6,r14,rfl,rfl,H⟩
  have e:alph cc 0 - 280=2 ^ cc:=by have:=Nat.two_pow_pos cc;unfold alph;rw [if_pos rfl,if_neg (by omega)];omega
  rw [e]
  have hp11:2 ^ cc≤2 ^ 11:=Nat.pow_le_pow_right (by omega) hcc
  refine CT O (by omega) (Cr (Lo O (YI r12) (Lo O (Y.shl (r:=((2 ^ cc:Nat):Int)) O O (by omega) (by show IntKind.i64.wrap (((1:Nat):Int) * _)=_;rw [l64 ⟨by omega,by omega⟩,Nat.one_mul])) (Lo O (AI O) (Lt ?_)))))
  exact ⟨r5,r6,r14,rfl,rfl,H⟩
 case refine_2 =>
 clear H r1 r3 r4 r5 r6 r8 r12 r13 r14 H' hcl
 rintro ρ w8 ⟨r5,r6,r14,r19,r20,H⟩
 have hal:=alph_le hcc 0
 have ha0:280≤alph cc 0:=by unfold alph;rw [if_pos rfl];exact Nat.le_add_right _ _
 refine Cy (VL.alloc H zer_106 O ?_)
 intro w b21 hn21 hb21 H
 refine VL.alloc H zer_106 O ?_
 intro w b22 hn22 hb22 H
 refine Lt ?_
 replace H:St W S [wrR wb a2 c2 X2,blkR cb (chL v k4) 53,blkR b6 [.pointer (some ⟨wb,0,none⟩)] 54,vecR at_ ct 110 5 ts.length (tksCells ts),blkR b21 [.slice none 0 0] 106,blkR b22 [.slice none 0 0] 106,vecR none 0 113 5 0 ([].map lenV),vecR none 0 113 5 0 ([].map numV),rowsR []] w:=((H.vec0 113 5).vec0 113 5).rows0.sub [5,6,7,8,4,3,1,2,0] rfl (by decide)
 refine Cs (Cy (Lo O (YI r14) (Lo O (YI O) (Lt ?_))))
 refine VC.join (fun ρ w' => ∃ es qs aL cL aN cN a c k5 Ze,es.length=5 * many∧(∀ e ∈ es,(e.gl,e.ls) ∈ qs∧(e.gn,e.ns) ∈ qs)∧EnsTo ts cc es Ze∧k4≤k5∧k5≤k4+40000 * many∧ρ 5=.pointer (some ⟨cb,0,none⟩)∧ρ 6=.pointer (some ⟨b6,0,none⟩)∧ρ 19=.slice at_ ts.length ct∧ρ 20=.int .i64 ((alph cc 0 - 280:Nat):Int)∧ρ 21=.pointer (some ⟨b21,0,none⟩)∧ρ 22=.pointer (some ⟨b22,0,none⟩) ∧
  St W S [wrR wb a c (X2++Ze),blkR cb (chL v k5) 53,blkR b6 [.pointer (some ⟨wb,0,none⟩)] 54,vecR at_ ct 110 5 ts.length (tksCells ts),blkR b21 [.slice aL many cL] 106,blkR b22 [.slice aN many cN] 106,vecR aL cL 113 5 many (es.map lenV),vecR aN cN 113 5 many (es.map numV),rowsR qs] w') ?_ ?_
 case refine_1 =>
  refine Cb ?_
  refine Cl (fun mm ρ w' => ∃ g es qs aL cL aN cN a c k5 Ze,mm=many - g∧g≤many∧es.length=5 * g∧(∀ e ∈ es,(e.gl,e.ls) ∈ qs∧(e.gn,e.ns) ∈ qs)∧EnsTo ts cc es Ze∧k4≤k5∧k5≤k4+40000 * g∧ρ 5=.pointer (some ⟨cb,0,none⟩)∧ρ 6=.pointer (some ⟨b6,0,none⟩)∧ρ 19=.slice at_ ts.length ct∧ρ 20=.int .i64 ((alph cc 0 - 280:Nat):Int)∧ρ 21=.pointer (some ⟨b21,0,none⟩)∧ρ 22=.pointer (some ⟨b22,0,none⟩)∧ρ 129=.int .i64 (many:Nat)∧ρ 130=.int .i64 (g:Nat) ∧
   St W S [wrR wb a c (X2++Ze),blkR cb (chL v k5) 53,blkR b6 [.pointer (some ⟨wb,0,none⟩)] 54,vecR at_ ct 110 5 ts.length (tksCells ts),blkR b21 [.slice aL g cL] 106,blkR b22 [.slice aN g cN] 106,vecR aL cL 113 5 g (es.map lenV),vecR aN cN 113 5 g (es.map numV),rowsR qs] w') many
   ⟨0,[],[],none,0,none,0,a2,c2,k4,[],rfl,by omega,rfl,by simp,EnsTo.nil ts cc,by omega,by omega,r5,r6,r19,r20,rfl,rfl,rfl,rfl,by rw [List.append_nil];exact H⟩ ?_
  clear H r5 r6 r14 r19 r20
  rintro mm ρ w9 ⟨g,es,qs,aL,cL,aN,cN,a,c,k5,Ze,hmm,hg,hes,hqs,hEn,hk11,hk12,r5,r6,r19,r20,r21,r22,r129,r130,H⟩
  refine Cy (Lo O (Y.lss r130 r129) (Lt ?_))
  by_cases hgm:g<many
  case neg =>
   obtain rfl:g=many:=by omega
   refine Cs (CF O (by omega) (Cx (thn_x (thn_x (blk_x (tn ?_))))))
   exact ⟨es,qs,aL,cL,aN,cN,a,c,k5,Ze,hes,hqs,hEn,hk11,hk12,r5,r6,r19,r20,r21,r22,H⟩
  refine Cs (CT O (by omega) (Ck (tn (Cs (Cb (Cy (Lo O (YI r130) (Lo O (AI O) (Lt (Cs ?_))))))))))
  refine VC.join (fun ρ w' => ∃ ub b24,ρ 5=.pointer (some ⟨cb,0,none⟩)∧ρ 6=.pointer (some ⟨b6,0,none⟩)∧ρ 19=.slice at_ ts.length ct∧ρ 20=.int .i64 ((alph cc 0 - 280:Nat):Int)∧ρ 21=.pointer (some ⟨b21,0,none⟩)∧ρ 22=.pointer (some ⟨b22,0,none⟩)∧ρ 23=.int .i64 (g:Nat)∧ρ 24=.pointer (some ⟨b24,0,none⟩)∧ρ 129=.int .i64 (many:Nat)∧ρ 130=.int .i64 (g:Nat) ∧
   St W S (usR ub (fun _ _ => false) cc 0 5++(blkR b24 (fiveC ub cc) 108 :: [wrR wb a c (X2++Ze),blkR cb (chL v k5) 53,blkR b6 [.pointer (some ⟨wb,0,none⟩)] 54,vecR at_ ct 110 5 ts.length (tksCells ts),blkR b21 [.slice aL g cL] 106,blkR b22 [.slice aN g cN] 106,vecR aL cL 113 5 g (es.map lenV),vecR aN cN 113 5 g (es.map numV),rowsR qs])) w') ?_ ?_
  case refine_1 =>
   refine VC.held ((Frm S W)) mixedP (by with_reducible repeat (first | refine NoP.thn ?_ | refine NoP.blk ?_ | refine NoP.jmp ?_ | refine NoP.nojmp ?_ | exact NoP.done)) ?_
   intro w hsame
   replace H:=H.same hsame
   refine Ht 0 O (by kernel_rfl) (by kernel_rfl) (by kernel_rfl) O H.frm (fun w hI => YI r20) (Ht 1 O (by kernel_rfl) (by kernel_rfl) (by kernel_rfl) O H.frm (fun w hI => Y.add (r:=((alph cc 0:Nat):Int)) O O (by rw [w64 (by omega)];omega)) ?_)
   refine VH.orders [0,1] [2,3,4,5,6,7,8] [(7,[2,3,4,5,6])] 7 O (by kernel_rfl) (by decide) (by kernel_rfl)
    (fun D ρ w' => (∀ p ∈ [2,3,4,5,6],p ∈ D→7 ∈ D)∧(∃ u0 u1 u2 u3 u4 b,(2 ∉ D→ρ 135=.slice (some ⟨u0,0,none⟩) (alph cc 0) (alph cc 0))∧(3 ∉ D→ρ 136=.slice (some ⟨u1,0,none⟩) (alph cc 1) (alph cc 1))∧(4 ∉ D→ρ 137=.slice (some ⟨u2,0,none⟩) (alph cc 2) (alph cc 2))∧(5 ∉ D→ρ 138=.slice (some ⟨u3,0,none⟩) (alph cc 3) (alph cc 3))∧(6 ∉ D→ρ 139=.slice (some ⟨u4,0,none⟩) (alph cc 4) (alph cc 4))∧(7 ∉ D→ρ 140=.agg (fiveC (fun q => if q=0 then u0 else if q=1 then u1 else if q=2 then u2 else if q=3 then u3 else u4) cc).toArray)∧(8 ∉ D→ρ 24=.pointer (some ⟨b,0,none⟩))∧St W S (unl D 8 (blkR b [.slice none 0 0,.slice none 0 0,.slice none 0 0,.slice none 0 0,.slice none 0 0] 108)++(unl D 2 (blkR u0 (rowB (fun _ => false) (alph cc 0)) 4)++(unl D 3 (blkR u1 (rowB (fun _ => false) (alph cc 1)) 4)++(unl D 4 (blkR u2 (rowB (fun _ => false) (alph cc 2)) 4)++(unl D 5 (blkR u3 (rowB (fun _ => false) (alph cc 3)) 4)++(unl D 6 (blkR u4 (rowB (fun _ => false) (alph cc 4)) 4)++([wrR wb a c (X2++Ze),blkR cb (chL v k5) 53,blkR b6 [.pointer (some ⟨wb,0,none⟩)] 54,vecR at_ ct 110 5 ts.length (tksCells ts),blkR b21 [.slice aL g cL] 106,blkR b22 [.slice aN g cN] 106,vecR aL cL 113 5 g (es.map lenV),vecR aN cN 113 5 g (es.map numV),rowsR qs]))))))) w')∧ρ 134=.int .i64 (alph cc 0:Nat)∧ρ 5=.pointer (some ⟨cb,0,none⟩)∧ρ 6=.pointer (some ⟨b6,0,none⟩)∧ρ 19=.slice at_ ts.length ct∧ρ 20=.int .i64 ((alph cc 0 - 280:Nat):Int)∧ρ 21=.pointer (some ⟨b21,0,none⟩)∧ρ 22=.pointer (some ⟨b22,0,none⟩)∧ρ 23=.int .i64 (g:Nat)∧ρ 129=.int .i64 (many:Nat)∧ρ 130=.int .i64 (g:Nat))
    (fun D ρ w' h => by obtain ⟨_,⟨u0,u1,u2,u3,u4,b,_,_,_,_,_,_,_,h⟩,_⟩:=h;exact h.frm) ?_ ?_ ?_
   ·exact ⟨by decide,⟨0,0,0,0,0,0,fun h => absurd (by decide) h,fun h => absurd (by decide) h,fun h => absurd (by decide) h,fun h => absurd (by decide) h,fun h => absurd (by decide) h,fun h => absurd (by decide) h,fun h => absurd (by decide) h,H⟩,rfl,r5,r6,r19,r20,r21,r22,rfl,r129,r130⟩
   ·clear H r5 r6 r19 r20 r21 r22 r129 r130
    rintro D j ρ w' hj hjD hpre hDn ⟨hall7,⟨u0,u1,u2,u3,u4,b,h2,h3,h4,h5,h6,h7,h8,H⟩,r134,r5,r6,r19,r20,r21,r22,r23,r129,r130⟩
    have ne:∀ {x y:Nat},x≠y→(x ∈ D.erase y ↔ x ∈ D):=fun hxy => List.mem_erase_of_ne hxy
    have hall7':∀ y,y≠7→∀ p ∈ [2,3,4,5,6],p ∈ D.erase y→7 ∈ D.erase y:=fun y hy p hp hpD => (List.mem_erase_of_ne (Ne.symm hy)).2 (hall7 p hp (List.mem_of_mem_erase hpD))
    simp only [List.mem_cons,List.not_mem_nil,or_false] at hj
    rcases hj with rfl | rfl | rfl | rfl | rfl | rfl | rfl
    ·refine VO.make O H mk_107 (alph cc 0) (alph cc 0) r134 r134 O O (Nat.le_refl _) (by have:=(alph_le hcc 0).2;omega) (by have:=(alph_le hcc 0).2;omega) O ?_
     intro w2 bn _ _ H
     rw [mkCells_one,rowB_false] at H
     rw [unl_mem hjD,List.nil_append] at H
     have h7':7 ∈ D:=hall7 2 (by simp) hjD
     exact ⟨hall7' _ (by decide),⟨bn,u1,u2,u3,u4,b,fun _ => rfl,by rw [ne (by decide)];exact h3,by rw [ne (by decide)];exact h4,by rw [ne (by decide)];exact h5,by rw [ne (by decide)];exact h6,fun h => absurd ((ne (by decide)).2 h7') h,by rw [ne (by decide)];exact h8,by rw [unl_ne (by decide),unl_eq hDn,unl_ne (by decide),unl_ne (by decide),unl_ne (by decide),unl_ne (by decide)];exact H.perm List.perm_middle.symm⟩,r134,r5,r6,r19,r20,r21,r22,r23,r129,r130⟩
    ·refine VO.make O H mk_107 (alph cc 1) (alph cc 1) O O O O (Nat.le_refl _) (by have:=(alph_le hcc 1).2;omega) (by have:=(alph_le hcc 1).2;omega) O ?_
     intro w2 bn _ _ H
     rw [mkCells_one,rowB_false] at H
     rw [unl_mem hjD,List.nil_append] at H
     have h7':7 ∈ D:=hall7 3 (by simp) hjD
     exact ⟨hall7' _ (by decide),⟨u0,bn,u2,u3,u4,b,by rw [ne (by decide)];exact h2,fun _ => rfl,by rw [ne (by decide)];exact h4,by rw [ne (by decide)];exact h5,by rw [ne (by decide)];exact h6,fun h => absurd ((ne (by decide)).2 h7') h,by rw [ne (by decide)];exact h8,by rw [unl_ne (by decide),unl_ne (by decide),unl_eq hDn,unl_ne (by decide),unl_ne (by decide),unl_ne (by decide)];exact H.perm (perm_in2 _ _ _ _)⟩,r134,r5,r6,r19,r20,r21,r22,r23,r129,r130⟩
    ·refine VO.make O H mk_107 (alph cc 2) (alph cc 2) O O O O (Nat.le_refl _) (by have:=(alph_le hcc 2).2;omega) (by have:=(alph_le hcc 2).2;omega) O ?_
     intro w2 bn _ _ H
     rw [mkCells_one,rowB_false] at H
     rw [unl_mem hjD,List.nil_append] at H
     have h7':7 ∈ D:=hall7 4 (by simp) hjD
     exact ⟨hall7' _ (by decide),⟨u0,u1,bn,u3,u4,b,by rw [ne (by decide)];exact h2,by rw [ne (by decide)];exact h3,fun _ => rfl,by rw [ne (by decide)];exact h5,by rw [ne (by decide)];exact h6,fun h => absurd ((ne (by decide)).2 h7') h,by rw [ne (by decide)];exact h8,by rw [unl_ne (by decide),unl_ne (by decide),unl_ne (by decide),unl_eq hDn,unl_ne (by decide),unl_ne (by decide)];exact H.perm (perm_in3 _ _ _ _ _)⟩,r134,r5,r6,r19,r20,r21,r22,r23,r129,r130⟩
    ·refine VO.make O H mk_107 (alph cc 3) (alph cc 3) O O O O (Nat.le_refl _) (by have:=(alph_le hcc 3).2;omega) (by have:=(alph_le hcc 3).2;omega) O ?_
     intro w2 bn _ _ H
     rw [mkCells_one,rowB_false] at H
     rw [unl_mem hjD,List.nil_append] at H
     have h7':7 ∈ D:=hall7 5 (by simp) hjD
     exact ⟨hall7' _ (by decide),⟨u0,u1,u2,bn,u4,b,by rw [ne (by decide)];exact h2,by rw [ne (by decide)];exact h3,by rw [ne (by decide)];exact h4,fun _ => rfl,by rw [ne (by decide)];exact h6,fun h => absurd ((ne (by decide)).2 h7') h,by rw [ne (by decide)];exact h8,by rw [unl_ne (by decide),unl_ne (by decide),unl_ne (by decide),unl_ne (by decide),unl_eq hDn,unl_ne (by decide)];exact H.perm (perm_in4 _ _ _ _ _ _)⟩,r134,r5,r6,r19,r20,r21,r22,r23,r129,r130⟩
    ·refine VO.make O H mk_107 (alph cc 4) (alph cc 4) O O O O (Nat.le_refl _) (by have:=(alph_le hcc 4).2;omega) (by have:=(alph_le hcc 4).2;omega) O ?_
     intro w2 bn _ _ H
     rw [mkCells_one,rowB_false] at H
     rw [unl_mem hjD,List.nil_append] at H
     have h7':7 ∈ D:=hall7 6 (by simp) hjD
     exact ⟨hall7' _ (by decide),⟨u0,u1,u2,u3,bn,b,by rw [ne (by decide)];exact h2,by rw [ne (by decide)];exact h3,by rw [ne (by decide)];exact h4,by rw [ne (by decide)];exact h5,fun _ => rfl,fun h => absurd ((ne (by decide)).2 h7') h,by rw [ne (by decide)];exact h8,by rw [unl_ne (by decide),unl_ne (by decide),unl_ne (by decide),unl_ne (by decide),unl_ne (by decide),unl_eq hDn];exact H.perm (perm_in5 _ _ _ _ _ _ _)⟩,r134,r5,r6,r19,r20,r21,r22,r23,r129,r130⟩
    ·have r135:=h2 (hpre (7,[2,3,4,5,6]) (by simp) rfl 2 (by simp))
     have r136:=h3 (hpre (7,[2,3,4,5,6]) (by simp) rfl 3 (by simp))
     have r137:=h4 (hpre (7,[2,3,4,5,6]) (by simp) rfl 4 (by simp))
     have r138:=h5 (hpre (7,[2,3,4,5,6]) (by simp) rfl 5 (by simp))
     have r139:=h6 (hpre (7,[2,3,4,5,6]) (by simp) rfl 6 (by simp))
     refine VO.op O O (Y.bld (ps:=[(0,.slice (some ⟨u0,0,none⟩) (alph cc 0) (alph cc 0)),(1,.slice (some ⟨u1,0,none⟩) (alph cc 1) (alph cc 1)),(2,.slice (some ⟨u2,0,none⟩) (alph cc 2) (alph cc 2)),(3,.slice (some ⟨u3,0,none⟩) (alph cc 3) (alph cc 3)),(4,.slice (some ⟨u4,0,none⟩) (alph cc 4) (alph cc 4))]) (fiveC (fun q => if q=0 then u0 else if q=1 then u1 else if q=2 then u2 else if q=3 then u3 else u4) cc) (by simp [ev,r135,r136,r137,r138,r139]) (by kernel_rfl)) ?_
     have hno:∀ p ∈ [2,3,4,5,6],p ∉ D.erase 7:=fun p hp hpD => hpre (7,[2,3,4,5,6]) (by simp) rfl p hp (List.mem_of_mem_erase hpD)
     exact ⟨fun p hp hpD => absurd hpD (hno p hp),⟨u0,u1,u2,u3,u4,b,by rw [ne (by decide)];exact h2,by rw [ne (by decide)];exact h3,by rw [ne (by decide)];exact h4,by rw [ne (by decide)];exact h5,by rw [ne (by decide)];exact h6,fun _ => rfl,by rw [ne (by decide)];exact h8,by rw [unl_ne (by decide),unl_ne (by decide),unl_ne (by decide),unl_ne (by decide),unl_ne (by decide),unl_ne (by decide)];exact H⟩,r134,r5,r6,r19,r20,r21,r22,r23,r129,r130⟩
    ·rw [unl_mem hjD,List.nil_append] at H
     refine VO.alloc O H zer_108 O ?_
     intro w2 b2 _ _ H
     exact ⟨hall7' _ (by decide),⟨u0,u1,u2,u3,u4,b2,by rw [ne (by decide)];exact h2,by rw [ne (by decide)];exact h3,by rw [ne (by decide)];exact h4,by rw [ne (by decide)];exact h5,by rw [ne (by decide)];exact h6,by rw [ne (by decide)];exact h7,fun _ => rfl,by rw [unl_eq hDn,unl_ne (by decide),unl_ne (by decide),unl_ne (by decide),unl_ne (by decide),unl_ne (by decide)];exact H⟩,r134,r5,r6,r19,r20,r21,r22,r23,r129,r130⟩
   clear H r5 r6 r19 r20 r21 r22 r129 r130
   rintro ρ w10 ⟨_,⟨u0,u1,u2,u3,u4,b24,_,_,_,_,_,h7,h8,H⟩,r134,r5,r6,r19,r20,r21,r22,r23,r129,r130⟩
   have r24:=h8 (by simp)
   have r140:=h7 (by simp)
   rw [unl_nil,unl_nil,unl_nil,unl_nil,unl_nil,unl_nil] at H
   refine VH.putW 9 O (by kernel_rfl) H 0 stn_108 r24 O r140 O O (by simp [fiveC,List.range_succ,Value.oneCell']) ?_
   intro w H
   simp only [List.cons_append,List.nil_append,List.set] at H
   refine VH.nil (by kernel_rfl) (tn ?_)
   refine ⟨fun q => if q=0 then u0 else if q=1 then u1 else if q=2 then u2 else if q=3 then u3 else u4,b24,r5,r6,r19,r20,r21,r22,r23,r24,r129,r130,?_⟩
   exact H.sub [1,2,3,4,5,0,6,7,8,9,10,11,12,13,14] O (by decide)
  case refine_2 =>
  clear H r5 r6 r19 r20 r21 r22 r129 r130
  rintro ρ w10 ⟨ub,b24,r5,r6,r19,r20,r21,r22,r23,r24,r129,r130,H⟩
  refine Cs (Cy (Lo O (YS r19) (Lo O (Y.len sl_104 O) (Lo O (YI O) (Lt ?_)))))
  obtain ⟨TT,hTT⟩:∃ TT,TT=[ub 0,ub 1,ub 2,ub 3,ub 4]:=⟨_,rfl⟩
  have hUS:∀ b ∈ TT,∃ r ∈ usR ub (fun _ _ => false) cc 0 5,b ∈ r.foot:=fun b hb => by
   rw [hTT] at hb
   simp only [List.mem_cons,List.not_mem_nil,or_false] at hb
   rcases hb with rfl | rfl | rfl | rfl | rfl <;> simp [usR,List.range',blkR]
  have H0:=H
  have hnot:=H0.notIn hUS
  have hn24:b24 ∉ TT:=hnot (blkR b24 (fiveC ub cc) 108) (List.mem_cons_self ..) b24 (by simp [blkR])
  replace H:St w10 TT (usR ub (usedOf (ts.take 0) g) cc 0 5) w10:=by
   rw [usR_cg (v:=fun _ _ => false) (fun q s => by simp [usedOf])]
   exact H0.part TT (by rw [hTT];simp [usR,List.range',blkR])
  refine VC.join (fun ρ w' => ρ 5=.pointer (some ⟨cb,0,none⟩)∧ρ 6=.pointer (some ⟨b6,0,none⟩)∧ρ 19=.slice at_ ts.length ct∧ρ 20=.int .i64 ((alph cc 0 - 280:Nat):Int)∧ρ 21=.pointer (some ⟨b21,0,none⟩)∧ρ 22=.pointer (some ⟨b22,0,none⟩)∧ρ 23=.int .i64 (g:Nat)∧ρ 24=.pointer (some ⟨b24,0,none⟩)∧ρ 129=.int .i64 (many:Nat)∧ρ 130=.int .i64 (g:Nat)∧St W S (usR ub (usedOf ts g) cc 0 5++(blkR b24 (fiveC ub cc) 108 :: [wrR wb a c (X2++Ze),blkR cb (chL v k5) 53,blkR b6 [.pointer (some ⟨wb,0,none⟩)] 54,vecR at_ ct 110 5 ts.length (tksCells ts),blkR b21 [.slice aL g cL] 106,blkR b22 [.slice aN g cN] 106,vecR aL cL 113 5 g (es.map lenV),vecR aN cN 113 5 g (es.map numV),rowsR qs])) w') ?_ ?_
  case refine_1 =>
   refine Cb ?_
   refine Cl (fun mm ρ w' => ∃ j,mm=ts.length - j∧j≤ts.length∧ρ 5=.pointer (some ⟨cb,0,none⟩)∧ρ 6=.pointer (some ⟨b6,0,none⟩)∧ρ 19=.slice at_ ts.length ct∧ρ 20=.int .i64 ((alph cc 0 - 280:Nat):Int)∧ρ 21=.pointer (some ⟨b21,0,none⟩)∧ρ 22=.pointer (some ⟨b22,0,none⟩)∧ρ 23=.int .i64 (g:Nat)∧ρ 24=.pointer (some ⟨b24,0,none⟩)∧ρ 129=.int .i64 (many:Nat)∧ρ 130=.int .i64 (g:Nat)∧ρ 141=.slice at_ ts.length ct∧ρ 142=.int .i64 (ts.length:Nat)∧ρ 143=.int .i64 (j:Nat)∧St w10 TT (usR ub (usedOf (ts.take j) g) cc 0 5) w') ts.length
    ⟨0,rfl,by omega,r5,r6,r19,r20,r21,r22,r23,r24,r129,r130,rfl,rfl,rfl,H⟩ ?_
   clear H r5 r6 r19 r20 r21 r22 r23 r24 r129 r130
   rintro mm ρ w11 ⟨j,hmm2,hj,r5,r6,r19,r20,r21,r22,r23,r24,r129,r130,r141,r142,r143,H⟩
   refine Cy (Lo O (Y.lss r143 r142) (Lt ?_))
   by_cases hjlt:j<ts.length
   case neg =>
    obtain rfl:j=ts.length:=by omega
    refine Cs (CF O (by omega) (Cx (thn_x (thn_x (blk_x (tn ?_))))))
    rw [List.take_length] at H
    exact ⟨r5,r6,r19,r20,r21,r22,r23,r24,r129,r130,H0.callee H hUS⟩
   obtain ⟨tb,htb,_⟩:=(H0.get (i:=9) rfl:VecOk _ _ _ _ _ _ _).cell (by omega)
   have hVT:VecOk w10 at_ ct 110 5 ts.length (tksCells ts):=H0.get (i:=9) rfl
   have hntb:tb ∉ TT:=hnot (vecR at_ ct 110 5 ts.length (tksCells ts)) (by simp) tb (by simp [vecR,htb,footA])
   rw [htb] at hVT r141
   obtain ⟨t,ht⟩:∃ t,t=ts[j]:=⟨_,rfl⟩
   have htg:ts[j]?=some t:=by rw [ht];exact List.getElem?_eq_getElem hjlt
   have htm:t ∈ ts:=List.mem_of_getElem? htg
   obtain ⟨hfit,i,hi,_,hok⟩:=hT.fits t htm
   have hcells:∀ i,i<5→w11.cell? ⟨tb,0+j * 5+i,none⟩=(t.1.cells t.2)[i]?:=fun i hi => by
    have h1:=tkVec_cell hVT htg i hi
    have h2:=List.getElem?_eq_getElem (show i<(t.1.cells t.2).length by rw [Tk.cells_length];exact hi)
    rw [h2] at h1 ⊢
    exact H.frm.cell h1 hntb
   refine Cs (CT O (by omega) (Ck (tn (Cs (Cb (Cy (Lo O (Y.ixS j sl_104 r141 r143 O hjlt) (Lo O (Y.ldn (cs:=t.1.cells t.2) ldn_110 O (Tk.cells_length _ _) hcells) (VL.alloc H zer_110 O ?_)))))))))
   intro w b26 hn26 hb26 H
   refine VL.putW (vs:=t.1.cells t.2) H 0 stn_110 O O O (Tk.cells_length _ _) (Tk.cells_length _ _) (Tk.cells_one _ _) ?_
   intro w H
   simp only [List.set] at H
   refine Lt (Cy (Lo O (Y.fa fa_110_4 O) (Lo O (Y.ld ld_3 O (H.cell 0 O (Tk.cells_group t.1 t.2))) (Lo O (YI r23) (Lo O (Y.eql O O) (Lt ?_))))))
   refine VC.joinB (fun ρ w' => ρ 5=.pointer (some ⟨cb,0,none⟩)∧ρ 6=.pointer (some ⟨b6,0,none⟩)∧ρ 19=.slice at_ ts.length ct∧ρ 20=.int .i64 ((alph cc 0 - 280:Nat):Int)∧ρ 21=.pointer (some ⟨b21,0,none⟩)∧ρ 22=.pointer (some ⟨b22,0,none⟩)∧ρ 23=.int .i64 (g:Nat)∧ρ 24=.pointer (some ⟨b24,0,none⟩)∧ρ 129=.int .i64 (many:Nat)∧ρ 130=.int .i64 (g:Nat)∧ρ 141=.slice at_ ts.length ct∧ρ 142=.int .i64 (ts.length:Nat)∧ρ 143=.int .i64 (j:Nat)∧St w10 TT (usR ub (usedOf (ts.take (j+1)) g) cc 0 5) w') ?_ ?_
   case refine_1 =>
    by_cases hgg:t.2=g
    case neg =>
     refine CF O (by omega) (Ck (blk_n (tn ?_)))
     refine ⟨r5,r6,r19,r20,r21,r22,r23,r24,r129,r130,by rw [htb];exact r141,r142,r143,?_⟩
     rw [usR_cg (v:=usedOf (ts.take j) g) (fun q s => by rw [usedOf_take htg];simp [hgg])]
     exact H.right (used:=[_])
    refine CT O (by omega) (Cy (Lo O (Y.ldn (cs:=t.1.cells t.2) ldn_110 O (Tk.cells_length _ _) (fun i hi => by rw [Nat.zero_add];exact (H.blk (i:=0) O).cell i)) (VL.call O ent_46 (symbols_any _ t.1 t.2 hfit) O ?_)))
    rintro e w ⟨he,hf⟩
    replace H:=H.quiet hf
    refine ⟨_,he,?_⟩
    refine Lo O (YI O) (Lt (Cb ?_))
    refine Cl (fun mm ρ w' => ∃ q,mm=5 - q∧q≤5∧ρ 5=.pointer (some ⟨cb,0,none⟩)∧ρ 6=.pointer (some ⟨b6,0,none⟩)∧ρ 19=.slice at_ ts.length ct∧ρ 20=.int .i64 ((alph cc 0 - 280:Nat):Int)∧ρ 21=.pointer (some ⟨b21,0,none⟩)∧ρ 22=.pointer (some ⟨b22,0,none⟩)∧ρ 23=.int .i64 (g:Nat)∧ρ 24=.pointer (some ⟨b24,0,none⟩)∧ρ 129=.int .i64 (many:Nat)∧ρ 130=.int .i64 (g:Nat)∧ρ 141=.slice at_ ts.length ct∧ρ 142=.int .i64 (ts.length:Nat)∧ρ 143=.int .i64 (j:Nat)∧ρ 152=.agg (ints t.1.five).toArray∧ρ 153=.int .i64 (q:Nat) ∧
     St w10 TT (blkR b26 (t.1.cells t.2) 110 :: usR ub (fun q' s => usedOf (ts.take j) g q' s || (decide (q'<q) && t.1.syms.contains (q',s))) cc 0 5) w') 5
     ⟨0,rfl,by omega,r5,r6,r19,r20,r21,r22,r23,r24,r129,r130,by rw [htb];exact r141,r142,r143,rfl,rfl,by
      rw [usR_cg (v:=usedOf (ts.take j) g) (fun q s => by simp)]
      exact H⟩ ?_
    clear H r5 r6 r19 r20 r21 r22 r23 r24 r129 r130 r141 r142 r143 hcells
    rintro mm ρ w12 ⟨q,hmm3,hq,r5,r6,r19,r20,r21,r22,r23,r24,r129,r130,r141,r142,r143,r152,r153,H⟩
    refine Cy (Lo O (Y.lss r153 O) (Lt ?_))
    by_cases hq5:q<5
    case neg =>
     obtain rfl:q=5:=by omega
     refine Cs (CF O (by omega) (Cx (thn_x (thn_x (blk_x (blk_n (tn ?_)))))))
     refine ⟨r5,r6,r19,r20,r21,r22,r23,r24,r129,r130,r141,r142,r143,?_⟩
     rw [usR_cg5 (v:=fun q' s => usedOf (ts.take j) g q' s || (decide (q'<5) && t.1.syms.contains (q',s))) (fun q' hq' s => by rw [usedOf_take htg];simp [hgg,hq'])]
     exact H.right (used:=[_])
    refine Cs (CT O (by omega) (Ck (tn (Cs (Cb ?_)))))
    rcases five_get t.1 hq5 with ⟨s,hs,hcon⟩ | ⟨hs,hcon⟩
    ·have hv:(ints t.1.five).toArray[q]?=some (.int .i64 (s:Int)):=by simp [ints,hs]
     have hsa:=(hok.sym (q:=q) (s:=s) (by rw [hcon];simp)).2
     refine Cy (Lo O (YI r153) (Lo O (Y.idx q idx_111 r152 r153 O hq5 hv) (Lo O (AI O) (Lo O (AI O) (Lt (Cy (Lo O (YI O) (Lo O (Y.geqD (b:=true) O O (decide_eq_true (by omega))) (Lt ?_)))))))))
     refine CB O (fun _ => ?_) (fun h => nomatch h)
     refine Cr (Lo O (YI O) (Lo O (Y.ixA0 q ar_108 r24 O O hq5) (Lo O (Y.ld ld_107 O (H.frm.cell (H0.cell 5 O (fiveC_get hq5)) hn24)) (Lo O (YI O) (Lo O (Y.ixS0 s sl_107 O O O hsa) (VL.putB H (q+1) st_4 O (usR_get0 hq5 _) O (rowB_get hsa) ?_))))))
     intro w H
     rw [rowB_set (v:=fun s' => usedOf (ts.take j) g q s' || (decide (q<q+1) && t.1.syms.contains (q,s'))) (fun s' _ => by rw [hcon];simp [Bool.or_comm]),usR_set0 (v:=fun q' s' => usedOf (ts.take j) g q' s' || (decide (q'<q+1) && t.1.syms.contains (q',s'))) hq5 _ (fun q' _ hne => funext fun s' => by
      have e1:decide (q'<q+1)=decide (q'<q):=by rw [decide_eq_decide];omega
      show (_ || (decide (q'<q+1) && _))=(_ || (decide (q'<q) && _))
      rw [e1])] at H
     refine Ln (blk_n (tn (Cr (Lo O (Y.add r153 O (n64 (b:=1) (by omega))) (Lo O (YI O) (Lt ?_))))))
     exact ⟨5 - (q+1),by omega,q+1,rfl,by omega,r5,r6,r19,r20,r21,r22,r23,r24,r129,r130,r141,r142,r143,r152,rfl,H⟩
    ·have hv:(ints t.1.five).toArray[q]?=some (.int .i64 (-1)):=by simp [ints,hs]
     refine Cy (Lo O (YI (by assumption)) (Lo O (Y.idx q idx_111 r152 r153 O hq5 hv) (Lo O (AI O) (Lo O (AI O) (Lt (Cy (Lo O (YI O) (Lo O (Y.geqD (b:=false) O O (decide_eq_false (by omega))) (Lt (CB O (fun h => nomatch h) (fun _ => (Ck (blk_n (tn (Cr (Lo O (Y.add (by assumption) O (n64 (b:=1) (by omega))) (Lo O (YI O) ?_)))))))))))))))))
     refine Lt ?_
     refine ⟨5 - (q+1),by omega,q+1,rfl,by omega,r5,r6,r19,r20,r21,r22,r23,r24,r129,r130,r141,r142,r143,r152,rfl,?_⟩
     rw [usR_cg5 (v:=fun q' s => usedOf (ts.take j) g q' s || (decide (q'<q) && t.1.syms.contains (q',s))) (fun q' _ s' => by
      by_cases e:q'=q
      ·subst e
       show (usedOf (ts.take j) g q' s' || (decide (q'<q'+1) && t.1.syms.contains (q',s')))=(usedOf (ts.take j) g q' s' || (decide (q'<q') && t.1.syms.contains (q',s')))
       rw [hcon,Bool.and_false,Bool.and_false]
      ·have e1:decide (q'<q+1)=decide (q'<q):=by rw [decide_eq_decide];omega
       rw [e1])]
     exact H
   case refine_2 =>
   clear H r5 r6 r19 r20 r21 r22 r23 r24 r129 r130 r141 r142 r143
   rintro ρ w12 ⟨r5,r6,r19,r20,r21,r22,r23,r24,r129,r130,r141,r142,r143,H⟩
   refine Cr (Lo O (Y.add r143 O (n64 (b:=1) (by omega))) (Lo O (YI O) (Lt ?_)))
   exact ⟨ts.length - (j+1),by omega,j+1,rfl,by omega,r5,r6,r19,r20,r21,r22,r23,r24,r129,r130,r141,r142,rfl,H⟩
  case refine_2 =>
  clear H H0 r5 r6 r19 r20 r21 r22 r23 r24 r129 r130 hnot hUS
  rintro ρ w11 ⟨r5,r6,r19,r20,r21,r22,r23,r24,r129,r130,H⟩
  refine Cy (VL.alloc H zer_113 O ?_)
  intro w b29 hn29 hb29 H
  refine VL.alloc H zer_113 O ?_
  intro w b30 hn30 hb30 H
  refine Lt ?_
  replace H:St W S ([blkR b29 (partC ([].map lenV)) 113,blkR b30 (partC ([].map numV)) 113,blkR b24 (fiveC ub cc) 108,wrR wb a c (X2++Ze),blkR cb (chL v k5) 53,blkR b6 [.pointer (some ⟨wb,0,none⟩)] 54,vecR at_ ct 110 5 ts.length (tksCells ts),blkR b21 [.slice aL g cL] 106,blkR b22 [.slice aN g cN] 106,vecR aL cL 113 5 g (es.map lenV),vecR aN cN 113 5 g (es.map numV),rowsR qs]++usR ub (usedOf ts g) cc 0 (5 - 0)) w :=
   H.perm ((List.Perm.swap _ _ _).trans (List.Perm.cons _ (List.Perm.cons _ List.perm_append_comm)))
  refine Cs (Cy (Lo O (YI O) (Lt ?_)))
  refine VC.join (fun ρ w' => ∃ cur qs a c k6 Ze,cur.length=5∧(∀ e ∈ es++cur,(e.gl,e.ls) ∈ qs∧(e.gn,e.ns) ∈ qs)∧EnsTo ts cc (es++cur) Ze∧k5≤k6∧k6≤k5+40000∧ρ 5=.pointer (some ⟨cb,0,none⟩)∧ρ 6=.pointer (some ⟨b6,0,none⟩)∧ρ 19=.slice at_ ts.length ct∧ρ 20=.int .i64 ((alph cc 0 - 280:Nat):Int)∧ρ 21=.pointer (some ⟨b21,0,none⟩)∧ρ 22=.pointer (some ⟨b22,0,none⟩)∧ρ 23=.int .i64 (g:Nat)∧ρ 24=.pointer (some ⟨b24,0,none⟩)∧ρ 129=.int .i64 (many:Nat)∧ρ 130=.int .i64 (g:Nat)∧ρ 29=.pointer (some ⟨b29,0,none⟩)∧ρ 30=.pointer (some ⟨b30,0,none⟩) ∧
   St W S [blkR b29 (partC (cur.map lenV)) 113,blkR b30 (partC (cur.map numV)) 113,blkR b24 (fiveC ub cc) 108,wrR wb a c (X2++Ze),blkR cb (chL v k6) 53,blkR b6 [.pointer (some ⟨wb,0,none⟩)] 54,vecR at_ ct 110 5 ts.length (tksCells ts),blkR b21 [.slice aL g cL] 106,blkR b22 [.slice aN g cN] 106,vecR aL cL 113 5 g (es.map lenV),vecR aN cN 113 5 g (es.map numV),rowsR qs] w') ?_ ?_
  case refine_1 =>
   refine Cb ?_
   refine Cl (fun mm ρ w' => ∃ q cur qs a c k6 Ze,mm=5 - q∧q≤5∧cur.length=q∧(∀ e ∈ es++cur,(e.gl,e.ls) ∈ qs∧(e.gn,e.ns) ∈ qs)∧EnsTo ts cc (es++cur) Ze∧k5≤k6∧k6≤k5+8000 * q∧ρ 5=.pointer (some ⟨cb,0,none⟩)∧ρ 6=.pointer (some ⟨b6,0,none⟩)∧ρ 19=.slice at_ ts.length ct∧ρ 20=.int .i64 ((alph cc 0 - 280:Nat):Int)∧ρ 21=.pointer (some ⟨b21,0,none⟩)∧ρ 22=.pointer (some ⟨b22,0,none⟩)∧ρ 23=.int .i64 (g:Nat)∧ρ 24=.pointer (some ⟨b24,0,none⟩)∧ρ 129=.int .i64 (many:Nat)∧ρ 130=.int .i64 (g:Nat)∧ρ 29=.pointer (some ⟨b29,0,none⟩)∧ρ 30=.pointer (some ⟨b30,0,none⟩)∧ρ 166=.int .i64 (q:Nat) ∧
    St W S ([blkR b29 (partC (cur.map lenV)) 113,blkR b30 (partC (cur.map numV)) 113,blkR b24 (fiveC ub cc) 108,wrR wb a c (X2++Ze),blkR cb (chL v k6) 53,blkR b6 [.pointer (some ⟨wb,0,none⟩)] 54,vecR at_ ct 110 5 ts.length (tksCells ts),blkR b21 [.slice aL g cL] 106,blkR b22 [.slice aN g cN] 106,vecR aL cL 113 5 g (es.map lenV),vecR aN cN 113 5 g (es.map numV),rowsR qs]++usR ub (usedOf ts g) cc q (5 - q)) w') 5
    ⟨0,[],qs,a,c,k5,Ze,rfl,by omega,rfl,by simpa using hqs,by rw [List.append_nil];exact hEn,by omega,by omega,r5,r6,r19,r20,r21,r22,r23,r24,r129,r130,rfl,rfl,rfl,H⟩ ?_
   clear H r5 r6 r19 r20 r21 r22 r23 r24 r129 r130 hqs hEn
   rintro mm ρ w12 ⟨q,cur,qs,a,c,k6,Ze,hmm2,hq,hcl,hqs,hEn,hk13,hk14,r5,r6,r19,r20,r21,r22,r23,r24,r129,r130,r29,r30,r166,H⟩
   refine Cy (Lo O (Y.lss r166 O) (Lt ?_))
   by_cases hq5:q<5
   case neg =>
    obtain rfl:q=5:=by omega
    refine Cs (CF O (by omega) (Cx (thn_x (thn_x (blk_x (tn ?_))))))
    exact ⟨cur,qs,a,c,k6,Ze,hcl,hqs,hEn,by omega,by omega,r5,r6,r19,r20,r21,r22,r23,r24,r129,r130,r29,r30,H.left⟩
   rw [show 5 - q=(5 - (q+1))+1 by omega,usR_cons] at H
   have hal2:=alph_le hcc q
   have hesl:(es++cur).length=5 * g+q:=by rw [List.length_append,hes,hcl]
   have hZel:=hEn.len
   rw [hesl] at hZel
   refine Cs (CT O (by omega) (Ck (tn (Cs (Cb (Cy (Lo O (YI r166) (Lo O (AI O) (Lt ?_)))))))))
   have hql:(cur.map lenV).length=q:=by rw [List.length_map,hcl]
   have hqn:(cur.map numV).length=q:=by rw [List.length_map,hcl]
   have e1:∀ v,(partC (cur.map lenV)).set q v=partC (cur.map lenV++[v]):=fun v => by
    have:=partC_set (vs:=cur.map lenV) (by omega) v
    rwa [hql] at this
   have e2:∀ v,(partC (cur.map numV)).set q v=partC (cur.map numV++[v]):=fun v => by
    have:=partC_set (vs:=cur.map numV) (by omega) v
    rwa [hqn] at this
   refine VC.held ((fun w' => w'.cell? ⟨b6,0,none⟩=some (.pointer (some ⟨wb,0,none⟩))∧w'.cell? ⟨b24,q,none⟩=some (.slice (some ⟨ub q,0,none⟩) (alph cc q) (alph cc q)))) mixedP (by with_reducible repeat (first | refine NoP.thn ?_ | refine NoP.blk ?_ | refine NoP.jmp ?_ | refine NoP.nojmp ?_ | exact NoP.done)) ?_
   intro w hsame
   replace H:=H.same hsame
   refine Ht 0 O (by kernel_rfl) (by kernel_rfl) (by kernel_rfl) O ⟨H.cell 5 O rfl,H.cell 2 O (fiveC_get hq5)⟩ (fun w hI => YI O) (Ht 1 O (by kernel_rfl) (by kernel_rfl) (by kernel_rfl) O ⟨H.cell 5 O rfl,H.cell 2 O (fiveC_get hq5)⟩ (fun w hI => YI O) (Ht 2 O (by kernel_rfl) (by kernel_rfl) (by kernel_rfl) O ⟨H.cell 5 O rfl,H.cell 2 O (fiveC_get hq5)⟩ (fun w hI => Y.ld ld_54 r6 hI.1) (Ht 3 O (by kernel_rfl) (by kernel_rfl) (by kernel_rfl) O ⟨H.cell 5 O rfl,H.cell 2 O (fiveC_get hq5)⟩ (fun w hI => YI O) (Ht 4 O (by kernel_rfl) (by kernel_rfl) (by kernel_rfl) O ⟨H.cell 5 O rfl,H.cell 2 O (fiveC_get hq5)⟩ (fun w hI => Y.ixA0 q ar_108 r24 O O hq5) (Ht 5 O (by kernel_rfl) (by kernel_rfl) (by kernel_rfl) O ⟨H.cell 5 O rfl,H.cell 2 O (fiveC_get hq5)⟩ (fun w hI => Y.ld ld_107 O hI.2) (Ht 6 O (by kernel_rfl) (by kernel_rfl) (by kernel_rfl) O ⟨H.cell 5 O rfl,H.cell 2 O (fiveC_get hq5)⟩ (fun w hI => YP r5) ?_))))))
   have H1:St W S ([blkR (ub q) (rowB (usedOf ts g q) (alph cc q)) 4,wrR wb a c (X2++Ze),blkR cb (chL v k6) 53]++([blkR b29 (partC (cur.map lenV)) 113,blkR b30 (partC (cur.map numV)) 113,blkR b24 (fiveC ub cc) 108,wrR wb a c (X2++Ze),blkR cb (chL v k6) 53,blkR b6 [.pointer (some ⟨wb,0,none⟩)] 54,vecR at_ ct 110 5 ts.length (tksCells ts),blkR b21 [.slice aL g cL] 106,blkR b22 [.slice aN g cN] 106,vecR aL cL 113 5 g (es.map lenV),vecR aN cN 113 5 g (es.map numV),rowsR qs].eraseIdx 3 |>.eraseIdx 3)++usR ub (usedOf ts g) cc (q+1) (5 - (q+1))) w :=
    (H.perm List.perm_middle).subL [0,4,5,1,2,3,6,7,8,9,10,11,12] (l:=_ :: [blkR b29 (partC (cur.map lenV)) 113,blkR b30 (partC (cur.map numV)) 113,blkR b24 (fiveC ub cc) 108,wrR wb a c (X2++Ze),blkR cb (chL v k6) 53,blkR b6 [.pointer (some ⟨wb,0,none⟩)] 54,vecR at_ ct 110 5 ts.length (tksCells ts),blkR b21 [.slice aL g cL] 106,blkR b22 [.slice aN g cN] 106,vecR aL cL 113 5 g (es.map lenV),vecR aN cN 113 5 g (es.map numV),rowsR qs]) rfl (by decide)
   rw [List.append_assoc] at H1
   refine VH.call 7 O (by kernel_rfl) O ent_47 (tree_any w wb c a (X2++Ze) cb B k6 v (ub q) (alph cc q) (alph cc q) (usedOf ts g q) (H1.part _ tree_foot) hal2.1 (by omega) (hw.keep H.frm hB) (fun b hb => by
    obtain ⟨r,hr,hbr⟩:=tree_foot2 (c:=c) (X:=X2++Ze) (k:=k6) (v:=v) (n:=alph cc q) (u:=usedOf ts g q) b hb
    exact H1.above hB hB0 r (List.mem_append_left _ hr) b hbr) (by omega) (by rw [List.length_append];omega)) O ?_
   rintro e w ⟨gl,gn,ls,ns,t,a',c',Z1,k7,he,H2,hcode,hZ1,hZ1l,hk15,hk16⟩
   have H3:=H1.callee H2 tree_foot2
   rw [← List.append_assoc] at H3
   replace H:St W S ([blkR b29 (partC (cur.map lenV)) 113,blkR b30 (partC (cur.map numV)) 113,blkR b24 (fiveC ub cc) 108,wrR wb a' c' (X2++Ze++Z1),blkR cb (chL v k7) 53,blkR b6 [.pointer (some ⟨wb,0,none⟩)] 54,vecR at_ ct 110 5 ts.length (tksCells ts),blkR b21 [.slice aL g cL] 106,blkR b22 [.slice aN g cN] 106,vecR aL cL 113 5 g (es.map lenV),vecR aN cN 113 5 g (es.map numV),rowsR qs,blkR gl (nums .i64 ls) 3,blkR gn (nums .i64 ns) 3]++usR ub (usedOf ts g) cc (q+1) (5 - (q+1))) w:=H3.subL [4,5,6,2,3,7,8,9,10,11,12,13,0,1] rfl (by decide)
   refine ⟨_,he,⟨H.cell 5 O rfl,H.cell 2 O (fiveC_get hq5)⟩,?_⟩
   refine Ht 8 O (by kernel_rfl) (by kernel_rfl) (by kernel_rfl) O ⟨H.cell 5 O rfl,H.cell 2 O (fiveC_get hq5)⟩ (fun w hI => Y.movT O) (Ht 9 O (by kernel_rfl) (by kernel_rfl) (by kernel_rfl) O ⟨H.cell 5 O rfl,H.cell 2 O (fiveC_get hq5)⟩ (fun w hI => Y.ext O O) (Ht 10 O (by kernel_rfl) (by kernel_rfl) (by kernel_rfl) O ⟨H.cell 5 O rfl,H.cell 2 O (fiveC_get hq5)⟩ (fun w hI => Y.ext O O) (Ht 11 O (by kernel_rfl) (by kernel_rfl) (by kernel_rfl) O ⟨H.cell 5 O rfl,H.cell 2 O (fiveC_get hq5)⟩ (fun w hI => Y.ixA0 q ar_113 r29 O O hq5) (VH.putG (v:=.slice (some ⟨gl,0,none⟩) (alph cc q) (alph cc q)) 12 O (by kernel_rfl) H 0 st_23 O O O O (by rw [← hql];exact partC_get (by omega)) ?_))))
   intro w hF H
   simp only [List.cons_append,List.nil_append,List.set] at H
   rw [e1] at H
   refine ⟨⟨H.cell 5 O rfl,H.cell 2 O (fiveC_get (by omega))⟩,?_⟩
   refine Ht 13 O (by kernel_rfl) (by kernel_rfl) (by kernel_rfl) O ⟨H.cell 5 O rfl,H.cell 2 O (fiveC_get hq5)⟩ (fun w hI => Y.ixA0 q ar_113 r30 O O hq5) (VH.putG (v:=.slice (some ⟨gn,0,none⟩) (alph cc q) (alph cc q)) 14 O (by kernel_rfl) H 1 st_23 O O O O (by rw [← hqn];exact partC_get (by omega)) ?_)
   intro w hF H
   simp only [List.cons_append,List.nil_append,List.set] at H
   refine ⟨⟨H.cell 5 O rfl,H.cell 2 O (fiveC_get (by omega))⟩,?_⟩
   refine VH.nil (by kernel_rfl) (blk_n (tn ?_))
   rw [e2] at H
   have H4:St W S (blkR gl (nums .i64 ls) 3 :: blkR gn (nums .i64 ns) 3 :: rowsR qs :: ([blkR b29 (partC (cur.map lenV++[.slice (some ⟨gl,0,none⟩) (alph cc q) (alph cc q)])) 113,blkR b30 (partC (cur.map numV++[.slice (some ⟨gn,0,none⟩) (alph cc q) (alph cc q)])) 113,blkR b24 (fiveC ub cc) 108,wrR wb a' c' (X2++Ze++Z1),blkR cb (chL v k7) 53,blkR b6 [.pointer (some ⟨wb,0,none⟩)] 54,vecR at_ ct 110 5 ts.length (tksCells ts),blkR b21 [.slice aL g cL] 106,blkR b22 [.slice aN g cN] 106,vecR aL cL 113 5 g (es.map lenV),vecR aN cN 113 5 g (es.map numV)]++usR ub (usedOf ts g) cc (q+1) (5 - (q+1)))) w :=
    H.subL (l:=[blkR b29 (partC (cur.map lenV++[.slice (some ⟨gl,0,none⟩) (alph cc q) (alph cc q)])) 113,blkR b30 (partC (cur.map numV++[.slice (some ⟨gn,0,none⟩) (alph cc q) (alph cc q)])) 113,blkR b24 (fiveC ub cc) 108,wrR wb a' c' (X2++Ze++Z1),blkR cb (chL v k7) 53,blkR b6 [.pointer (some ⟨wb,0,none⟩)] 54,vecR at_ ct 110 5 ts.length (tksCells ts),blkR b21 [.slice aL g cL] 106,blkR b22 [.slice aN g cN] 106,vecR aL cL 113 5 g (es.map lenV),vecR aN cN 113 5 g (es.map numV),rowsR qs,blkR gl (nums .i64 ls) 3,blkR gn (nums .i64 ns) 3]) (l':=blkR gl (nums .i64 ls) 3 :: blkR gn (nums .i64 ns) 3 :: rowsR qs :: [blkR b29 (partC (cur.map lenV++[.slice (some ⟨gl,0,none⟩) (alph cc q) (alph cc q)])) 113,blkR b30 (partC (cur.map numV++[.slice (some ⟨gn,0,none⟩) (alph cc q) (alph cc q)])) 113,blkR b24 (fiveC ub cc) 108,wrR wb a' c' (X2++Ze++Z1),blkR cb (chL v k7) 53,blkR b6 [.pointer (some ⟨wb,0,none⟩)] 54,vecR at_ ct 110 5 ts.length (tksCells ts),blkR b21 [.slice aL g cL] 106,blkR b22 [.slice aN g cN] 106,vecR aL cL 113 5 g (es.map lenV),vecR aN cN 113 5 g (es.map numV)]) [12,13,11,0,1,2,3,4,5,6,7,8,9,10] rfl (by decide)
   have H5:=H4.rows2.subL (l:=rowsR ((gl,ls) :: (gn,ns) :: qs) :: [blkR b29 (partC (cur.map lenV++[.slice (some ⟨gl,0,none⟩) (alph cc q) (alph cc q)])) 113,blkR b30 (partC (cur.map numV++[.slice (some ⟨gn,0,none⟩) (alph cc q) (alph cc q)])) 113,blkR b24 (fiveC ub cc) 108,wrR wb a' c' (X2++Ze++Z1),blkR cb (chL v k7) 53,blkR b6 [.pointer (some ⟨wb,0,none⟩)] 54,vecR at_ ct 110 5 ts.length (tksCells ts),blkR b21 [.slice aL g cL] 106,blkR b22 [.slice aN g cN] 106,vecR aL cL 113 5 g (es.map lenV),vecR aN cN 113 5 g (es.map numV)]) (l':=[blkR b29 (partC (cur.map lenV++[.slice (some ⟨gl,0,none⟩) (alph cc q) (alph cc q)])) 113,blkR b30 (partC (cur.map numV++[.slice (some ⟨gn,0,none⟩) (alph cc q) (alph cc q)])) 113,blkR b24 (fiveC ub cc) 108,wrR wb a' c' (X2++Ze++Z1),blkR cb (chL v k7) 53,blkR b6 [.pointer (some ⟨wb,0,none⟩)] 54,vecR at_ ct 110 5 ts.length (tksCells ts),blkR b21 [.slice aL g cL] 106,blkR b22 [.slice aN g cN] 106,vecR aL cL 113 5 g (es.map lenV),vecR aN cN 113 5 g (es.map numV),rowsR ((gl,ls) :: (gn,ns) :: qs)]) [1,2,3,4,5,6,7,8,9,10,11,0] rfl (by decide)
   clear H H4
   obtain ⟨e,he'⟩:∃ e:En,e=⟨ls,ns,t,gl,gn⟩:=⟨_,rfl⟩
   have el:lenV e=.slice (some ⟨gl,0,none⟩) (alph cc q) (alph cc q):=by rw [he'];unfold lenV;rw [hcode.lens]
   have en:numV e=.slice (some ⟨gn,0,none⟩) (alph cc q) (alph cc q):=by rw [he'];unfold numV;rw [hcode.nums]
   rw [← el,← en,show [lenV e]=[e].map lenV from rfl,show [numV e]=[e].map numV from rfl,← List.map_append,← List.map_append,List.append_assoc] at H5
   have hEn2:EnsTo ts cc (es++(cur++[e])) (Ze++Z1):=by
    rw [← List.append_assoc]
    refine hEn.snoc ?_ ?_ hZ1l
    ·rw [hesl,show (5 * g+q) / 5=g by omega,show (5 * g+q) % 5=q by omega,he']
     exact hcode
    ·rw [hesl,show (5 * g+q) % 5=q by omega,he']
     exact hZ1
   refine Cr (Lo O (Y.add r166 O (n64 (b:=1) (by omega))) (Lo O (YI O) (Lt ?_)))
   refine ⟨5 - (q+1),by omega,q+1,cur++[e],(gl,ls) :: (gn,ns) :: qs,a',c',k7,Ze++Z1,rfl,by omega,by rw [List.length_append,hcl];rfl,fun x hx => ?_,hEn2,by omega,by omega,r5,r6,r19,r20,r21,r22,r23,r24,r129,r130,r29,r30,rfl,H5⟩
   rw [← List.append_assoc] at hx
   rcases List.mem_append.1 hx with hx | hx
   ·have:=hqs x hx
    exact ⟨List.mem_cons_of_mem _ (List.mem_cons_of_mem _ this.1),List.mem_cons_of_mem _ (List.mem_cons_of_mem _ this.2)⟩
   ·rw [List.mem_singleton] at hx
    subst hx
    rw [he']
    exact ⟨List.mem_cons_self ..,List.mem_cons_of_mem _ (List.mem_cons_self ..)⟩
  case refine_2 =>
  clear H r5 r6 r19 r20 r21 r22 r23 r24 r129 r130 hqs hEn
  rintro ρ w12 ⟨cur,qs,a,c,k6,Ze,hcl,hqs,hEn,hk13,hk14,r5,r6,r19,r20,r21,r22,r23,r24,r129,r130,r29,r30,H⟩
  obtain ⟨e0,e1,e2,e3,e4,rfl⟩:∃ e0 e1 e2 e3 e4,cur=[e0,e1,e2,e3,e4]:=by
   match cur,hcl with
   | [e0,e1,e2,e3,e4],_ => exact ⟨e0,e1,e2,e3,e4,rfl⟩
  have hg3:g+1≤3:=by omega
  replace H:St W S [vecR aL cL 113 5 g (es.map lenV),vecR aN cN 113 5 g (es.map numV),blkR b21 [.slice aL g cL] 106,blkR b22 [.slice aN g cN] 106,blkR b29 ([e0,e1,e2,e3,e4].map lenV) 113,blkR b30 ([e0,e1,e2,e3,e4].map numV) 113,wrR wb a c (X2++Ze),blkR cb (chL v k6) 53,blkR b6 [.pointer (some ⟨wb,0,none⟩)] 54,vecR at_ ct 110 5 ts.length (tksCells ts),rowsR qs] w12:=by
   rw [partC_all (by rfl),partC_all (by rfl)] at H
   exact H.sub [9,10,7,8,0,1,3,4,5,6,11] O (by decide)
  refine VC.joinB (fun ρ w' => ∃ aL' cL' aN' cN',ρ 5=.pointer (some ⟨cb,0,none⟩)∧ρ 6=.pointer (some ⟨b6,0,none⟩)∧ρ 19=.slice at_ ts.length ct∧ρ 20=.int .i64 ((alph cc 0 - 280:Nat):Int)∧ρ 21=.pointer (some ⟨b21,0,none⟩)∧ρ 22=.pointer (some ⟨b22,0,none⟩)∧ρ 129=.int .i64 (many:Nat)∧ρ 130=.int .i64 (g:Nat)∧St W S [vecR aL' cL' 113 5 (g+1) (es.map lenV++[e0,e1,e2,e3,e4].map lenV),vecR aN' cN' 113 5 (g+1) (es.map numV++[e0,e1,e2,e3,e4].map numV),blkR b21 [.slice aL' (g+1) cL'] 106,blkR b22 [.slice aN' (g+1) cN'] 106,blkR b29 ([e0,e1,e2,e3,e4].map lenV) 113,blkR b30 ([e0,e1,e2,e3,e4].map numV) 113,wrR wb a c (X2++Ze),blkR cb (chL v k6) 53,blkR b6 [.pointer (some ⟨wb,0,none⟩)] 54,vecR at_ ct 110 5 ts.length (tksCells ts),rowsR qs] w') ?_ ?_
  case refine_1 =>
   refine VC.held ((fun _ => True)) mixedP (by with_reducible repeat (first | refine NoP.thn ?_ | refine NoP.blk ?_ | refine NoP.jmp ?_ | refine NoP.nojmp ?_ | exact NoP.done)) ?_
   intro w hsame
   replace H:=H.same hsame
   refine VH.orders [] [0,1,2,3,4,5,6,7] [(2,[1]),(3,[0,2]),(6,[5]),(7,[4,6])] 8 O (by kernel_rfl) (by decide) (by kernel_rfl)
    (fun D ρ w' => (∃ p2 p6 aL' cL' aN' cN',(0 ∉ D→ρ 183=.slice aL g cL)∧(1 ∉ D→ρ 184=.agg ([e0,e1,e2,e3,e4].map lenV).toArray)∧(2 ∉ D→ρ 185=.slice (some ⟨p2,0,none⟩) 1 1)∧(3 ∉ D→ρ 186=.slice aL' (g+1) cL')∧(4 ∉ D→ρ 187=.slice aN g cN)∧(5 ∉ D→ρ 188=.agg ([e0,e1,e2,e3,e4].map numV).toArray)∧(6 ∉ D→ρ 189=.slice (some ⟨p6,0,none⟩) 1 1)∧(7 ∉ D→ρ 190=.slice aN' (g+1) cN')∧(3 ∉ D→2 ∉ D)∧(7 ∉ D→6 ∉ D)∧St W S ([alt D 3 (vecR aL cL 113 5 g (es.map lenV)) (vecR aL' cL' 113 5 (g+1) (es.map lenV++[e0,e1,e2,e3,e4].map lenV)),alt D 7 (vecR aN cN 113 5 g (es.map numV)) (vecR aN' cN' 113 5 (g+1) (es.map numV++[e0,e1,e2,e3,e4].map numV)),blkR b21 [.slice aL g cL] 106,blkR b22 [.slice aN g cN] 106,blkR b29 ([e0,e1,e2,e3,e4].map lenV) 113,blkR b30 ([e0,e1,e2,e3,e4].map numV) 113,wrR wb a c (X2++Ze),blkR cb (chL v k6) 53,blkR b6 [.pointer (some ⟨wb,0,none⟩)] 54,vecR at_ ct 110 5 ts.length (tksCells ts),rowsR qs]++(unl D 2 (blkR p2 ([e0,e1,e2,e3,e4].map lenV) 113)++unl D 6 (blkR p6 ([e0,e1,e2,e3,e4].map numV) 113))) w')∧ρ 5=.pointer (some ⟨cb,0,none⟩)∧ρ 6=.pointer (some ⟨b6,0,none⟩)∧ρ 19=.slice at_ ts.length ct∧ρ 20=.int .i64 ((alph cc 0 - 280:Nat):Int)∧ρ 21=.pointer (some ⟨b21,0,none⟩)∧ρ 22=.pointer (some ⟨b22,0,none⟩)∧ρ 29=.pointer (some ⟨b29,0,none⟩)∧ρ 30=.pointer (some ⟨b30,0,none⟩)∧ρ 129=.int .i64 (many:Nat)∧ρ 130=.int .i64 (g:Nat)) (fun _ _ _ _ => trivial) ?_ ?_ ?_
   ·exact ⟨⟨0,0,none,0,none,0,fun h => absurd (by decide) h,fun h => absurd (by decide) h,fun h => absurd (by decide) h,fun h => absurd (by decide) h,fun h => absurd (by decide) h,fun h => absurd (by decide) h,fun h => absurd (by decide) h,fun h => absurd (by decide) h,fun h => absurd (by decide) h,fun h => absurd (by decide) h,H⟩,r5,r6,r19,r20,r21,r22,r29,r30,r129,r130⟩
   ·clear H r5 r6 r19 r20 r21 r22 r29 r30 r129 r130 r23 r24
    rintro D j ρ w' hj hjD hpre hDn ⟨⟨p2,p6,aL',cL',aN',cN',f0,f1,f2,f3,f4,f5,f6,f7,m3,m7,H⟩,r5,r6,r19,r20,r21,r22,r29,r30,r129,r130⟩
    have ne:∀ {x y:Nat},x≠y→(x ∈ D.erase y ↔ x ∈ D):=fun hxy => List.mem_erase_of_ne hxy
    simp only [List.mem_cons,List.not_mem_nil,or_false] at hj
    rcases hj with rfl | rfl | rfl | rfl | rfl | rfl | rfl | rfl
    ·refine VO.op O O (Y.ld ld_106 r21 (H.cell 2 O O)) ?_
     exact ⟨⟨p2,p6,aL',cL',aN',cN',fun _ => rfl,by rw [ne (by decide)];exact f1,by rw [ne (by decide)];exact f2,by rw [ne (by decide)];exact f3,by rw [ne (by decide)];exact f4,by rw [ne (by decide)];exact f5,by rw [ne (by decide)];exact f6,by rw [ne (by decide)];exact f7,by rw [ne (by decide),ne (by decide)];exact m3,by rw [ne (by decide),ne (by decide)];exact m7,by rw [alt_ne (by decide),alt_ne (by decide),unl_ne (by decide),unl_ne (by decide)];exact H⟩,r5,r6,r19,r20,r21,r22,r29,r30,r129,r130⟩
    ·refine VO.op O O (Y.ldn (cs:=[e0,e1,e2,e3,e4].map lenV) ldn_113 r29 O (fun j hj => by rw [Nat.zero_add];exact (H.blk (i:=4) O).cell j)) ?_
     exact ⟨⟨p2,p6,aL',cL',aN',cN',by rw [ne (by decide)];exact f0,fun _ => rfl,by rw [ne (by decide)];exact f2,by rw [ne (by decide)];exact f3,by rw [ne (by decide)];exact f4,by rw [ne (by decide)];exact f5,by rw [ne (by decide)];exact f6,by rw [ne (by decide)];exact f7,by rw [ne (by decide),ne (by decide)];exact m3,by rw [ne (by decide),ne (by decide)];exact m7,by rw [alt_ne (by decide),alt_ne (by decide),unl_ne (by decide),unl_ne (by decide)];exact H⟩,r5,r6,r19,r20,r21,r22,r29,r30,r129,r130⟩
    ·have r184:=f1 (hpre (2,[1]) (by simp) rfl 1 (by simp))
     rw [unl_mem hjD,List.nil_append] at H
     refine VO.bslice O H mk_106 ([e0,e1,e2,e3,e4].map lenV) O (ps:=[(0,.agg ([e0,e1,e2,e3,e4].map lenV).toArray)]) (by simp [ev,r184]) (by decide) (by decide) (by kernel_rfl) ?_
     intro w2 q2 _ hF2 H
     exact ⟨⟨q2,p6,aL',cL',aN',cN',by rw [ne (by decide)];exact f0,by rw [ne (by decide)];exact f1,fun _ => rfl,by rw [ne (by decide)];exact f3,by rw [ne (by decide)];exact f4,by rw [ne (by decide)];exact f5,by rw [ne (by decide)];exact f6,by rw [ne (by decide)];exact f7,fun _ => hDn.not_mem_erase,by rw [ne (by decide),ne (by decide)];exact m7,by rw [alt_ne (by decide),alt_ne (by decide),unl_eq hDn,unl_ne (by decide)];exact H.perm List.perm_middle.symm⟩,r5,r6,r19,r20,r21,r22,r29,r30,r129,r130⟩
    ·have r183:=f0 (hpre (3,[0,2]) (by simp) rfl 0 (by simp))
     have h2n:=hpre (3,[0,2]) (by simp) rfl 2 (by simp)
     have r185:=f2 h2n
     have hb2:Blk w' p2 ([e0,e1,e2,e3,e4].map lenV) 113:=H.has (blkR p2 ([e0,e1,e2,e3,e4].map lenV) 113) (by rw [unl_not h2n];simp)
     rw [alt_mem hjD] at H
     refine VO.append O H 0 mk_106 (by decide) O r183 O r185 (news:=[e0,e1,e2,e3,e4].map lenV) O (fun j u hj => by rw [Nat.zero_add];exact hb2.cellv hj) (lenV_one _) (by simp only [maxLen];omega) (by omega) ?_
     intro a2 c2 w2 _ H
     simp only [List.cons_append,List.nil_append,List.set] at H
     exact ⟨⟨p2,p6,a2,c2,aN',cN',by rw [ne (by decide)];exact f0,by rw [ne (by decide)];exact f1,by rw [ne (by decide)];exact f2,fun _ => rfl,by rw [ne (by decide)];exact f4,by rw [ne (by decide)];exact f5,by rw [ne (by decide)];exact f6,by rw [ne (by decide)];exact f7,fun _ => by rw [ne (by decide)];exact h2n,by rw [ne (by decide),ne (by decide)];exact m7,by rw [alt_eq hDn,alt_ne (by decide),unl_ne (by decide),unl_ne (by decide)];exact H⟩,r5,r6,r19,r20,r21,r22,r29,r30,r129,r130⟩
    ·refine VO.op O O (Y.ld ld_106 r22 (H.cell 3 O O)) ?_
     exact ⟨⟨p2,p6,aL',cL',aN',cN',by rw [ne (by decide)];exact f0,by rw [ne (by decide)];exact f1,by rw [ne (by decide)];exact f2,by rw [ne (by decide)];exact f3,fun _ => rfl,by rw [ne (by decide)];exact f5,by rw [ne (by decide)];exact f6,by rw [ne (by decide)];exact f7,by rw [ne (by decide),ne (by decide)];exact m3,by rw [ne (by decide),ne (by decide)];exact m7,by rw [alt_ne (by decide),alt_ne (by decide),unl_ne (by decide),unl_ne (by decide)];exact H⟩,r5,r6,r19,r20,r21,r22,r29,r30,r129,r130⟩
    ·refine VO.op O O (Y.ldn (cs:=[e0,e1,e2,e3,e4].map numV) ldn_113 r30 O (fun j hj => by rw [Nat.zero_add];exact (H.blk (i:=5) O).cell j)) ?_
     exact ⟨⟨p2,p6,aL',cL',aN',cN',by rw [ne (by decide)];exact f0,by rw [ne (by decide)];exact f1,by rw [ne (by decide)];exact f2,by rw [ne (by decide)];exact f3,by rw [ne (by decide)];exact f4,fun _ => rfl,by rw [ne (by decide)];exact f6,by rw [ne (by decide)];exact f7,by rw [ne (by decide),ne (by decide)];exact m3,by rw [ne (by decide),ne (by decide)];exact m7,by rw [alt_ne (by decide),alt_ne (by decide),unl_ne (by decide),unl_ne (by decide)];exact H⟩,r5,r6,r19,r20,r21,r22,r29,r30,r129,r130⟩
    ·have r188:=f5 (hpre (6,[5]) (by simp) rfl 5 (by simp))
     rw [unl_mem hjD] at H
     refine VO.bslice O H mk_106 ([e0,e1,e2,e3,e4].map numV) O (ps:=[(0,.agg ([e0,e1,e2,e3,e4].map numV).toArray)]) (by simp [ev,r188]) (by decide) (by decide) (by kernel_rfl) ?_
     intro w2 q6 _ hF2 H
     exact ⟨⟨p2,q6,aL',cL',aN',cN',by rw [ne (by decide)];exact f0,by rw [ne (by decide)];exact f1,by rw [ne (by decide)];exact f2,by rw [ne (by decide)];exact f3,by rw [ne (by decide)];exact f4,by rw [ne (by decide)];exact f5,fun _ => rfl,by rw [ne (by decide)];exact f7,by rw [ne (by decide),ne (by decide)];exact m3,fun _ => hDn.not_mem_erase,by rw [alt_ne (by decide),alt_ne (by decide),unl_ne (by decide),unl_eq hDn];exact H.perm (perm_in2 _ _ _ _)⟩,r5,r6,r19,r20,r21,r22,r29,r30,r129,r130⟩
    ·have r187:=f4 (hpre (7,[4,6]) (by simp) rfl 4 (by simp))
     have h6n:=hpre (7,[4,6]) (by simp) rfl 6 (by simp)
     have r189:=f6 h6n
     have hb6:Blk w' p6 ([e0,e1,e2,e3,e4].map numV) 113:=H.has (blkR p6 ([e0,e1,e2,e3,e4].map numV) 113) (by rw [unl_not h6n];simp)
     rw [alt_mem hjD] at H
     refine VO.append O H 1 mk_106 (by decide) O r187 O r189 (news:=[e0,e1,e2,e3,e4].map numV) O (fun j u hj => by rw [Nat.zero_add];exact hb6.cellv hj) (numV_one _) (by simp only [maxLen];omega) (by omega) ?_
     intro a2 c2 w2 _ H
     simp only [List.cons_append,List.nil_append,List.set] at H
     exact ⟨⟨p2,p6,aL',cL',a2,c2,by rw [ne (by decide)];exact f0,by rw [ne (by decide)];exact f1,by rw [ne (by decide)];exact f2,by rw [ne (by decide)];exact f3,by rw [ne (by decide)];exact f4,by rw [ne (by decide)];exact f5,by rw [ne (by decide)];exact f6,fun _ => rfl,by rw [ne (by decide),ne (by decide)];exact m3,fun _ => by rw [ne (by decide)];exact h6n,by rw [alt_ne (by decide),alt_eq hDn,unl_ne (by decide),unl_ne (by decide)];exact H⟩,r5,r6,r19,r20,r21,r22,r29,r30,r129,r130⟩
   clear H r5 r6 r19 r20 r21 r22 r29 r30 r129 r130 r23 r24
   rintro ρ w13 ⟨⟨p2,p6,aL',cL',aN',cN',_,_,_,f3,_,_,_,f7,_,_,H⟩,r5,r6,r19,r20,r21,r22,r29,r30,r129,r130⟩
   have r186:=f3 (by simp)
   have r190:=f7 (by simp)
   rw [alt_nil,alt_nil,unl_nil,unl_nil] at H
   refine VH.putG 8 O (by kernel_rfl) H 2 st_106 r21 O r186 O O ?_
   intro w hF H
   simp only [List.cons_append,List.nil_append,List.set] at H
   refine ⟨trivial,?_⟩
   refine VH.putG 9 O (by kernel_rfl) H 3 st_106 r22 O r190 O O ?_
   intro w hF H
   simp only [List.cons_append,List.nil_append,List.set] at H
   refine ⟨trivial,?_⟩
   refine VH.nil (by kernel_rfl) (blk_n (tn ?_))
   exact ⟨aL',cL',aN',cN',r5,r6,r19,r20,r21,r22,r129,r130,H.sub [0,1,2,3,4,5,6,7,8,9,10] O (by decide)⟩
  case refine_2 =>
  clear H r5 r6 r19 r20 r21 r22 r29 r30 r129 r130 r23 r24
  rintro ρ w13 ⟨aL',cL',aN',cN',r5,r6,r19,r20,r21,r22,r129,r130,H⟩
  refine Cr (Lo O (Y.add r130 O (n64 (b:=1) (by omega))) (Lo O (YI O) (Lt ?_)))
  refine ⟨many - (g+1),by omega,g+1,es++[e0,e1,e2,e3,e4],qs,aL',cL',aN',cN',a,c,k6,Ze,rfl,by omega,by rw [List.length_append,hes];rfl,hqs,hEn,by omega,by omega,r5,r6,r19,r20,r21,r22,r129,rfl,?_⟩
  rw [List.map_append,List.map_append]
  exact H.sub [6,7,8,9,2,3,0,1,10] O (by decide)
 case refine_2 =>
 clear H r5 r6 r14 r19 r20
 rintro ρ w9 ⟨es,qs,aL,cL,aN,cN,a5,c5,k5,Ze,hes,hqs,hEn,hk11,hk12,r5,r6,r19,r20,r21,r22,H⟩
 obtain ⟨vl,rfl,_⟩:=(H.get (i:=6) rfl:VecOk _ _ _ _ _ _ _).cell (by omega)
 obtain ⟨vn,rfl,_⟩:=(H.get (i:=7) rfl:VecOk _ _ _ _ _ _ _).cell (by omega)
 have hZel:=hEn.len
 rw [hes] at hZel
 have hb15:∀ g q s,(enBits es g q s).length≤15:=fun g q s => enBits_len hEn g q s
 refine Cy (Lo O (YS r19) (Lo O (Y.len sl_104 O) (Lo O (YI O) (Lt (Cb ?_)))))
 refine Cl (fun mm ρ w' => ∃ j a c,mm=ts.length - j∧j≤ts.length∧ρ 6=.pointer (some ⟨b6,0,none⟩)∧ρ 21=.pointer (some ⟨b21,0,none⟩)∧ρ 22=.pointer (some ⟨b22,0,none⟩)∧ρ 192=.slice at_ ts.length ct∧ρ 193=.int .i64 (ts.length:Nat)∧ρ 194=.int .i64 (j:Nat) ∧
  St W S [wrR wb a c (X2++Ze++tksBits (enBits es) (ts.take j)),blkR cb (chL v k5) 53,blkR b6 [.pointer (some ⟨wb,0,none⟩)] 54,vecR at_ ct 110 5 ts.length (tksCells ts),blkR b21 [.slice (some ⟨vl,0,none⟩) many cL] 106,blkR b22 [.slice (some ⟨vn,0,none⟩) many cN] 106,vecR (some ⟨vl,0,none⟩) cL 113 5 many (es.map lenV),vecR (some ⟨vn,0,none⟩) cN 113 5 many (es.map numV),rowsR qs] w') ts.length
  ⟨0,a5,c5,rfl,by omega,r6,r21,r22,rfl,rfl,rfl,by
   rw [List.take_zero,show tksBits (enBits es) []=[] from rfl,List.append_nil]
   exact H⟩ ?_
 clear H r5 r6 r19 r20 r21 r22
 rintro mm ρ w10 ⟨j,a6,c6,hmm,hj,r6,r21,r22,r192,r193,r194,H⟩
 have htb:=tksBits_len hb15 (ts.take j) fun t ht => (hT.fits t (List.mem_of_mem_take ht)).1
 have htk:(ts.take j).length≤4096:=by rw [List.length_take];omega
 have hXX:(X2++Ze++tksBits (enBits es) (ts.take j)).length≤X.length+2000000:=by
  rw [List.length_append,List.length_append]
  omega
 refine Cy (Lo O (Y.lss r194 r193) (Lt ?_))
 by_cases hjlt:j<ts.length
 case neg =>
  obtain rfl:j=ts.length:=by omega
  refine Cs (CF O (by omega) (Cx (thn_x (thn_x (blk_x ?_)))))
  rw [List.take_length] at H htb htk
  have hmt:main=false→hpx=[]:=fun hm => by
   subst hm
   have:=hZm []
   simp [mtOf,ret] at this
   exact this.1.2
  refine Done.end0 O ⟨a6,c6,Zc++(Zm++(Ze++tksBits (enBits es) ts)),k5,rfl,?_,?_,?_,by omega,?_⟩
  ·have H2:=H.sub [0,1] (l':=[wrR wb a6 c6 (X2++Ze++tksBits (enBits es) ts),blkR cb (chL v k5) 53]) rfl (by decide)
   rw [hX2e,hX1e] at H2
   simpa only [List.append_assoc] using H2
  ·exact decPixB_reads hZc hZm hEn (by rw [hes,hmg]) hpl h32 hT (fun t ht => by have:=hgts t ht;omega)
  ·unfold zMax
   simp only [List.length_append]
   split
   ·omega
   ·rename_i hmf
    have hf:main=false:=by simpa using hmf
    have h1:=hmt hf
    have h2:=(hZm0 hf).1
    subst h2
    rw [h1] at hmg
    have:many=1:=by rw [← hmg];rfl
    simp only [List.length_nil]
    omega
  ·unfold kMax
   split
   ·omega
   ·rename_i hmf
    have hf:main=false:=by simpa using hmf
    have h1:=hmt hf
    have h2:=(hZm0 hf).2
    rw [h1] at hmg
    have:many=1:=by rw [← hmg];rfl
    have:=hk6 hf
    omega
 obtain ⟨tb,htbe,_⟩:=(H.get (i:=3) rfl:VecOk _ _ _ _ _ _ _).cell (by omega)
 obtain ⟨tg,htgd⟩:∃ t,t=ts[j]:=⟨_,rfl⟩
 have htg:ts[j]?=some tg:=by rw [htgd];exact List.getElem?_eq_getElem hjlt
 have htm:tg ∈ ts:=List.mem_of_getElem? htg
 obtain ⟨hfit,i,hi,_,hok⟩:=hT.fits tg htm
 have hgm:=hgts tg htm
 clear htgd
 obtain ⟨tk,g⟩:=tg
 have hcells:∀ i,i<5→w10.cell? ⟨tb,0+j * 5+i,none⟩=(tk.cells g)[i]?:=by
  have hVT:VecOk w10 at_ ct 110 5 ts.length (tksCells ts):=H.get (i:=3) rfl
  rw [htbe] at hVT
  exact tkVec_cell hVT htg
 refine Cs (CT O (by omega) (Ck (tn (Cs (Cb (Cy (Lo O (Y.ixS j sl_104 (by rw [← htbe];exact r192) r194 O hjlt) (Lo O (Y.ldn (cs:=tk.cells g) ldn_110 O (Tk.cells_length _ _) hcells) (VL.alloc H zer_110 O ?_)))))))))
 intro w b33 hn33 hb33 H
 refine VL.putW (vs:=tk.cells g) H 0 stn_110 O O O (Tk.cells_length _ _) (Tk.cells_length _ _) (Tk.cells_one _ _) ?_
 intro w H
 simp only [List.set] at H
 refine Lt (Cy (Lo O (Y.ldn (cs:=tk.cells g) ldn_110 O (Tk.cells_length _ _) (fun i hi => by rw [Nat.zero_add];exact (H.blk (i:=0) O).cell i)) (VL.call O ent_46 (symbols_any _ tk g hfit) O ?_)))
 rintro e w ⟨he,hf⟩
 replace H:=H.quiet hf
 refine ⟨_,he,?_⟩
 refine VL.alloc H zer_111 O ?_
 intro w b34 hn34 hb34 H
 refine VL.putW (vs:=ints tk.five) H 0 stn_111 O O O (by cases tk <;> rfl) (by cases tk <;> rfl) (by intro u hu;obtain ⟨i,_,rfl⟩:=List.mem_map.1 hu;rfl) ?_
 intro w H
 simp only [List.set] at H
 refine Lt (Cy (Lo O (Y.mkf5 (vc:=.pointer (some ⟨b33,0,none⟩)) (vx:=.pointer (some ⟨b34,0,none⟩)) r6 r22 O O r21) (Lo O (Y.asg O) (Lt ?_))))
 refine VC.joinB (fun ρ w' => ∃ a c,ρ 6=.pointer (some ⟨b6,0,none⟩)∧ρ 21=.pointer (some ⟨b21,0,none⟩)∧ρ 22=.pointer (some ⟨b22,0,none⟩)∧ρ 192=.slice at_ ts.length ct∧ρ 193=.int .i64 (ts.length:Nat)∧ρ 194=.int .i64 (j:Nat)∧St W S [wrR wb a c (X2++Ze++tksBits (enBits es) (ts.take (j+1))),blkR cb (chL v k5) 53,blkR b6 [.pointer (some ⟨wb,0,none⟩)] 54,vecR at_ ct 110 5 ts.length (tksCells ts),blkR b21 [.slice (some ⟨vl,0,none⟩) many cL] 106,blkR b22 [.slice (some ⟨vn,0,none⟩) many cN] 106,vecR (some ⟨vl,0,none⟩) cL 113 5 many (es.map lenV),vecR (some ⟨vn,0,none⟩) cN 113 5 many (es.map numV),rowsR qs] w') ?_ ?_
 case refine_1 =>
  cases tk with
  | lit p =>
   have l0:=hb15 g 0 (pG p)
   have l1:=hb15 g 1 (pR p)
   have l2:=hb15 g 2 (pB p)
   refine Cy (Lo O (Y.mov O) (VL.putSym H hes hqs hEn hgm 0 (pG p) O (by simp [Tk.syms]) hok (by simp only [List.length_append,bnl];omega) O O O ?_))
   intro w a7 c7 H
   refine Lt (Cb (Cy (Lo O (Y.fa fa_110_3 O) (Lo O (Y.ld ld_3 O (H.cell 1 (v:=.int .i64 (0:Nat)) O O)) (Lo O (Y.gtr O O) (Lo O (Y.asgB O) (Lt (CF O (by omega) (Cy (Lo O (Y.fa fa_110_1 O) (Lo O (Y.ld ld_3 O (H.cell 1 (v:=.int .i64 (-1)) O O)) (Lo O (Y.lss O O) (Lo O (Y.asgB O) (Lt ?_))))))))))))))
   refine CT O (by omega) (Cy (Lo O (Y.mov O) (VL.putSym H hes hqs hEn hgm 1 (pR p) O (by simp [Tk.syms]) hok (by simp only [List.length_append,bnl];omega) O O O ?_)))
   intro w a8 c8 H
   refine Lt (Cy (Lo O (Y.mov O) (VL.putSym H hes hqs hEn hgm 2 (pB p) O (by simp [Tk.syms]) hok (by simp only [List.length_append,bnl];omega) O O O ?_)))
   intro w a9 c9 H
   refine Lt (Cr (Lo O (Y.mov O) (VL.putSym H hes hqs hEn hgm 3 (pA p) O (by simp [Tk.syms]) hok (by simp only [List.length_append,bnl];omega) O O O ?_)))
   intro w a10 c10 H
   refine Ln (blk_n (blk_n (tn ?_)))
   refine ⟨a10,c10,r6,r21,r22,r192,r193,r194,?_⟩
   rw [tksBits_take htg]
   simp only [List.append_assoc] at H
   simp only [Tk.bits,List.append_assoc]
   exact H.sub [2,3,4,5,6,7,8,9,10] O (by decide)
  | hit p k =>
   refine Cy (Lo O (Y.mov O) (VL.putSym H hes hqs hEn hgm 0 (280+k) O (by simp [Tk.syms]) hok (by simp only [List.length_append,bnl];omega) O O O ?_))
   intro w a7 c7 H
   refine Lt (Cb (Cy (Lo O (Y.fa fa_110_3 O) (Lo O (Y.ld ld_3 O (H.cell 1 (v:=.int .i64 (0:Nat)) O O)) (Lo O (Y.gtr O O) (Lo O (Y.asgB O) (Lt (CF O (by omega) (Cy (Lo O (Y.fa fa_110_1 O) (Lo O (Y.ld ld_3 O (H.cell 1 (v:=.int .i64 (k:Nat)) O O)) (Lo O (Y.lss O O) (Lo O (Y.asgB O) (Lt ?_))))))))))))))
   refine CF O (by omega) (Ck (blk_n (blk_n (tn ?_))))
   refine ⟨a7,c7,r6,r21,r22,r192,r193,r194,?_⟩
   rw [tksBits_take htg]
   simp only [List.append_assoc] at H
   simp only [Tk.bits,List.append_assoc]
   exact H.sub [2,3,4,5,6,7,8,9,10] O (by decide)
  | cp p far long =>
   obtain ⟨_,f1,f2,f3,f4⟩:=hfit
   have sl:=sym_spec f1 (by omega)
   have sf:=sym_spec f3 f4
   have l0:=hb15 g 0 (256+symN long)
   have l4:=hb15 g 4 (symN far)
   have p18:2 ^ extraN long≤2 ^ 18:=Nat.pow_le_pow_right (by omega) sl.2.2.2.1
   have p18':2 ^ extraN far≤2 ^ 18:=Nat.pow_le_pow_right (by omega) sf.2.2.2.1
   have m1:=sl.2.2.1
   have m2:=sf.2.2.1
   have x1:=sl.2.2.2.1
   have x2:=sf.2.2.2.1
   refine Cy (Lo O (Y.mov O) (VL.putSym H hes hqs hEn hgm 0 (256+symN long) O (by simp [Tk.syms]) hok (by simp only [List.length_append,bnl];omega) O O O ?_))
   intro w a7 c7 H
   refine Lt (Cb (Cy (Lo O (Y.fa fa_110_3 O) (Lo O (Y.ld ld_3 O (H.cell 1 (v:=.int .i64 (long:Nat)) O O)) (Lo O (Y.gtr O O) (Lo O (Y.asgB O) (Lt (CT O (by omega) (Cy (Lo O (Y.fa fa_110_3 O) (Lo O (Y.ld ld_3 O (H.cell 1 (v:=.int .i64 (long:Nat)) O O)) (VL.callP O ent_50 (symbolOf_any _ long f1 (by omega)) O (Lo O (Y.movT O) (Lo O (Y.ext O O) (Lo O (Y.ext O O) ?_)))))))))))))))
   refine Lo O (Y.ext O O) (Lo O (AI O) (Lo O (AI O) (Lo O (AI O) (Lt (Cy (Lo O (Y.ld ld_54 r6 (H.cell 4 O O)) (Lo O (YI O) (Lo O (YI O) (VL.bits H 2 O (moreN long) (extraN long) (by omega) (by omega) (by simp only [List.length_append];omega) O O O O ?_)))))))))
   intro w a8 c8 H
   simp only [List.set] at H
   refine Lt (Cy (Lo O (Y.mov O) (VL.putSym H hes hqs hEn hgm 4 (symN far) O (by simp [Tk.syms]) hok (by simp only [List.length_append,bnl];omega) O O O ?_)))
   intro w a9 c9 H
   refine Lt (Cy (Lo O (Y.fa fa_110_2 O) (Lo O (Y.ld ld_3 O (H.cell 1 (v:=.int .i64 (far:Nat)) O O)) (VL.callP O ent_50 (symbolOf_any _ far f3 f4) O (Lo O (Y.movT O) (Lo O (Y.ext O O) (Lo O (Y.ext O O) (Lo O (Y.ext O O) (Lo O (AI O) (Lo O (AI O) (Lt (Cr (Lo O (Y.ld ld_54 r6 (H.cell 4 O O)) (Lo O (YI O) (Lo O (YI O) (VL.bits H 2 O (moreN far) (extraN far) (by omega) (by omega) (by simp only [List.length_append,bnl];omega) O O O O ?_))))))))))))))))
   intro w a10 c10 H
   simp only [List.set] at H
   refine Ln (blk_n (blk_n (tn ?_)))
   refine ⟨a10,c10,r6,r21,r22,r192,r193,r194,?_⟩
   rw [tksBits_take htg]
   simp only [List.append_assoc] at H
   simp only [Tk.bits,List.append_assoc]
   exact H.sub [2,3,4,5,6,7,8,9,10] O (by decide)
 case refine_2 =>
 clear H r6 r21 r22 r192 r193 r194 hcells
 rintro ρ w11 ⟨a7,c7,r6,r21,r22,r192,r193,r194,H⟩
 refine Cr (Lo O (Y.add r194 O (n64 (b:=1) (by omega))) (Lo O (YI O) (Lt ?_)))
 exact ⟨ts.length - (j+1),by omega,j+1,a7,c7,rfl,by omega,r6,r21,r22,r192,r193,rfl,H⟩
end Go.Proofs.YtinkhckpckfajaaDoor
