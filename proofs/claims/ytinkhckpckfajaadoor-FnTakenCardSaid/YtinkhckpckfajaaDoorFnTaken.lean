/-
  FnTakenCardSaid is proved, the given statement with its card: of a source that gives single bytes what a stream has is taken, and at most one byte more:
  a call of laws.FnTaken with any arguments of its types ends, returns true, and turns nothing that lay in memory before.
  Conditions: those of the given statement alone (the arguments are of their types and lie in memory as the row says;
  the package variables that the row lists are as the program lays them). No others.
-/
import Derived.Test.YtinkhckpckfajaaDoorA13
import Derived.Test.YtinkhckpckfajaaDoorTie
import Derived.Test.YtinkhckpckfajaaDoorCards
import Derived.SevenTiedAt
set_option linter.unusedVariables false
set_option linter.unusedSimpArgs false
set_option maxRecDepth 100000
set_option maxHeartbeats 1000000
namespace Go.Proofs.YtinkhckpckfajaaDoor
open Go
def BIn (v:Value) (n:Nat) (w:World):Prop:=∃ a c,v=.slice a n c∧(n=0∨∃ sb so,∃ bs:List Nat,a=some ⟨sb,so,none⟩∧n=bs.length∧(∀ j (h:j<bs.length),w.cell? ⟨sb,so+j,none⟩=some (.int .u8 (bs[j]:Nat)))∧∀ c ∈ bs,c<256)
theorem BIn.val {v:Value} {n:Nat} {w:World} (h:BIn v n w):∃ a c,v=.slice a n c:=by obtain ⟨a,c,e,_⟩:=h;exact ⟨a,c,e⟩
theorem BIn.keep {v:Value} {n:Nat} {w w':World} (h:BIn v n w) (hf:Frm [] w w'):BIn v n w':=by
 obtain ⟨a,c,rfl,h⟩:=h
 refine ⟨a,c,rfl,h.imp id ?_⟩
 rintro ⟨sb,so,bs,rfl,hn,hp,hs⟩
 exact ⟨sb,so,bs,rfl,hn,fun j hj => hf.cell (hp j hj) List.not_mem_nil,hs⟩
section
variable {P:Program} {w:World} {t ty el by_:Nat} {zs:List Value} {a x2:Option Addr} {n c c2:Nat}
theorem append_zero (F:MK P t el by_ zs) (hn:n≤c):(Builtin.append_ #[t,t] ty #[.slice a n c,.slice x2 0 c2]).run P w=.ok (.slice a n c) w:=by
 obtain ⟨hu,i,z,hi,hz1,hz2,hz3,hz4⟩:=F
 cases a <;> cases x2 <;> simp [Builtin.append_,run_underlying hu,sizeOf,typeInfo,hi,Builtin.lenOf,Builtin.firstCells,hn,storeCells,loadCells,loadCellsFrom]
end
section
variable {w:World} {nn:Nat} {ops:Array Oper} {Q:Post} {rest:List Oper} {ρ:Env} {ty:TypeId} {pos:String} {after:Array Edge} {x1 x2:Operand} {d:Nat} {sb sc bn:Nat} {s:List Nat} {bv:Value}
theorem VL.appendB (hV:VecOk w (some ⟨sb,0,none⟩) sc 5 1 s.length (nums .u8 s)) (I:SIn sb 0 s w) (hs:s.length≤10000000) (hb:BIn bv bn w) (hbn:bn≤2147483647) (hd:Nat.blt d nn=true) (hg:nG≤sb)
  (h1:ev ρ x1=.slice (some ⟨sb,0,none⟩) s.length sc) (h2:ev ρ x2=bv)
  (h:∀ w' bs g c',bn=bs.length→Frm [sb] w w'→SIn g 0 (s++bs) w'→VL Tryd.prog nn ops Q rest (upd ρ d (.slice (some ⟨g,0,none⟩) (s++bs).length c')) w') :
  VL Tryd.prog nn ops Q (⟨some d,.call ⟨.builtin .append,#[x1,x2],#[24,24]⟩,ty,pos,after,none⟩ :: rest) ρ w:=by
 obtain ⟨a2,c2,rfl,hb⟩:=hb
 by_cases h0:bn=0
 ·subst h0
  have hle:s.length≤sc:=by
   rcases hV with ⟨e,_⟩ | ⟨g,cur,e,_,h1,_⟩
   ·cases e
   ·exact h1
  refine Lo hd (v:=.slice (some ⟨sb,0,none⟩) s.length sc) (w':=w) ?_ (by have:=h w [] sb sc O (Frm.refl _ _) (by rw [List.append_nil];exact I);rwa [List.append_nil] at this)
  unfold Yld
  simp only [execOp,resolve,Sem.run_bind,Sem.run_pure,Result.andThen_ok,Go.invoke,Go.builtin,List.map_toArray,List.map_cons,List.map_nil,h1,h2,append_zero (x2:=a2) (c2:=c2) (ty:=ty) mk_24 hle]
 ·rcases hb with h | ⟨bb,bo,bs,rfl,rfl,hc,hlt⟩
  ·exact absurd h h0
  obtain ⟨a',c',w',hr,hV',hf,hfoot⟩:=append_vec (ty:=ty) (c2:=c2) (b:=bb) (off:=bo) (m:=bs.length) (news:=nums .u8 bs) mk_24 (by decide) hV (by simp [nums]) (fun j u hj => by
   have hj2:j<bs.length:=by
    have:=(List.getElem?_eq_some_iff.1 hj).1
    simpa [nums] using this
   rw [hc j hj2]
   simpa [nums,hj2] using hj) (nums_one _ _) (by simp only [maxLen];omega) (by omega)
  rw [← nums_append] at hV'
  have hpos:0<s.length+bs.length:=by omega
  obtain ⟨g,rfl,hcell⟩:=hV'.cell hpos
  refine Lo hd (v:=.slice (some ⟨g,0,none⟩) (s.length+bs.length) c') (w':=w') ?_ (by
   have:=h w' bs g c' rfl hf ⟨I.gl.keep hf (fun x hx => ?_),fun j hj => ?_,fun q hq => ?_,?_,World.block_lt_of_cell? w' _ (hcell 0 _ (nums_get (by rw [List.length_append];exact hpos)))⟩
   ·rwa [List.length_append] at this
   ·simp [footA] at hx
    subst hx
    exact hg
   ·rw [Nat.zero_add]
    refine hcell j _ ?_
    unfold nums
    rw [List.getElem?_map,List.getElem?_eq_getElem hj]
    rfl
   ·rcases List.mem_append.1 hq with hq | hq
    ·exact I.small q hq
    ·exact hlt q hq
   ·rw [List.length_append];omega)
  unfold Yld
  simp only [execOp,resolve,Sem.run_bind,Sem.run_pure,Result.andThen_ok,Go.invoke,Go.builtin,List.map_toArray,List.map_cons,List.map_nil,h1,h2,hr]
end
theorem pack_len {X:Bits} (h:X.length≤10000000):(packB X).length≤10000000:=by rw [packB_length];unfold nB;omega
theorem rds_behind {X:Bits} {v:Nat × Nat × List Nat} (h:Rds decAll X v) (bs:List Nat):∃ k,k<8∧decAll (bitsOf (packB X++bs))=some (v,List.replicate k false++bitsOf bs):=by
 obtain ⟨k,hk,e⟩:=bits_pack X
 refine ⟨k,hk,?_⟩
 rw [bitsOf_append,e,List.append_assoc]
 exact h _
theorem behind_walk (W:World) (x y:Int) (lv wv bv:Value) (ln wn bn:Nat) (G:Gl W) (L:LIn lv ln W) (Wy:WIn wv wn W) (By:BIn bv bn W) :
  Calls Tryd.prog 5 #[.int .i64 x,.int .i64 y,lv,wv,bv] W fun e w' => e=.returned (.bool true)∧Frm [] W w':=by
 obtain ⟨la,lc,rfl⟩:=L.val
 obtain ⟨wa,wc,rfl⟩:=Wy.val
 obtain ⟨ba,bc,rfl⟩:=By.val
 have H:St W [] [] W:=St.nil W []
 refine enter (m:=44) Tryd.func5 O Tryd.ntmps5 O (Cy (Lo O (Y.asgB O) (Lt ?_)))
 by_cases h1:2147483647<ln
 case pos =>
  refine Cs (Cy (Lo O (YS O) (Lo O (Y.len sl_22 O) (Lo O (Y.gtrD (b:=true) O O (decide_eq_true (by omega))) (Lo O (Y.movB O) (VL.skipG O O O O O (VL.skipG O O O O O (VL.skipG O O O O O (Lo O (Y.pick O O) (Lo O (Y.movB O) (VL.skipG O O O O O (VL.skipG O O O O O (VL.skipG O O O O O (Lo O (Y.pick O O) (Lt ?_)))))))))))))))
  refine CB O (fun _ => ?_) (fun h => nomatch h)
  refine Cy (Lo O (Y.asgB O) (Lt (Ct (thn_r ?_))))
  exact Done.ret1 O O ⟨rfl,Frm.refl _ _⟩
 by_cases h2:2147483647<wn
 case pos =>
  refine Cs (Cy (Lo O (YS O) (Lo O (Y.len sl_22 O) (Lo O (Y.gtrD (b:=false) O O (decide_eq_false (by omega))) (Lo O (Y.movB O) (LG O O O O (YS O) (LG O O O O (Y.len sl_23 O) (LG O O O O (Y.gtrD (b:=true) O O (decide_eq_true (by omega))) (Lo O (Y.pick O O) (Lo O (Y.movB O) (VL.skipG O O O O O (VL.skipG O O O O O (VL.skipG O O O O O (Lo O (Y.pick O O) (Lt ?_)))))))))))))))
  refine CB O (fun _ => ?_) (fun h => nomatch h)
  refine Cy (Lo O (Y.asgB O) (Lt (Ct (thn_r ?_))))
  exact Done.ret1 O O ⟨rfl,Frm.refl _ _⟩
 by_cases h3:2147483647<bn
 case pos =>
  refine Cs (Cy (Lo O (YS O) (Lo O (Y.len sl_22 O) (Lo O (Y.gtrD (b:=false) O O (decide_eq_false (by omega))) (Lo O (Y.movB O) (LG O O O O (YS O) (LG O O O O (Y.len sl_23 O) (LG O O O O (Y.gtrD (b:=false) O O (decide_eq_false (by omega))) (Lo O (Y.pick O O) (Lo O (Y.movB O) (LG O O O O (YS O) (LG O O O O (Y.len sl_24 O) (LG O O O O (Y.gtrD (b:=true) O O (decide_eq_true (by omega))) (Lo O (Y.pick O O) (Lt ?_)))))))))))))))
  refine CB O (fun _ => ?_) (fun h => nomatch h)
  refine Cy (Lo O (Y.asgB O) (Lt (Ct (thn_r ?_))))
  exact Done.ret1 O O ⟨rfl,Frm.refl _ _⟩
 refine Cs (Cy (Lo O (YS O) (Lo O (Y.len sl_22 O) (Lo O (Y.gtrD (b:=false) O O (decide_eq_false (by omega))) (Lo O (Y.movB O) (LG O O O O (YS O) (LG O O O O (Y.len sl_23 O) (LG O O O O (Y.gtrD (b:=false) O O (decide_eq_false (by omega))) (Lo O (Y.pick O O) (Lo O (Y.movB O) (LG O O O O (YS O) (LG O O O O (Y.len sl_24 O) (LG O O O O (Y.gtrD (b:=false) O O (decide_eq_false (by omega))) (Lo O (Y.pick O O) (Lt (CB O (fun h => nomatch h) (fun _ => (Ck (tn ?_)))))))))))))))))))
 refine Cy (Lo O (YI O) (Lo O (YI O) (Lo O (YS O) (VL.picture (m:=20) (by decide) (by decide) L O O O O O ?_))))
 intro w1 wd ht px pb pc hf1 g1 g2 g3 g4 g5 Ip hpc hpb hv
 refine Lo O (Y.movT O) (Lo O (Y.ext O O) (Lo O (Y.ext O O) (Lo O (Y.ext O O) (Lo O (AI O) (Lo O (AI O) (Lo O (AS O) (Lt ?_)))))))
 have hp:px.length≤400:=by rw [g5];exact Nat.mul_le_mul g2 g4
 refine Cy (Lo O (YI O) (Lo O (YI O) (Lo O (YS O) (Lo O (YS O) (VL.encode (G.keep0 hf1) Ip hpc g5 (by omega) g1 g3 (Wy.keep hf1) (by omega) O O O O O ?_)))))
 intro w2 X sb sc hf2 hR I hsb hsc hX hV hXl
 refine Lo O (YS O) (VL.appendB hV I (pack_len hXl) (By.keep (hf1.trans hf2)) (by omega) O (by have:=(G.keep0 hf1).high;omega) O O ?_)
 intro w3 bs g gc hbl hf3 I3
 obtain ⟨k,hk,hdec⟩:=rds_behind hR bs
 have hpne:pb ∉ [sb]:=by have:=Ip.sbl;simp;omega
 refine Lo O (YI O) (Lo O (YI O) (Lo O (YS O) (VL.is I3 ((Ip.keep hf2 List.not_mem_nil).keep hf3 hpne) hdec O O O O O ?_)))
 intro w4 hf4
 refine Lo O (Y.asgB O) (Lt (Ct ?_))
 exact Done.ret1 O O ⟨rfl,((hf1.trans hf2).then hf3 (fun q hq => .inr (by simp at hq;subst hq;have:=hf1.size;omega))).trans hf4⟩
theorem taken_walk (W:World) (x y:Int) (lv wv bv:Value) (ln wn bn:Nat) (G:Gl W) (L:LIn lv ln W) (Wy:WIn wv wn W) (By:BIn bv bn W) :
  Calls Tryd.prog 3 #[.int .i64 x,.int .i64 y,lv,wv,bv] W fun e w' => e=.returned (.bool true)∧Frm [] W w':=by
 obtain ⟨la,lc,rfl⟩:=L.val
 obtain ⟨wa,wc,rfl⟩:=Wy.val
 obtain ⟨ba,bc,rfl⟩:=By.val
 have H:St W [] [] W:=St.nil W []
 refine enter (m:=60) Tryd.func3 O Tryd.ntmps3 O (Cy (Lo O (Y.asgB O) (Lt ?_)))
 by_cases h1:2147483647<ln
 case pos =>
  refine Cs (Cy (Lo O (YS O) (Lo O (Y.len sl_22 O) (Lo O (Y.gtrD (b:=true) O O (decide_eq_true (by omega))) (Lo O (Y.movB O) (VL.skipG O O O O O (VL.skipG O O O O O (VL.skipG O O O O O (Lo O (Y.pick O O) (Lo O (Y.movB O) (VL.skipG O O O O O (VL.skipG O O O O O (VL.skipG O O O O O (Lo O (Y.pick O O) (Lt ?_)))))))))))))))
  refine CB O (fun _ => ?_) (fun h => nomatch h)
  refine Cy (Lo O (Y.asgB O) (Lt (Ct (thn_r ?_))))
  exact Done.ret1 O O ⟨rfl,Frm.refl _ _⟩
 by_cases h2:2147483647<wn
 case pos =>
  refine Cs (Cy (Lo O (YS O) (Lo O (Y.len sl_22 O) (Lo O (Y.gtrD (b:=false) O O (decide_eq_false (by omega))) (Lo O (Y.movB O) (LG O O O O (YS O) (LG O O O O (Y.len sl_23 O) (LG O O O O (Y.gtrD (b:=true) O O (decide_eq_true (by omega))) (Lo O (Y.pick O O) (Lo O (Y.movB O) (VL.skipG O O O O O (VL.skipG O O O O O (VL.skipG O O O O O (Lo O (Y.pick O O) (Lt ?_)))))))))))))))
  refine CB O (fun _ => ?_) (fun h => nomatch h)
  refine Cy (Lo O (Y.asgB O) (Lt (Ct (thn_r ?_))))
  exact Done.ret1 O O ⟨rfl,Frm.refl _ _⟩
 by_cases h3:2147483647<bn
 case pos =>
  refine Cs (Cy (Lo O (YS O) (Lo O (Y.len sl_22 O) (Lo O (Y.gtrD (b:=false) O O (decide_eq_false (by omega))) (Lo O (Y.movB O) (LG O O O O (YS O) (LG O O O O (Y.len sl_23 O) (LG O O O O (Y.gtrD (b:=false) O O (decide_eq_false (by omega))) (Lo O (Y.pick O O) (Lo O (Y.movB O) (LG O O O O (YS O) (LG O O O O (Y.len sl_24 O) (LG O O O O (Y.gtrD (b:=true) O O (decide_eq_true (by omega))) (Lo O (Y.pick O O) (Lt ?_)))))))))))))))
  refine CB O (fun _ => ?_) (fun h => nomatch h)
  refine Cy (Lo O (Y.asgB O) (Lt (Ct (thn_r ?_))))
  exact Done.ret1 O O ⟨rfl,Frm.refl _ _⟩
 refine Cs (Cy (Lo O (YS O) (Lo O (Y.len sl_22 O) (Lo O (Y.gtrD (b:=false) O O (decide_eq_false (by omega))) (Lo O (Y.movB O) (LG O O O O (YS O) (LG O O O O (Y.len sl_23 O) (LG O O O O (Y.gtrD (b:=false) O O (decide_eq_false (by omega))) (Lo O (Y.pick O O) (Lo O (Y.movB O) (LG O O O O (YS O) (LG O O O O (Y.len sl_24 O) (LG O O O O (Y.gtrD (b:=false) O O (decide_eq_false (by omega))) (Lo O (Y.pick O O) (Lt (CB O (fun h => nomatch h) (fun _ => (Ck (tn ?_)))))))))))))))))))
 refine Cy (Lo O (YI O) (Lo O (YI O) (Lo O (YS O) (VL.picture (m:=20) (by decide) (by decide) L O O O O O ?_))))
 intro w1 wd ht px pb pc hf1 g1 g2 g3 g4 g5 Ip hpc hpb hv
 refine Lo O (Y.movT O) (Lo O (Y.ext O O) (Lo O (Y.ext O O) (Lo O (Y.ext O O) (Lo O (AI O) (Lo O (AI O) (Lo O (AS O) (Lt ?_)))))))
 have hp:px.length≤400:=by rw [g5];exact Nat.mul_le_mul g2 g4
 refine Cy (Lo O (YI O) (Lo O (YI O) (Lo O (YS O) (Lo O (YS O) (VL.encode (G.keep0 hf1) Ip hpc g5 (by omega) g1 g3 (Wy.keep hf1) (by omega) O O O O O ?_)))))
 intro w2 X sb sc hf2 hR I hsb hsc hX hV hXl
 refine Lo O (YS O) (VL.appendB hV I (pack_len hXl) (By.keep (hf1.trans hf2)) (by omega) O (by have:=(G.keep0 hf1).high;omega) O O ?_)
 intro w3 bs g gc hbl hf3 I3
 obtain ⟨k,hk,hdec⟩:=rds_behind hR bs
 refine VL.call O ent_12 (rest_any g 0 gc (packB X++bs) w3 I3 _ _ hdec) O ?_
 rintro e w4 ⟨⟨i,nb,hreg,hnb,he⟩,hf4⟩
 refine ⟨_,he,?_⟩
 refine Lo O (Y.movT O) (Lo O (Y.ext O O) (Lo O (Y.ext O O) (Lo O (AI O) (Lo O (Y.asgB O) (Lt ?_)))))
 have hlen:=hreg.length
 rw [List.length_append,List.length_replicate,bitsOf_length] at hlen
 have hil:=hreg.i_le
 obtain ⟨rest,hrest⟩:∃ rest,rest=(packB X++bs).length - i:=⟨_,rfl⟩
 rw [← hrest] at hlen ⊢
 refine Cy (Lo O (Y.movB O) (Lo O (Y.movB O) (LG O O O O (YI O) (LG O O O O (YS O) (LG O O O O (Y.len sl_24 O) (LG O O O O (Y.leqD (b:=true) O O (decide_eq_true (by omega))) (Lo O (Y.pick O O) (Lo O (Y.movB O) (LG O O O O (YI O) (LG O O O O (YS O) (LG O O O O (Y.len sl_24 O) (LG O O O O (Y.sub (r:=((bn:Nat):Int) - 1) O O (w64 (by omega))) (LG O O O O (Y.geqD (b:=true) O O (decide_eq_true (by omega))) (Lo O (Y.pick O O) (Lo O (Y.asgB O) (Lt (Ct ?_)))))))))))))))))
 exact Done.ret1 O O ⟨rfl,((hf1.trans hf2).then hf3 (fun q hq => .inr (by simp at hq;subst hq;have:=hf1.size;omega))).trans hf4⟩
end Go.Proofs.YtinkhckpckfajaaDoor
namespace Go.Proofs.YtinkhckpckfajaaDoor
open Go Go.ChangeShapes Go.WideShapes Go.ChangeAt Go.RowKit
theorem b_in {H:Type} {enc:TypeId × Value→H} {W:World} {base:Nat} {v:Value} {d:DataW H} {p:List MemPlace} (hval:Value.okWide Tryd.prog W .any base 24 v) (hd:DataW.Trod enc Tryd.prog W 0 (fun _ => true) true 24 v d p):∃ n,BIn v n W:=by
 obtain ⟨a,n,c,rfl,h⟩:=ints_in Tryd.underlying24 Tryd.underlying5 (by kernel_rfl) hval hd
 refine ⟨n,a,c,rfl,?_⟩
 by_cases h0:n=0
 ·exact .inl h0
 rcases h with h | ⟨sb,so,zs,rfl,rfl,hz,hwf⟩
 ·exact absurd h h0
 right
 have hz0:∀ j (h:j<zs.length),((zs[j].toNat:Nat):Int)=zs[j]∧zs[j].toNat<256:=fun j hj => by
  have:=hwf _ (List.getElem_mem hj)
  simp only [Lit.wf,Bool.and_eq_true,decide_eq_true_eq] at this
  have h1:(0:Int)≤zs[j]∧zs[j]≤255:=this
  omega
 refine ⟨sb,so,zs.map Int.toNat,rfl,by simp,fun j hj => ?_,fun q hq => ?_⟩
 ·simp only [List.length_map] at hj
  rw [hz j hj,List.getElem_map,(hz0 j hj).1]
 ·obtain ⟨z,hz2,rfl⟩:=List.mem_map.1 hq
  obtain ⟨j,hj,rfl⟩:=List.mem_iff_getElem.1 hz2
  exact (hz0 j hj).2
theorem taken_lifted (os:Os) (started:os.Started) (H:Type) (enc:TypeId × Value→H) :
  ReturnsInHanded {} Tryd.checked os 3 .any (fun w args => (Rows.fnTakenSpec.pre enc Tryd.prog Tryd.f3 [] false w args∧laidMetH Tryd.prog laidS w)∧sizedMet enc Tryd.prog Tryd.f3 (OpenSpec.ofChange Rows.fnTakenSpec) false w args)
   (Rows.fnTakenSpec.post enc Tryd.prog Tryd.f3 false true false false):=by
 refine returnsInHanded_of_change_and (C:=Tryd.checked) (X:=fun w _ => laidMetH Tryd.prog laidS w) (fun _ _ _ hh h => h.of_heap hh) own started (by kernel_rfl) Tryd.func3
  (ChangeSpec.witness_shaped (enc:=enc) (C:=Tryd.checked) (os:=os) (X:=fun w _ => laidMetH Tryd.prog laidS w) false (World.doorLaid Tryd.prog 2000 os) #[.int .i64 0,.int .i64 0,.slice none 0 0,.slice none 0 0,.slice none 0 0] 8 rfl (World.shaped_of_RefB (by kernel_rfl) (by kernel_rfl)) (by kernel_rfl) (by kernel_rfl) (by kernel_rfl) (door_met os _)) ?_
 intro W base args ds gs before hval0 hW _ _ hL _
 have hval:∀ (j:Nat) t v,Tryd.f3.params[j]?=some t→args[j]?=some v→Value.okWide Tryd.prog W .any base t v:=hval0
 have hW':=hW
 obtain ⟨p,q,hA0,hV,rfl,hfz,hnd⟩:=hW
 have hA:DataW.TrodAll enc Tryd.prog W 0 (fun _ => true) true Tryd.f3.params.toList args.toList ds p:=hA0
 obtain ⟨rfl,rfl⟩:=trodVars_none hV
 have hpar:Tryd.f3.params.toList=[3,3,22,23,24]:=by rw [Tryd.params3]
 rw [hpar] at hA
 obtain ⟨v0,_,d0,_,p0,_,e0,rfl,_,t0,hA⟩:=trodAll_cons hA
 obtain ⟨v1,_,d1,_,p1,_,rfl,rfl,_,t1,hA⟩:=trodAll_cons hA
 obtain ⟨v2,_,d2,_,p2,_,rfl,rfl,_,t2,hA⟩:=trodAll_cons hA
 obtain ⟨v3,_,d3,_,p3,_,rfl,rfl,_,t3,hA⟩:=trodAll_cons hA
 obtain ⟨v4,_,d4,_,p4,_,rfl,rfl,_,t4,hA⟩:=trodAll_cons hA
 obtain ⟨rfl,rfl,_⟩:=trodAll_nil hA
 obtain rfl:args=#[v0,v1,v2,v3,v4]:=Array.ext' e0
 rw [Tryd.params3] at hval
 obtain ⟨x0,rfl,rfl,_,_⟩:=open_int Tryd.underlying3 (hval 0 _ _ rfl rfl) t0
 obtain ⟨x1,rfl,rfl,_,_⟩:=open_int Tryd.underlying3 (hval 1 _ _ rfl rfl) t1
 obtain ⟨n2,L2⟩:=l_in (hval 2 _ _ rfl rfl) t2
 obtain ⟨n3,L3⟩:=w_in (hval 3 _ _ rfl rfl) t3
 obtain ⟨n4,L4⟩:=b_in (hval 4 _ _ rfl rfl) t4
 refine (taken_walk W x0 x1 v2 v3 v4 n2 n3 n4 (gl_of_laid hL) L2 L3 L4).mono fun e W' ⟨he,hf⟩ => ⟨_,he,post_law O hW' O (by kernel_rfl) (fun t ht => ?_) hf⟩
 rw [hpar] at ht
 have hall:([3,3,22,23,24].all fun t => Tryd.prog.readableRec t && decide (t<Tryd.prog.types.size))=true:=by kernel_rfl
 simpa using List.all_eq_true.1 hall t ht
theorem fnTaken_holds:Rows.FnTakenSaid :=
 OpenClaim.holds_of_wide 3 Tryd.f3 rfl rfl rfl rfl rfl rfl rfl ⟨rfl,rfl,rfl,rfl,rfl⟩ rfl rfl rfl rfl rfl (by kernel_rfl) Tryd.func3 (by kernel_rfl)
  (of_decide_eq_true (by kernel_rfl)) (by unfold Func.isWrapper;first | (rw [if_pos (by decide +kernel)];kernel_rfl) | (rw [if_neg (by decide +kernel)];exact ⟨rfl,rfl⟩))
  (fun os started H enc _ => taken_lifted os started H enc)
theorem fnTaken_card:Rows.FnTakenCardSaid :=
 Claim7.holds_tied_plain_at .later [] [.sentinel, .sentinel, .sentinel, .sentinel, .data, .data, .data, .data, .data, .data, .funcs] true (true, "8331098c51ca897b4b8427b5cb92b9093afaf9e5496467035e4138de255a6256") true
  fnTaken_holds (fun _ h => by cases h) (by kernel_rfl) (fun _ h => by cases h) fnTaken_row_tie rfl ⟨rfl,rfl⟩ (by kernel_rfl) rfl
  (fun f fn hf hfn => by
   obtain rfl : f = 3 := Option.some.inj ((show Tryd.prog.funcNamed "tintslate/laws.FnTaken" = some 3 by kernel_rfl).symm.trans hf) |>.symm
   obtain rfl:fn=Tryd.f3:=(Option.some.inj (Tryd.func3.symm.trans hfn)).symm
   exact ⟨by kernel_rfl,fun j t ht => by
    rw [Tryd.params3] at ht
    have hm:t ∈ [3,3,22,23,24]:=by simpa using Array.mem_of_getElem? ht
    have hall:([3,3,22,23,24].all fun u => !Tryd.prog.wantsStandIn u)=true:=by kernel_rfl
    exact (show Tryd.prog.wantsStandIn t=false by simpa using List.all_eq_true.1 hall t hm)⟩)
  (by kernel_rfl)
#print axioms fnTaken_card
end Go.Proofs.YtinkhckpckfajaaDoor
