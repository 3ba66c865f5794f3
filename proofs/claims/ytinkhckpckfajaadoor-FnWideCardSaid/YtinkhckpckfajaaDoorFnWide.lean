/-
  FnWideCardSaid is proved, the given statement with its card: a picture of one row, or of one column, up to 3000 long, is read as it was:
  a call of laws.FnWide with any arguments of its types ends, returns true, and turns nothing that lay in memory before.
  Conditions: those of the given statement alone (the arguments are of their types and lie in memory as the row says;
  the package variables that the row lists are as the program lays them). No others.
-/
import Derived.Test.YtinkhckpckfajaaDoorA13
import Derived.Test.YtinkhckpckfajaaDoorTie
import Derived.Test.YtinkhckpckfajaaDoorCards
import Derived.SevenTiedAt
set_option linter.unusedVariables false
set_option linter.unusedSimpArgs false
set_option maxRecDepth 100000
set_option maxHeartbeats 1000000
namespace Go.Proofs.YtinkhckpckfajaaDoor
open Go
theorem twoways_walk (W:World) (x y:Int) (lv wv ov:Value) (ln wn on:Nat) (G:Gl W) (L:LIn lv ln W) (Wy:WIn wv wn W) (Oy:WIn ov on W) :
  Calls Tryd.prog 9 #[.int .i64 x,.int .i64 y,lv,wv,ov] W fun e w' => e=.returned (.bool true)∧Frm [] W w':=by
 obtain ⟨la,lc,rfl⟩:=L.val
 obtain ⟨wa,wc,rfl⟩:=Wy.val
 obtain ⟨oa,oc,rfl⟩:=Oy.val
 have H:St W [] [] W:=St.nil W []
 refine enter (m:=57) Tryd.func9 O Tryd.ntmps9 O (Cy (Lo O (Y.asgB O) (Lt ?_)))
 by_cases h1:2147483647<ln
 case pos =>
  refine Cs (Cy (Lo O (YS O) (Lo O (Y.len sl_22 O) (Lo O (Y.gtrD (b:=true) O O (decide_eq_true (by omega))) (Lo O (Y.movB O) (VL.skipG O O O O O (VL.skipG O O O O O (VL.skipG O O O O O (Lo O (Y.pick O O) (Lo O (Y.movB O) (VL.skipG O O O O O (VL.skipG O O O O O (VL.skipG O O O O O (Lo O (Y.pick O O) (Lt ?_)))))))))))))))
  refine CB O (fun _ => ?_) (fun h => nomatch h)
  refine Cy (Lo O (Y.asgB O) (Lt (Ct (thn_r ?_))))
  exact Done.ret1 O O ⟨rfl,Frm.refl _ _⟩
 by_cases h2:2147483647<wn
 case pos =>
  refine Cs (Cy (Lo O (YS O) (Lo O (Y.len sl_22 O) (Lo O (Y.gtrD (b:=false) O O (decide_eq_false (by omega))) (Lo O (Y.movB O) (LG O O O O (YS O) (LG O O O O (Y.len sl_23 O) (LG O O O O (Y.gtrD (b:=true) O O (decide_eq_true (by omega))) (Lo O (Y.pick O O) (Lo O (Y.movB O) (VL.skipG O O O O O (VL.skipG O O O O O (VL.skipG O O O O O (Lo O (Y.pick O O) (Lt ?_)))))))))))))))
  refine CB O (fun _ => ?_) (fun h => nomatch h)
  refine Cy (Lo O (Y.asgB O) (Lt (Ct (thn_r ?_))))
  exact Done.ret1 O O ⟨rfl,Frm.refl _ _⟩
 by_cases h3:2147483647<on
 case pos =>
  refine Cs (Cy (Lo O (YS O) (Lo O (Y.len sl_22 O) (Lo O (Y.gtrD (b:=false) O O (decide_eq_false (by omega))) (Lo O (Y.movB O) (LG O O O O (YS O) (LG O O O O (Y.len sl_23 O) (LG O O O O (Y.gtrD (b:=false) O O (decide_eq_false (by omega))) (Lo O (Y.pick O O) (Lo O (Y.movB O) (LG O O O O (YS O) (LG O O O O (Y.len sl_23 O) (LG O O O O (Y.gtrD (b:=true) O O (decide_eq_true (by omega))) (Lo O (Y.pick O O) (Lt ?_)))))))))))))))
  refine CB O (fun _ => ?_) (fun h => nomatch h)
  refine Cy (Lo O (Y.asgB O) (Lt (Ct (thn_r ?_))))
  exact Done.ret1 O O ⟨rfl,Frm.refl _ _⟩
 refine Cs (Cy (Lo O (YS O) (Lo O (Y.len sl_22 O) (Lo O (Y.gtrD (b:=false) O O (decide_eq_false (by omega))) (Lo O (Y.movB O) (LG O O O O (YS O) (LG O O O O (Y.len sl_23 O) (LG O O O O (Y.gtrD (b:=false) O O (decide_eq_false (by omega))) (Lo O (Y.pick O O) (Lo O (Y.movB O) (LG O O O O (YS O) (LG O O O O (Y.len sl_23 O) (LG O O O O (Y.gtrD (b:=false) O O (decide_eq_false (by omega))) (Lo O (Y.pick O O) (Lt (CB O (fun h => nomatch h) (fun _ => (Ck (tn ?_)))))))))))))))))))
 refine Cy (Lo O (YI O) (Lo O (YI O) (Lo O (YS O) (VL.picture (m:=30) (by decide) (by decide) L O O O O O ?_))))
 intro w1 wd ht px pb pc hf1 g1 g2 g3 g4 g5 Ip hpc hpb hv
 refine Lo O (Y.movT O) (Lo O (Y.ext O O) (Lo O (Y.ext O O) (Lo O (Y.ext O O) (Lo O (AI O) (Lo O (AI O) (Lo O (AS O) (Lt ?_)))))))
 have hp:px.length≤900:=by rw [g5];exact Nat.mul_le_mul g2 g4
 refine Cy (Lo O (YI O) (Lo O (YI O) (Lo O (YS O) (Lo O (YS O) (VL.encode (G.keep0 hf1) Ip hpc g5 (by omega) g1 g3 (Wy.keep hf1) (by omega) O O O O O ?_)))))
 intro w2 X sb sc hf2 hR I hsb hsc hX _ _
 obtain ⟨R',hdec⟩:=rds_pack hR
 refine Lo O (YI O) (Lo O (YI O) (Lo O (YS O) (Lo O (YS O) (VL.encode (I.gl) (Ip.keep hf2 List.not_mem_nil) hpc g5 (by omega) g1 g3 (Oy.keep (hf1.trans hf2)) (by omega) O O O O O ?_))))
 intro w3 X2 sb2 sc2 hf3 hR2 I2 hsb2 hsc2 hX2 _ _
 obtain ⟨R2,hdec2⟩:=rds_pack hR2
 refine Lo O (AS O) (Lo O (AS O) (Lt (Cy (Lo O (YS O) (Lo O (YI O) (Lo O (YI O) (Lo O (YS O) (VL.is (I.keep0 hf3) ((Ip.keep hf2 List.not_mem_nil).keep hf3 List.not_mem_nil) hdec O O O O O ?_))))))))
 intro w4 hf4
 refine Lo O (Y.movB O) (LG O O O O (YS O) (LG O O O O (YI O) (LG O O O O (YI O) (LG O O O O (YS O) (VL.isG (I2.keep0 hf4) (((Ip.keep hf2 List.not_mem_nil).keep hf3 List.not_mem_nil).keep hf4 List.not_mem_nil) hdec2 O O O O O O O O ?_)))))
 intro w5 hf5
 refine Lo O (Y.pick O O) (Lo O (Y.asgB O) (Lt (Ct ?_)))
 exact Done.ret1 O O ⟨rfl,(((hf1.trans hf2).trans hf3).trans hf4).trans hf5⟩
theorem wide_walk (W:World) (x:Int) (down:Bool) (lv wv:Value) (ln wn:Nat) (G:Gl W) (L:LIn lv ln W) (Wy:WIn wv wn W) :
  Calls Tryd.prog 10 #[.int .i64 x,.bool down,lv,wv] W fun e w' => e=.returned (.bool true)∧Frm [] W w':=by
 obtain ⟨la,lc,rfl⟩:=L.val
 obtain ⟨wa,wc,rfl⟩:=Wy.val
 have H:St W [] [] W:=St.nil W []
 refine enter (m:=42) Tryd.func10 O Tryd.ntmps10 O (Cy (Lo O (Y.asgB O) (Lt ?_)))
 by_cases h1:2147483647<ln
 case pos =>
  refine Cs (Cy (Lo O (YS O) (Lo O (Y.len sl_22 O) (Lo O (Y.gtrD (b:=true) O O (decide_eq_true (by omega))) (Lo O (Y.movB O) (VL.skipG O O O O O (VL.skipG O O O O O (VL.skipG O O O O O (Lo O (Y.pick O O) (Lt ?_))))))))))
  refine CB O (fun _ => ?_) (fun h => nomatch h)
  refine Cy (Lo O (Y.asgB O) (Lt (Ct (thn_r ?_))))
  exact Done.ret1 O O ⟨rfl,Frm.refl _ _⟩
 by_cases h2:2147483647<wn
 case pos =>
  refine Cs (Cy (Lo O (YS O) (Lo O (Y.len sl_22 O) (Lo O (Y.gtrD (b:=false) O O (decide_eq_false (by omega))) (Lo O (Y.movB O) (LG O O O O (YS O) (LG O O O O (Y.len sl_23 O) (LG O O O O (Y.gtrD (b:=true) O O (decide_eq_true (by omega))) (Lo O (Y.pick O O) (Lt ?_))))))))))
  refine CB O (fun _ => ?_) (fun h => nomatch h)
  refine Cy (Lo O (Y.asgB O) (Lt (Ct (thn_r ?_))))
  exact Done.ret1 O O ⟨rfl,Frm.refl _ _⟩
 refine Cs (Cy (Lo O (YS O) (Lo O (Y.len sl_22 O) (Lo O (Y.gtrD (b:=false) O O (decide_eq_false (by omega))) (Lo O (Y.movB O) (LG O O O O (YS O) (LG O O O O (Y.len sl_23 O) (LG O O O O (Y.gtrD (b:=false) O O (decide_eq_false (by omega))) (Lo O (Y.pick O O) (Lt (CB O (fun h => nomatch h) (fun _ => (Ck (tn (Cy (Lo O (YI O) (Lo O (YS O) (VL.picture (m:=3000) (by decide) (by decide) L O O O O O ?_))))))))))))))))))
 intro w1 wd ht px pb pc hf1 g1 g2 g3 g4 g5 Ip hpc hpb hv
 refine Lo O (Y.movT O) (Lo O (Y.ext O O) (Lo O (Y.ext O O) (Lo O (Y.ext O O) (Lo O (AI O) (Lo O (AI O) (Lo O (AS O) (Lt ?_)))))))
 have hle:wd≤px.length:=by rw [g5];exact Nat.le_mul_of_pos_right wd g3
 have hlt:(px.take wd).length=wd:=by rw [List.length_take];omega
 have Ip2:PIn pb 0 (px.take wd) w1:=⟨fun j hj => by rw [List.getElem_take];exact Ip.row j (by omega),fun c hc => Ip.small c (List.mem_of_mem_take hc),Ip.sbl⟩
 refine Cy (Lo O (YS O) (Lo O (YI O) (Lo O (Y.sliceHi wd sl_22 O O O (by omega)) (Lo O (AS O) (Lt (Cy (Lo O (AI O) (Lt ?_))))))))
 cases down
 case true =>
  refine Cs (Cy (Lo O (Y.movB O) (Lt ?_)))
  refine CB O (fun _ => ?_) (fun h => nomatch h)
  refine Cr (Lo O (YI O) (Lo O (YI O) (Lo O (AI O) (Lo O (AI O) (Lt (Cy (Lo O (YI O) (Lo O (YI O) (Lo O (YS (show _=Value.slice (some ⟨pb,0,none⟩) (px.take wd).length pc by rw [hlt];rfl)) (Lo O (YS O) (VL.encode (G.keep0 hf1) Ip2 (by omega) (wd:=1) (ht:=wd) (by omega) (by omega) (by omega) g1 (Wy.keep hf1) (by omega) O O O O O ?_)))))))))))
  intro w2 X sb sc hf2 hR I hsb hsc hX _ _
  obtain ⟨R',hdec⟩:=rds_pack hR
  refine Lo O (YI O) (Lo O (YI O) (Lo O (YS (show _=Value.slice (some ⟨pb,0,none⟩) (px.take wd).length pc by rw [hlt];rfl)) (VL.is I (Ip2.keep hf2 List.not_mem_nil) hdec O O O O O ?_)))
  intro w3 hf3
  refine Lo O (Y.asgB O) (Lt (Ct ?_))
  exact Done.ret1 O O ⟨rfl,(hf1.trans hf2).trans hf3⟩
 refine Cs (Cy (Lo O (Y.movB O) (Lt (CB O (fun h => nomatch h) (fun _ => (Ck (tn (Cy (Lo O (YI O) (Lo O (YI O) (Lo O (YS (show _=Value.slice (some ⟨pb,0,none⟩) (px.take wd).length pc by rw [hlt];rfl)) (Lo O (YS O) (VL.encode (G.keep0 hf1) Ip2 (by omega) (wd:=wd) (ht:=1) (by omega) (by omega) g1 (by omega) (Wy.keep hf1) (by omega) O O O O O ?_)))))))))))))
 intro w2 X sb sc hf2 hR I hsb hsc hX _ _
 obtain ⟨R',hdec⟩:=rds_pack hR
 refine Lo O (YI O) (Lo O (YI O) (Lo O (YS (show _=Value.slice (some ⟨pb,0,none⟩) (px.take wd).length pc by rw [hlt];rfl)) (VL.is I (Ip2.keep hf2 List.not_mem_nil) hdec O O O O O ?_)))
 intro w3 hf3
 refine Lo O (Y.asgB O) (Lt (Ct ?_))
 exact Done.ret1 O O ⟨rfl,(hf1.trans hf2).trans hf3⟩
end Go.Proofs.YtinkhckpckfajaaDoor
namespace Go.Proofs.YtinkhckpckfajaaDoor
open Go Go.ChangeShapes Go.WideShapes Go.ChangeAt Go.RowKit
theorem wide_lifted (os:Os) (started:os.Started) (H:Type) (enc:TypeId × Value→H) :
  ReturnsInHanded {} Tryd.checked os 10 .any (fun w args => (Rows.fnWideSpec.pre enc Tryd.prog Tryd.f10 [] false w args∧laidMetH Tryd.prog laidS w)∧sizedMet enc Tryd.prog Tryd.f10 (OpenSpec.ofChange Rows.fnWideSpec) false w args)
   (Rows.fnWideSpec.post enc Tryd.prog Tryd.f10 false true false false):=by
 refine returnsInHanded_of_change_and (C:=Tryd.checked) (X:=fun w _ => laidMetH Tryd.prog laidS w) (fun _ _ _ hh h => h.of_heap hh) own started (by kernel_rfl) Tryd.func10
  (ChangeSpec.witness_shaped (enc:=enc) (C:=Tryd.checked) (os:=os) (X:=fun w _ => laidMetH Tryd.prog laidS w) false (World.doorLaid Tryd.prog 2000 os) #[.int .i64 0,.bool false,.slice none 0 0,.slice none 0 0] 8 rfl (World.shaped_of_RefB (by kernel_rfl) (by kernel_rfl)) (by kernel_rfl) (by kernel_rfl) (by kernel_rfl) (door_met os _)) ?_
 intro W base args ds gs before hval0 hW _ _ hL _
 have hval:∀ (j:Nat) t v,Tryd.f10.params[j]?=some t→args[j]?=some v→Value.okWide Tryd.prog W .any base t v:=hval0
 have hW':=hW
 obtain ⟨p,q,hA0,hV,rfl,hfz,hnd⟩:=hW
 have hA:DataW.TrodAll enc Tryd.prog W 0 (fun _ => true) true Tryd.f10.params.toList args.toList ds p:=hA0
 obtain ⟨rfl,rfl⟩:=trodVars_none hV
 have hpar:Tryd.f10.params.toList=[3,4,22,23]:=by rw [Tryd.params10]
 rw [hpar] at hA
 obtain ⟨v0,_,d0,_,p0,_,e0,rfl,_,t0,hA⟩:=trodAll_cons hA
 obtain ⟨v1,_,d1,_,p1,_,rfl,rfl,_,t1,hA⟩:=trodAll_cons hA
 obtain ⟨v2,_,d2,_,p2,_,rfl,rfl,_,t2,hA⟩:=trodAll_cons hA
 obtain ⟨v3,_,d3,_,p3,_,rfl,rfl,_,t3,hA⟩:=trodAll_cons hA
 obtain ⟨rfl,rfl,_⟩:=trodAll_nil hA
 obtain rfl:args=#[v0,v1,v2,v3]:=Array.ext' e0
 rw [Tryd.params10] at hval
 obtain ⟨x0,rfl,rfl,_,_⟩:=open_int Tryd.underlying3 (hval 0 _ _ rfl rfl) t0
 obtain ⟨x1,rfl,rfl,_⟩:=open_bool Tryd.underlying4 (hval 1 _ _ rfl rfl) t1
 obtain ⟨n2,L2⟩:=l_in (hval 2 _ _ rfl rfl) t2
 obtain ⟨n3,L3⟩:=w_in (hval 3 _ _ rfl rfl) t3
 refine (wide_walk W x0 x1 v2 v3 n2 n3 (gl_of_laid hL) L2 L3).mono fun e W' ⟨he,hf⟩ => ⟨_,he,post_law O hW' O (by kernel_rfl) (fun t ht => ?_) hf⟩
 rw [hpar] at ht
 have hall:([3,4,22,23].all fun t => Tryd.prog.readableRec t && decide (t<Tryd.prog.types.size))=true:=by kernel_rfl
 simpa using List.all_eq_true.1 hall t ht
theorem fnWide_holds:Rows.FnWideSaid :=
 OpenClaim.holds_of_wide 10 Tryd.f10 rfl rfl rfl rfl rfl rfl rfl ⟨rfl,rfl,rfl,rfl,rfl⟩ rfl rfl rfl rfl rfl (by kernel_rfl) Tryd.func10 (by kernel_rfl)
  (of_decide_eq_true (by kernel_rfl)) (by unfold Func.isWrapper;first | (rw [if_pos (by decide +kernel)];kernel_rfl) | (rw [if_neg (by decide +kernel)];exact ⟨rfl,rfl⟩))
  (fun os started H enc _ => wide_lifted os started H enc)
theorem fnWide_card:Rows.FnWideCardSaid :=
 Claim7.holds_tied_plain_at .later [] [.sentinel, .sentinel, .sentinel, .sentinel, .data, .data, .data, .data, .data, .data, .funcs] true (true, "8331098c51ca897b4b8427b5cb92b9093afaf9e5496467035e4138de255a6256") true
  fnWide_holds (fun _ h => by cases h) (by kernel_rfl) (fun _ h => by cases h) fnWide_row_tie rfl ⟨rfl,rfl⟩ (by kernel_rfl) rfl
  (fun f fn hf hfn => by
   obtain rfl : f = 10 := Option.some.inj ((show Tryd.prog.funcNamed "tintslate/laws.FnWide" = some 10 by kernel_rfl).symm.trans hf) |>.symm
   obtain rfl:fn=Tryd.f10:=(Option.some.inj (Tryd.func10.symm.trans hfn)).symm
   exact ⟨by kernel_rfl,fun j t ht => by
    rw [Tryd.params10] at ht
    have hm:t ∈ [3,4,22,23]:=by simpa using Array.mem_of_getElem? ht
    have hall:([3,4,22,23].all fun u => !Tryd.prog.wantsStandIn u)=true:=by kernel_rfl
    exact (show Tryd.prog.wantsStandIn t=false by simpa using List.all_eq_true.1 hall t hm)⟩)
  (by kernel_rfl)
#print axioms fnWide_card
end Go.Proofs.YtinkhckpckfajaaDoor
