/-
  A picture is written and read: part 12 of 13 (PredS, PredT, PredU, Colors, Do, EncP, Greens, EncS).
-/
import Derived.Test.YtinkhckpckfajaaDoorA11
set_option linter.unusedVariables false
set_option linter.unusedSimpArgs false
set_option maxRecDepth 100000
set_option maxHeartbeats 2000000
namespace Go.Proofs.YtinkhckpckfajaaDoor
open Go
def halfPx (p q:Nat):Nat:=argb (avg (pA p) (pA q)) (avg (pR p) (pR q)) (avg (pG p) (pG q)) (avg (pB p) (pB q))
theorem halfPx_parts (p q:Nat):pA (halfPx p q)=avg (pA p) (pA q)∧pR (halfPx p q)=avg (pR p) (pR q)∧pG (halfPx p q)=avg (pG p) (pG q)∧pB (halfPx p q)=avg (pB p) (pB q)∧halfPx p q<2 ^ 32:=by
 obtain ⟨a1,a2,a3,a4⟩:=parts_lt p
 obtain ⟨b1,b2,b3,b4⟩:=parts_lt q
 exact argb_parts (avg_lt a1 b1) (avg_lt a2 b2) (avg_lt a3 b3) (avg_lt a4 b4)
theorem half_any (W:World) (p q:Nat) (hp:p<2 ^ 32) (hq:q<2 ^ 32) :
  Calls Tryd.prog 65 #[.int .u32 (p:Nat),.int .u32 (q:Nat)] W fun e w' => e=.returned (.int .u32 (halfPx p q:Nat))∧w'=W:=by
 have a1:=partN_lt p 24
 have a2:=partN_lt p 16
 have a3:=partN_lt p 8
 have a4:=partN_lt p 0
 have b1:=partN_lt q 24
 have b2:=partN_lt q 16
 have b3:=partN_lt q 8
 have b4:=partN_lt q 0
 have e:halfPx p q=argb (avg (partN p 24) (partN q 24)) (avg (partN p 16) (partN q 16)) (avg (partN p 8) (partN q 8)) (avg (partN p 0) (partN q 0)):=by
  unfold halfPx
  rw [partN_A,partN_A,partN_R,partN_R,partN_G,partN_G,partN_B,partN_B]
 rw [e]
 have c1:=avg_lt a1 b1
 have c2:=avg_lt a2 b2
 have c3:=avg_lt a3 b3
 have c4:=avg_lt a4 b4
 refine enter (m:=30) Tryd.func65 O Tryd.ntmps65 O (Cy (Lo O (AI O) (Lt (Cy (Lo O (YI O) (VL.part p 24 hp (by omega) O O O (Lo O (YI O) (VL.part q 24 hq (by omega) O O O (Lo O (Y.add O O (n64 (by omega))) (Lo O (Y.quo (r:=((avg (partN p 24) (partN q 24):Nat):Int)) O O (by omega) (q64 (by omega))) (Lo O (YI O) (VL.part p 16 hp (by omega) O O O (Lo O (YI O) (VL.part q 16 hq (by omega) O O O (Lo O (Y.add O O (n64 (by omega))) (Lo O (Y.quo (r:=((avg (partN p 16) (partN q 16):Nat):Int)) O O (by omega) (q64 (by omega))) ?_))))))))))))))))
 refine Lo O (YI O) (VL.part p 8 hp (by omega) O O O (Lo O (YI O) (VL.part q 8 hq (by omega) O O O (Lo O (Y.add O O (n64 (by omega))) (Lo O (Y.quo (r:=((avg (partN p 8) (partN q 8):Nat):Int)) O O (by omega) (q64 (by omega))) (Lo O (YI O) (VL.part p 0 hp (by omega) O O O (Lo O (YI O) (VL.part q 0 hq (by omega) O O O (Lo O (Y.add O O (n64 (by omega))) (Lo O (Y.quo (r:=((avg (partN p 0) (partN q 0):Nat):Int)) O O (by omega) (q64 (by omega))) (VL.color (avg (partN p 24) (partN q 24)) (avg (partN p 16) (partN q 16)) (avg (partN p 8) (partN q 8)) (avg (partN p 0) (partN q 0)) (by omega) (by omega) (by omega) (by omega) O O O O O (Lo O (AI O) (Lt (Ct ?_)))))))))))))))
 exact Done.ret1 O O ⟨rfl,rfl⟩
theorem clamp_any (W:World) (n:Int) (r:Nat) (hr:(if (if 0<n then n else 0)<255 then (if 0<n then n else 0) else 255)=(r:Int)) :
  Calls Tryd.prog 75 #[.int .i64 n] W fun e w' => e=.returned (.int .i64 (r:Nat))∧w'=W:=by
 refine enter (m:=6) Tryd.func75 O Tryd.ntmps75 O (Cy (Lo O (AI O) (Lt (Cy (Lo O (YI O) (Lo O (Y.max O O O) (Lo O (Y.min (r:=(r:Int)) O O hr) (Lo O (AI O) (Lt (Ct ?_))))))))))
 exact Done.ret1 O O ⟨rfl,rfl⟩
theorem clampF_is (a b c:Nat):(if (if 0<(a:Int)+b - c then (a:Int)+b - c else 0)<255 then (if 0<(a:Int)+b - c then (a:Int)+b - c else 0) else 255)=((clampF a b c:Nat):Int):=by
 unfold clampF
 repeat' split
 all_goals omega
theorem tdiv_two (a b:Nat):((a:Int) - b).tdiv 2=if b≤a then (((a - b) / 2:Nat):Int) else -(((b - a) / 2:Nat):Int):=by
 by_cases h:b≤a
 ·rw [if_pos h,show (a:Int) - b=((a - b:Nat):Int) by omega];rfl
 ·rw [if_neg h,show (a:Int) - b=-((b - a:Nat):Int) by omega,Int.neg_tdiv];rfl
theorem clampH_is {a b:Nat} (ha:a<256) (hb:b<256):(if (if 0<(a:Int)+((a:Int) - b).tdiv 2 then (a:Int)+((a:Int) - b).tdiv 2 else 0)<255 then (if 0<(a:Int)+((a:Int) - b).tdiv 2 then (a:Int)+((a:Int) - b).tdiv 2 else 0) else 255)=((clampH a b:Nat):Int):=by
 have ht:=tdiv_two a b
 rw [ht]
 unfold clampH
 repeat' split
 all_goals omega
theorem full1_any (W:World) (p q r k b1 b2 b3:Nat) (hp:p<2 ^ 32) (hq:q<2 ^ 32) (hr:r<2 ^ 32) (hk:k≤24) (h1:W.cell? ⟨b1,0,none⟩=some (.int .u32 (p:Nat))) (h2:W.cell? ⟨b2,0,none⟩=some (.int .u32 (q:Nat))) (h3:W.cell? ⟨b3,0,none⟩=some (.int .u32 (r:Nat))) :
  Calls Tryd.prog 74 #[.int .i64 (k:Nat),.pointer (some ⟨b1,0,none⟩),.pointer (some ⟨b2,0,none⟩),.pointer (some ⟨b3,0,none⟩)] W fun e w' => e=.returned (.int .i64 (clampF (partN p k) (partN q k) (partN r k):Nat))∧Frm [] W w':=by
 have H:St W [] [] W:=St.nil W []
 have a1:=partN_lt p k
 have a2:=partN_lt q k
 have a3:=partN_lt r k
 refine enter (m:=18) Tryd.func74 O Tryd.ntmps74 O (Cy (Lo O (AI O) (Lt (Cs (Cd mixedP (by kernel_rfl) ?_)))))
 intro w hsame
 replace H:=H.same hsame
 refine So O (Y.ld ld_36 O (hsame_cell hsame h1)) (So O (YI O) (VS.part p k hp hk O O O (So O (Y.ld ld_36 O (hsame_cell hsame h2)) (So O (YI O) (VS.part q k hq hk O O O (So O (Y.add (r:=(partN p k:Int)+(partN q k:Int)) O O (w64 (by omega))) (So O (Y.ld ld_36 O (hsame_cell hsame h3)) (So O (YI O) (VS.part r k hr hk O O O (So O (Y.sub (r:=(partN p k:Int)+(partN q k:Int) - (partN r k:Int)) O O (w64 (by omega))) (VS.call O ent_75 (clamp_any _ _ _ (clampF_is _ _ _)) O (So O (AI O) (Sn (tn (Ct ?_)))))))))))))))
 exact Done.ret1 O O ⟨rfl,H.frm⟩
theorem beyond1_any (W:World) (p q k b1 b2:Nat) (hp:p<2 ^ 32) (hq:q<2 ^ 32) (hk:k≤24) (h1:W.cell? ⟨b1,0,none⟩=some (.int .u32 (p:Nat))) (h2:W.cell? ⟨b2,0,none⟩=some (.int .u32 (q:Nat))) :
  Calls Tryd.prog 76 #[.int .i64 (k:Nat),.pointer (some ⟨b1,0,none⟩),.pointer (some ⟨b2,0,none⟩)] W fun e w' => e=.returned (.int .i64 (clampH (partN p k) (partN q k):Nat))∧Frm [] W w':=by
 have H:St W [] [] W:=St.nil W []
 have a1:=partN_lt p k
 have a2:=partN_lt q k
 have hd1:((partN p k:Int) - (partN q k:Int)).tdiv 2≤256:=by
  rw [tdiv_two]
  split <;> omega
 have hd2:-256≤((partN p k:Int) - (partN q k:Int)).tdiv 2:=by
  rw [tdiv_two]
  split <;> omega
 refine enter (m:=18) Tryd.func76 O Tryd.ntmps76 O (Cy (Lo O (AI O) (Lt (Cs (Cd mixedP (by kernel_rfl) ?_)))))
 intro w hsame
 replace H:=H.same hsame
 refine So O (Y.ld ld_36 O (hsame_cell hsame h1)) (So O (YI O) (VS.part p k hp hk O O O (So O (Y.ld ld_36 O (hsame_cell hsame h1)) (So O (YI O) (VS.part p k hp hk O O O (So O (Y.ld ld_36 O (hsame_cell hsame h2)) (So O (YI O) (VS.part q k hq hk O O O (So O (Y.sub (r:=(partN p k:Int) - (partN q k:Int)) O O (w64 (by omega))) (So O (Y.quo (r:=((partN p k:Int) - (partN q k:Int)).tdiv 2) O O (by omega) (w64 (by omega))) (So O (Y.add (r:=(partN p k:Int)+((partN p k:Int) - (partN q k:Int)).tdiv 2) O O (w64 (by omega))) (VS.call O ent_75 (clamp_any _ _ _ (clampH_is a1 a2)) O (So O (AI O) (Sn (tn (Ct ?_))))))))))))))))
 exact Done.ret1 O O ⟨rfl,H.frm⟩
theorem VL.callV1 {P:Program} {n:Nat} {ops:Array Oper} {Q:Post} {ρ:Env} {w w0:World} {S:List Nat} {l:List Res} {rest:List Oper} {f:FuncId} {c x:Operand} {cs:List Value} {ts:Array TypeId} {ty:TypeId} {pos:String} {after:Array Edge} {d:Nat} {a v:Value}
  (H:St w0 S l w) (hd:Nat.blt d n=true) (he:Ent P f) (hv:ev ρ c=.func (.func f) ([]:List Value).toArray cs.toArray) (hx:ev ρ x=a) (hc:Calls P f (a :: cs).toArray w fun e w' => e=.returned v∧Frm [] w w')
  (h:∀ w',St w0 S l w'→VL P n ops Q rest (upd ρ d v) w'):VL P n ops Q (⟨some d,.call ⟨.value c,#[x],ts⟩,ty,pos,after,none⟩ :: rest) ρ w :=
 VL.callV (fs:=[]) (vs:=[a]) hd he hv hc (by simp [hx]) fun e w' hR => ⟨_,hR.1,h w' (H.quiet hR.2)⟩
def fullPx (p q r:Nat):Nat:=argb (clampF (pA p) (pA q) (pA r)) (clampF (pR p) (pR q) (pR r)) (clampF (pG p) (pG q) (pG r)) (clampF (pB p) (pB q) (pB r))
def beyondPx (p q:Nat):Nat:=argb (clampH (pA p) (pA q)) (clampH (pR p) (pR q)) (clampH (pG p) (pG q)) (clampH (pB p) (pB q))
theorem full_any (W:World) (p q r:Nat) (hp:p<2 ^ 32) (hq:q<2 ^ 32) (hr:r<2 ^ 32) :
  Calls Tryd.prog 67 #[.int .u32 (p:Nat),.int .u32 (q:Nat),.int .u32 (r:Nat)] W fun e w' => e=.returned (.int .u32 (fullPx p q r:Nat))∧Frm [] W w':=by
 have H:St W [] [] W:=St.nil W []
 have e:fullPx p q r=argb (clampF (partN p 24) (partN q 24) (partN r 24)) (clampF (partN p 16) (partN q 16) (partN r 16)) (clampF (partN p 8) (partN q 8) (partN r 8)) (clampF (partN p 0) (partN q 0) (partN r 0)):=by
  unfold fullPx
  rw [partN_A,partN_A,partN_A,partN_R,partN_R,partN_R,partN_G,partN_G,partN_G,partN_B,partN_B,partN_B]
 rw [e]
 have c1:=clampF_lt (partN p 24) (partN q 24) (partN r 24)
 have c2:=clampF_lt (partN p 16) (partN q 16) (partN r 16)
 have c3:=clampF_lt (partN p 8) (partN q 8) (partN r 8)
 have c4:=clampF_lt (partN p 0) (partN q 0) (partN r 0)
 refine enter (m:=18) Tryd.func67 O Tryd.ntmps67 O (Cy (VL.box H (cs:=[.int .u32 (p:Nat)]) O O O ?_))
 intro w b3 hn3 hb3 H
 refine VL.box H (cs:=[.int .u32 (q:Nat)]) O O O ?_
 intro w b4 hn4 hb4 H
 refine VL.box H (cs:=[.int .u32 (r:Nat)]) O O O ?_
 intro w b5 hn5 hb5 H
 refine Lo O (AI O) (Lt (Cy (Lo O (Y.mkf (fs:=[]) (cs:=[.pointer (some ⟨b3,0,none⟩),.pointer (some ⟨b4,0,none⟩),.pointer (some ⟨b5,0,none⟩)]) O O) (Lo O (Y.asg O) (Lt (Cy (Lo O (Y.mov O) (VL.callV1 (a:=.int .i64 (24:Nat)) H O ent_74 O O (full1_any _ p q r 24 b3 b4 b5 hp hq hr (by omega) (H.cell 2 O O) (H.cell 1 O O) (H.cell 0 O O)) ?_))))))))
 intro w H
 refine Lo O (Y.mov O) (VL.callV1 (a:=.int .i64 (16:Nat)) H O ent_74 O O (full1_any _ p q r 16 b3 b4 b5 hp hq hr (by omega) (H.cell 2 O O) (H.cell 1 O O) (H.cell 0 O O)) ?_)
 intro w H
 refine Lo O (Y.mov O) (VL.callV1 (a:=.int .i64 (8:Nat)) H O ent_74 O O (full1_any _ p q r 8 b3 b4 b5 hp hq hr (by omega) (H.cell 2 O O) (H.cell 1 O O) (H.cell 0 O O)) ?_)
 intro w H
 refine Lo O (Y.mov O) (VL.callV1 (a:=.int .i64 (0:Nat)) H O ent_74 O O (full1_any _ p q r 0 b3 b4 b5 hp hq hr (by omega) (H.cell 2 O O) (H.cell 1 O O) (H.cell 0 O O)) ?_)
 intro w H
 refine VL.color (clampF (partN p 24) (partN q 24) (partN r 24)) (clampF (partN p 16) (partN q 16) (partN r 16)) (clampF (partN p 8) (partN q 8) (partN r 8)) (clampF (partN p 0) (partN q 0) (partN r 0)) (by omega) (by omega) (by omega) (by omega) O O O O O (Lo O (AI O) (Lt (Ct ?_)))
 exact Done.ret1 O O ⟨rfl,H.frm⟩
theorem beyond_any (W:World) (p q:Nat) (hp:p<2 ^ 32) (hq:q<2 ^ 32) :
  Calls Tryd.prog 68 #[.int .u32 (p:Nat),.int .u32 (q:Nat)] W fun e w' => e=.returned (.int .u32 (beyondPx p q:Nat))∧Frm [] W w':=by
 have H:St W [] [] W:=St.nil W []
 have e:beyondPx p q=argb (clampH (partN p 24) (partN q 24)) (clampH (partN p 16) (partN q 16)) (clampH (partN p 8) (partN q 8)) (clampH (partN p 0) (partN q 0)):=by
  unfold beyondPx
  rw [partN_A,partN_A,partN_R,partN_R,partN_G,partN_G,partN_B,partN_B]
 rw [e]
 have c1:=clampH_lt (b:=partN q 24) (partN_lt p 24)
 have c2:=clampH_lt (b:=partN q 16) (partN_lt p 16)
 have c3:=clampH_lt (b:=partN q 8) (partN_lt p 8)
 have c4:=clampH_lt (b:=partN q 0) (partN_lt p 0)
 refine enter (m:=16) Tryd.func68 O Tryd.ntmps68 O (Cy (VL.box H (cs:=[.int .u32 (p:Nat)]) O O O ?_))
 intro w b3 hn3 hb3 H
 refine VL.box H (cs:=[.int .u32 (q:Nat)]) O O O ?_
 intro w b4 hn4 hb4 H
 refine Lo O (AI O) (Lt (Cy (Lo O (Y.mkf (fs:=[]) (cs:=[.pointer (some ⟨b3,0,none⟩),.pointer (some ⟨b4,0,none⟩)]) O O) (Lo O (Y.asg O) (Lt (Cy (Lo O (Y.mov O) (VL.callV1 (a:=.int .i64 (24:Nat)) H O ent_76 O O (beyond1_any _ p q 24 b3 b4 hp hq (by omega) (H.cell 1 O O) (H.cell 0 O O)) ?_))))))))
 intro w H
 refine Lo O (Y.mov O) (VL.callV1 (a:=.int .i64 (16:Nat)) H O ent_76 O O (beyond1_any _ p q 16 b3 b4 hp hq (by omega) (H.cell 1 O O) (H.cell 0 O O)) ?_)
 intro w H
 refine Lo O (Y.mov O) (VL.callV1 (a:=.int .i64 (8:Nat)) H O ent_76 O O (beyond1_any _ p q 8 b3 b4 hp hq (by omega) (H.cell 1 O O) (H.cell 0 O O)) ?_)
 intro w H
 refine Lo O (Y.mov O) (VL.callV1 (a:=.int .i64 (0:Nat)) H O ent_76 O O (beyond1_any _ p q 0 b3 b4 hp hq (by omega) (H.cell 1 O O) (H.cell 0 O O)) ?_)
 intro w H
 refine VL.color (clampH (partN p 24) (partN q 24)) (clampH (partN p 16) (partN q 16)) (clampH (partN p 8) (partN q 8)) (clampH (partN p 0) (partN q 0)) (by omega) (by omega) (by omega) (by omega) O O O O O (Lo O (AI O) (Lt (Ct ?_)))
 exact Done.ret1 O O ⟨rfl,H.frm⟩
def ats:List Nat:=[24,16,8,0]
def sumAb (p q:Nat) (i:Nat):Nat:=((ats.take i).map fun k => absd (partN p k) (partN q k)).sum
theorem sumAb_succ (p q:Nat) {i:Nat} (h:i<4):sumAb p q (i+1)=sumAb p q i+absd (partN p (ats.getD i 0)) (partN q (ats.getD i 0)):=by
 have:i=0∨i=1∨i=2∨i=3:=by omega
 rcases this with rfl | rfl | rfl | rfl <;> simp [sumAb,ats] <;> omega
theorem sumAb_le (p q:Nat) {i:Nat} (h:i≤4):sumAb p q i≤1024:=by
 have a:=fun k => absd_lt (partN_lt p k) (partN_lt q k)
 have:=a 24
 have:=a 16
 have:=a 8
 have:=a 0
 have:i=0∨i=1∨i=2∨i=3∨i=4:=by omega
 rcases this with rfl | rfl | rfl | rfl | rfl <;> simp [sumAb,ats] <;> omega
theorem maxabs (c t:Nat):(if (t:Int) - c<(c:Int) - t then (c:Int) - t else (t:Int) - c)=((absd c t:Nat):Int):=by
 unfold absd
 repeat' split
 all_goals omega
theorem nearer_any (W:World) (l t c:Nat) (hl:l<2 ^ 32) (ht:t<2 ^ 32) (hc:c<2 ^ 32) :
  Calls Tryd.prog 66 #[.int .u32 (l:Nat),.int .u32 (t:Nat),.int .u32 (c:Nat)] W fun e w' => e=.returned (.int .u32 ((if sumAb c t 4<sumAb c l 4 then l else t:Nat):Int))∧Frm [] W w':=by
 have H:St W [] [] W:=St.nil W []
 refine enter (m:=61) Tryd.func66 O Tryd.ntmps66 O (Cy (Lo O (AI O) (Lt (Cy (Lo O (AI O) (Lo O (AI O) (Lt (Cs (Cy (VL.bslice H mk_23 (nums .i64 ats) O O (by decide) (by decide) (by kernel_rfl) ?_))))))))))
 intro w b12 hn12 hb12 H
 refine Lo O (Y.len sl_23 O) (Lo O (YI O) (Lt ?_))
 refine VC.join (fun ρ w' => ρ 0=.int .u32 (l:Nat)∧ρ 1=.int .u32 (t:Nat)∧ρ 7=.int .i64 (sumAb c t 4:Nat)∧ρ 8=.int .i64 (sumAb c l 4:Nat)∧St W [] [blkR b12 (nums .i64 ats) 3] w') ?_ ?_
 case refine_1 =>
  refine Cb ?_
  refine Cl (fun mm ρ w' => ∃ i,mm=4 - i∧i≤4∧ρ 0=.int .u32 (l:Nat)∧ρ 1=.int .u32 (t:Nat)∧ρ 2=.int .u32 (c:Nat)∧ρ 7=.int .i64 (sumAb c t i:Nat)∧ρ 8=.int .i64 (sumAb c l i:Nat) ∧
   ρ 12=.slice (some ⟨b12,0,none⟩) 4 4∧ρ 13=.int .i64 (4:Nat)∧ρ 14=.int .i64 (i:Nat)∧St W [] [blkR b12 (nums .i64 ats) 3] w') 4
   ⟨0,rfl,by omega,rfl,rfl,rfl,rfl,rfl,rfl,rfl,rfl,H⟩ ?_
  clear H
  rintro mm ρ w5 ⟨i,hmm,hi,r0,r1,r2,r7,r8,r12,r13,r14,H⟩
  refine Cy (Lo O (Y.lss r14 r13) (Lt ?_))
  by_cases hlt:i<4
  case neg =>
   obtain rfl:i=4:=by omega
   refine Cs (CF O (by omega) (Cx (thn_x (thn_x (blk_x (tn ?_))))))
   exact ⟨r0,r1,r7,r8,H⟩
  obtain ⟨k,hk⟩:∃ k,k=ats.getD i 0:=⟨_,rfl⟩
  have hk24:k≤24:=by
   have:i=0∨i=1∨i=2∨i=3:=by omega
   rcases this with rfl | rfl | rfl | rfl <;> simp [hk,ats]
  have a1:=partN_lt l k
  have a2:=partN_lt t k
  have a3:=partN_lt c k
  have s1:=sumAb_le c t (i:=i) (by omega)
  have s2:=sumAb_le c l (i:=i) (by omega)
  have d1:=absd_lt (partN_lt c k) (partN_lt t k)
  have d2:=absd_lt (partN_lt c k) (partN_lt l k)
  have e1:=sumAb_succ c t hlt
  have e2:=sumAb_succ c l hlt
  rw [← hk] at e1 e2
  refine Cs (CT O (by omega) (Ck (tn (Cs (Cb (Cy (Lo O (Y.ixS0 i sl_23 r12 r14 O hlt) (Lo O (Y.ld ld_3 O (H.cell 0 (v:=.int .i64 (k:Nat)) O (by rw [hk];exact nums_get (by exact hlt)))) (Lo O (AI O) (Lt (Cy (Lo O (YI r0) (Lo O (YI O) (VL.part l k hl hk24 O O O (Lo O (YI r1) (Lo O (YI O) ?_))))))))))))))))
  refine VL.part t k ht hk24 O O O (Lo O (Y.add (r:=(partN l k:Int)+(partN t k:Int)) O O (w64 (by omega))) (Lo O (YI r2) (Lo O (YI O) (VL.part c k hc hk24 O O O (Lo O (Y.sub (r:=(partN l k:Int)+(partN t k:Int) - (partN c k:Int)) O O (w64 (by omega))) (Lo O (AI O) (Lt (Cy (Lo O (YI r7) (Lo O (YI O) (Lo O (YI r0) (Lo O (YI O) (VL.part l k hl hk24 O O O (Lo O (Y.sub (r:=(partN t k:Int) - (partN c k:Int)) O O (by rw [w64 (by omega)];omega)) (Lo O (YI r0) (Lo O (YI O) (VL.part l k hl hk24 O O O ?_)))))))))))))))))
  refine Lo O (YI O) (Lo O (Y.sub (r:=(partN c k:Int) - (partN t k:Int)) O O (by rw [w64 (by omega)];omega)) (Lo O (Y.max (r:=((absd (partN c k) (partN t k):Nat):Int)) O O (maxabs _ _)) (Lo O (Y.add (r:=((sumAb c t (i+1):Nat):Int)) O O (by rw [w64 (by omega),e1];omega)) (Lo O (AI O) (Lt (Cr (Lo O (YI r8) (Lo O (YI O) (Lo O (YI r1) (Lo O (YI O) (VL.part t k ht hk24 O O O (Lo O (Y.sub (r:=(partN l k:Int) - (partN c k:Int)) O O (by rw [w64 (by omega)];omega)) (Lo O (YI r1) (Lo O (YI O) (VL.part t k ht hk24 O O O (Lo O (YI O) (Lo O (Y.sub (r:=(partN c k:Int) - (partN l k:Int)) O O (by rw [w64 (by omega)];omega)) (Lo O (Y.max (r:=((absd (partN c k) (partN l k):Nat):Int)) O O (maxabs _ _)) ?_))))))))))))))))))
  refine Lo O (Y.add (r:=((sumAb c l (i+1):Nat):Int)) O O (by rw [w64 (by omega),e2];omega)) (Lo O (AI O) (Ln (blk_n (tn (Cr (Lo O (Y.add r14 O (n64 (b:=1) (by omega))) (Lo O (YI O) (Lt ?_))))))))
  exact ⟨4 - (i+1),by omega,i+1,rfl,by omega,r0,r1,r2,rfl,rfl,r12,r13,rfl,H⟩
 case refine_2 =>
 clear H
 rintro ρ w5 ⟨r0,r1,r7,r8,H⟩
 refine Cs (Cy (Lo O (YI r7) (Lo O (YI r8) (Lo O (Y.lss O O) (Lt ?_)))))
 by_cases hlt:sumAb c t 4<sumAb c l 4
 case pos =>
  refine CT O (by omega) (Cy (Lo O (YI r0) (Lo O (AI O) (Lt (Ct (thn_r ?_))))))
  exact Done.ret1 O O ⟨by rw [if_pos hlt];rfl,H.frm⟩
 refine CF O (by omega) (Ck (tn (Cy (Lo O (YI r1) (Lo O (AI O) (Lt (Ct ?_)))))))
 exact Done.ret1 O O ⟨by rw [if_neg hlt];rfl,H.frm⟩
def predS (w m:Nat) (px:List Nat) (i:Nat):Nat :=
 if i / w=0 then (if i % w=0 then 4278190080 else px.getD (i - 1) 0)
 else if i % w=0 then px.getD (i - w) 0
 else predMode m (px.getD (i - 1) 0) (px.getD (i - w) 0) (px.getD (i - w - 1) 0) (px.getD (i - w+1) 0)
theorem predS_px {w b i:Nat} {tpx px:List Nat} (hw:1≤w) (hi:i<px.length) (hm:pG (tpx.getD (blkAt w b i) 0)<14):predPx w b tpx (px.take i)=predS w (pG (tpx.getD (blkAt w b i) 0)) px i:=by
 have hl:(px.take i).length=i:=by rw [List.length_take];omega
 have hg:∀ j,j<i→(px.take i).getD j 0=px.getD j 0:=fun j hj => by
  rw [List.getD_eq_getElem?_getD,List.getElem?_take,if_pos hj,← List.getD_eq_getElem?_getD]
 unfold predPx predS
 rw [hl]
 by_cases h0:i / w=0
 ·rw [if_pos h0,if_pos h0]
  by_cases h1:i % w=0
  ·rw [if_pos h1,if_pos h1]
  ·rw [if_neg h1,if_neg h1]
   have:0<i:=Nat.pos_of_ne_zero fun e => h1 (by rw [e];exact Nat.zero_mod _)
   exact hg _ (by omega)
 ·rw [if_neg h0,if_neg h0]
  have hwi:w≤i:=Nat.le_of_not_lt fun h => h0 (Nat.div_eq_of_lt h)
  by_cases h1:i % w=0
  ·rw [if_pos h1,if_pos h1]
   exact hg _ (by omega)
  ·rw [if_neg h1,if_neg h1,Nat.mod_eq_of_lt (show pG (tpx.getD (blkAt w b i) 0)<16 by omega)]
   have hw2:2≤w:=Nat.lt_of_le_of_ne hw fun e => h1 (by rw [← e];exact Nat.mod_one _)
   rw [hg _ (by omega),hg _ (by omega),hg _ (by omega),hg _ (by omega)]
end Go.Proofs.YtinkhckpckfajaaDoor
set_option maxHeartbeats 4000000
namespace Go.Proofs.YtinkhckpckfajaaDoor
open Go
section
variable {l t c r:Nat}
theorem pm1 (h:l<2 ^ 32):predMode 1 l t c r=l:=argb_self h
theorem pm2 (h:t<2 ^ 32):predMode 2 l t c r=t:=argb_self h
theorem pm3 (h:r<2 ^ 32):predMode 3 l t c r=r:=argb_self h
theorem pm4 (h:c<2 ^ 32):predMode 4 l t c r=c:=argb_self h
theorem pm5:predMode 5 l t c r=halfPx (halfPx l r) t:=by
 obtain ⟨h1,h2,h3,h4,_⟩:=halfPx_parts l r
 unfold halfPx at h1 h2 h3 h4 ⊢
 rw [h1,h2,h3,h4]
 rfl
theorem pm6:predMode 6 l t c r=halfPx l c:=rfl
theorem pm7:predMode 7 l t c r=halfPx l t:=rfl
theorem pm8:predMode 8 l t c r=halfPx c t:=rfl
theorem pm9:predMode 9 l t c r=halfPx t r:=rfl
theorem pm10:predMode 10 l t c r=halfPx (halfPx l c) (halfPx t r):=by
 obtain ⟨h1,h2,h3,h4,_⟩:=halfPx_parts l c
 obtain ⟨g1,g2,g3,g4,_⟩:=halfPx_parts t r
 unfold halfPx at h1 h2 h3 h4 g1 g2 g3 g4 ⊢
 rw [h1,h2,h3,h4,g1,g2,g3,g4]
 rfl
theorem sumAb4 (p q:Nat):sumAb p q 4=absd (pR p) (pR q)+absd (pG p) (pG q)+absd (pB p) (pB q)+absd (pA p) (pA q):=by
 simp only [sumAb,ats,List.take,List.map,List.sum_cons,List.sum_nil,partN_A,partN_R,partN_G,partN_B]
 omega
theorem pm11:predMode 11 l t c r=if sumAb c t 4<sumAb c l 4 then l else t:=by
 rw [sumAb4,sumAb4]
 rfl
theorem pm12:predMode 12 l t c r=fullPx l t c:=rfl
theorem pm13:predMode 13 l t c r=beyondPx (halfPx l t) c:=by
 obtain ⟨h1,h2,h3,h4,_⟩:=halfPx_parts l t
 unfold beyondPx
 rw [h1,h2,h3,h4]
 rfl
end
theorem predicted_any (W:World) (pb po pc:Nat) (px:List Nat) (wd i m:Nat) (hr:Row W .u32 pb po px) (h32:∀ p ∈ px,p<2 ^ 32) (hw1:1≤wd) (hi:i<px.length) (hn:px.length≤1000000) (hwd:wd≤1000000) (hm:m<14) :
  Calls Tryd.prog 51 #[.slice (some ⟨pb,po,none⟩) px.length pc,.int .i64 (wd:Nat),.int .i64 (i:Nat),.int .i64 (m:Nat)] W fun e w' => e=.returned (.int .u32 (predS wd m px i:Nat))∧Frm [] W w':=by
 have H:St W [] [] W:=St.nil W []
 have hg:∀ j,j<px.length→W.cell? ⟨pb,po+j,none⟩=some (.int .u32 ((px.getD j 0:Nat):Int))∧px.getD j 0<2 ^ 32:=fun j hj => by
  have e:px.getD j 0=px[j]:=by simp [hj]
  rw [e]
  exact ⟨hr j hj,h32 _ (List.getElem_mem hj)⟩
 have hdv:i / wd≤i:=Nat.div_le_self _ _
 have hmd:i % wd<wd:=Nat.mod_lt _ hw1
 refine enter (m:=138) Tryd.func51 O Tryd.ntmps51 O (Cy (Lo O (AI O) (Lt (Cs (Cs (Cd mixedP (by kernel_rfl) ?_))))))
 intro w hsame
 replace H:=H.same hsame
 refine So O (YI O) (So O (YI O) (So O (Y.remr (r:=((i % wd:Nat):Int)) O O (by omega) rN) (So O (YI O) (So O (YI O) (So O (Y.quo (r:=((i / wd:Nat):Int)) O O (by omega) (q64 (by omega))) (So O (AI O) (So O (AI O) (Sn (tn (Cb ?_))))))))))
 by_cases hx:i % wd=0
 case pos =>
  by_cases hy:i / wd=0
  case pos =>
   refine Cy (Lo O (YI O) (Lo O (Y.eqlD (b:=true) O O (decide_eq_true (by omega))) (Lo O (Y.movB O) (LG O O O O (YI O) (LG O O O O (Y.eqlD (b:=true) O O (decide_eq_true (by omega))) (Lo O (Y.pick O O) (Lo O (Y.asgB O) (Lt ?_))))))))
   refine CB O (fun _ => ?_) (fun h => nomatch h)
   refine Cy (Lo O (AI O) (Lt (Ct (blk_r (thn_r ?_)))))
   exact Done.ret1 O O ⟨by unfold predS;rw [if_pos hy,if_pos hx];rfl,H.frm⟩
  have hwi:wd≤i:=Nat.le_of_not_lt fun h => hy (Nat.div_eq_of_lt h)
  obtain ⟨hc,_⟩:=hg (i - wd) (by omega)
  refine Cy (Lo O (YI O) (Lo O (Y.eqlD (b:=true) O O (decide_eq_true (by omega))) (Lo O (Y.movB O) (LG O O O O (YI O) (LG O O O O (Y.eqlD (b:=false) O O (decide_eq_false (by omega))) (Lo O (Y.pick O O) (Lo O (Y.asgB O) (Lt (CB O (fun h => nomatch h) (fun _ => (Cy (Lo O (YI O) (Lo O (Y.eql O O) (Lo O (Y.asgB O) (Lt (CF O (by omega) ?_))))))))))))))))
  refine Cy (Lo O (YI O) (Lo O (Y.eql O O) (Lo O (Y.asgB O) (Lt (CT O (by omega) (Cy (Lo O (YS O) (Lo O (YI O) (Lo O (YI O) (Lo O (Y.sub (r:=((i - wd:Nat):Int)) O O (s64 ⟨by omega,by omega⟩)) (Lo O (Y.ixS1 (i - wd) sl_22 O O O (by omega)) (Lo O (Y.ld ld_36 O (H.old hc (by simp))) (Lo O (AI O) (Lt (Ct ?_)))))))))))))))
  refine blk_r (thn_r ?_)
  exact Done.ret1 O O ⟨by unfold predS;rw [if_neg hy,if_pos hx];rfl,H.frm⟩
 have hi0:0<i:=Nat.pos_of_ne_zero fun e => hx (by rw [e];exact Nat.zero_mod _)
 obtain ⟨hcl,hl32⟩:=hg (i - 1) (by omega)
 by_cases hy:i / wd=0
 case pos =>
  refine Cy (Lo O (YI O) (Lo O (Y.eqlD (b:=false) O O (decide_eq_false (by omega))) (Lo O (Y.movB O) (VL.skipG O O O O O (VL.skipG O O O O O (Lo O (Y.pick O O) (Lo O (Y.asgB O) (Lt (CB O (fun h => nomatch h) (fun _ => (Cy (Lo O (YI O) (Lo O (Y.eql O O) (Lo O (Y.asgB O) (Lt (CT O (by omega) ?_))))))))))))))))
  refine Cy (Lo O (YS O) (Lo O (YI O) (Lo O (Y.sub (r:=((i - 1:Nat):Int)) O O (s64 (b:=1) ⟨by omega,by omega⟩)) (Lo O (Y.ixS1 (i - 1) sl_22 O O O (by omega)) (Lo O (Y.ld ld_36 O (H.old hcl (by simp))) (Lo O (AI O) (Lt (Ct (blk_r (thn_r ?_))))))))))
  exact Done.ret1 O O ⟨by unfold predS;rw [if_pos hy,if_neg hx];rfl,H.frm⟩
 have hwi:wd≤i:=Nat.le_of_not_lt fun h => hy (Nat.div_eq_of_lt h)
 have hwi2:wd<i:=Nat.lt_of_le_of_ne hwi fun e => hx (by rw [← e];exact Nat.mod_self _)
 have hw2:2≤wd:=Nat.lt_of_le_of_ne hw1 fun e => hx (by rw [← e];exact Nat.mod_one _)
 obtain ⟨hct,ht32⟩:=hg (i - wd) (by omega)
 obtain ⟨hcc,hc32⟩:=hg (i - wd - 1) (by omega)
 obtain ⟨hcr,hr32⟩:=hg (i - wd+1) (by omega)
 have hP:predS wd m px i=predMode m (px.getD (i - 1) 0) (px.getD (i - wd) 0) (px.getD (i - wd - 1) 0) (px.getD (i - wd+1) 0):=by unfold predS;rw [if_neg hy,if_neg hx]
 rw [hP]
 clear hP
 generalize px.getD (i - 1) 0=l at *
 generalize px.getD (i - wd) 0=t at *
 generalize px.getD (i - wd - 1) 0=c at *
 generalize px.getD (i - wd+1) 0=r at *
 refine Cy (Lo O (YI O) (Lo O (Y.eqlD (b:=false) O O (decide_eq_false (by omega))) (Lo O (Y.movB O) (VL.skipG O O O O O (VL.skipG O O O O O (Lo O (Y.pick O O) (Lo O (Y.asgB O) (Lt (CB O (fun h => nomatch h) (fun _ => (Cy (Lo O (YI O) (Lo O (Y.eql O O) (Lo O (Y.asgB O) (Lt (CF O (by omega) ?_))))))))))))))))
 refine Cy (Lo O (YI O) (Lo O (Y.eql O O) (Lo O (Y.asgB O) (Lt (CF O (by omega) (Ck (blk_n (tn (Cs (Cd mixedP (by kernel_rfl) ?_))))))))))
 intro w hsame
 replace H:=H.same hsame
 refine So O (YS O) (So O (YI O) (So O (Y.sub (r:=((i - 1:Nat):Int)) O O (s64 (b:=1) ⟨by omega,by omega⟩)) (So O (Y.ixS1 (i - 1) sl_22 O O O (by omega)) (So O (Y.ld ld_36 O (H.old hcl (by simp))) (So O (YS O) (So O (YI O) (So O (YI O) (So O (Y.sub (r:=((i - wd:Nat):Int)) O O (s64 ⟨by omega,by omega⟩)) (So O (Y.ixS1 (i - wd) sl_22 O O O (by omega)) (So O (Y.ld ld_36 O (H.old hct (by simp))) (So O (YS O) (So O (YI O) (So O (YI O) (So O (Y.sub (r:=((i - wd:Nat):Int)) O O (s64 ⟨by omega,by omega⟩)) (So O (Y.sub (r:=((i - wd - 1:Nat):Int)) O O (s64 (b:=1) ⟨by omega,by omega⟩)) (So O (Y.ixS1 (i - wd - 1) sl_22 O O O (by omega)) (So O (Y.ld ld_36 O (H.old hcc (by simp))) (So O (YS O) (So O (YI O) ?_)))))))))))))))))))
 refine So O (YI O) (So O (Y.sub (r:=((i - wd:Nat):Int)) O O (s64 ⟨by omega,by omega⟩)) (So O (Y.add (r:=((i - wd+1:Nat):Int)) O O (n64 (b:=1) (by omega))) (So O (Y.ixS1 (i - wd+1) sl_22 O O O (by omega)) (So O (Y.ld ld_36 O (H.old hcr (by simp))) (So O (AI O) (So O (AI O) (So O (AI O) (So O (AI O) (Sn (tn (Cs (Cy (Lo O (YI O) (Lt (Cb (Cy (Lo O (Y.eql O O) ?_)))))))))))))))))
 refine Lo O (Y.asgB O) (Lt ?_)
 by_cases h1:m=1
 case pos =>
  subst h1
  refine CT O (by omega) (Cy (Lo O (YI O) (Lo O (AI O) (Lt (Ct (blk_r (thn_r ?_)))))))
  exact Done.ret1 O O ⟨by rw [pm1 hl32];rfl,H.frm⟩
 refine CF O (by omega) (Cy (Lo O (Y.eql O O) (Lo O (Y.asgB O) (Lt ?_))))
 by_cases h2:m=2
 case pos =>
  subst h2
  refine CT O (by omega) (Cy (Lo O (YI O) (Lo O (AI O) (Lt (Ct (blk_r (thn_r ?_)))))))
  exact Done.ret1 O O ⟨by rw [pm2 ht32];rfl,H.frm⟩
 refine CF O (by omega) (Cy (Lo O (Y.eql O O) (Lo O (Y.asgB O) (Lt ?_))))
 by_cases h3:m=3
 case pos =>
  subst h3
  refine CT O (by omega) (Cy (Lo O (YI O) (Lo O (AI O) (Lt (Ct (blk_r (thn_r ?_)))))))
  exact Done.ret1 O O ⟨by rw [pm3 hr32];rfl,H.frm⟩
 refine CF O (by omega) (Cy (Lo O (Y.eql O O) (Lo O (Y.asgB O) (Lt ?_))))
 by_cases h4:m=4
 case pos =>
  subst h4
  refine CT O (by omega) (Cy (Lo O (YI O) (Lo O (AI O) (Lt (Ct (blk_r (thn_r ?_)))))))
  exact Done.ret1 O O ⟨by rw [pm4 hc32];rfl,H.frm⟩
 refine CF O (by omega) (Cy (Lo O (Y.eql O O) (Lo O (Y.asgB O) (Lt ?_))))
 by_cases h5:m=5
 case pos =>
  subst h5
  refine CT O (by omega) (Cy (Lo O (YI O) (Lo O (YI O) (VL.callP O ent_65 (half_any _ l r hl32 hr32) O (Lo O (YI O) (VL.callP O ent_65 (half_any _ (halfPx l r) t (halfPx_parts _ _).2.2.2.2 ht32) O (Lo O (AI O) (Lt (Ct (blk_r (thn_r ?_)))))))))))
  exact Done.ret1 O O ⟨by rw [pm5];rfl,H.frm⟩
 refine CF O (by omega) (Cy (Lo O (Y.eql O O) (Lo O (Y.asgB O) (Lt ?_))))
 by_cases h6:m=6
 case pos =>
  subst h6
  refine CT O (by omega) (Cy (Lo O (YI O) (Lo O (YI O) (VL.callP O ent_65 (half_any _ l c hl32 hc32) O (Lo O (AI O) (Lt (Ct (blk_r (thn_r ?_)))))))))
  exact Done.ret1 O O ⟨by rw [pm6];rfl,H.frm⟩
 refine CF O (by omega) (Cy (Lo O (Y.eql O O) (Lo O (Y.asgB O) (Lt ?_))))
 by_cases h7:m=7
 case pos =>
  subst h7
  refine CT O (by omega) (Cy (Lo O (YI O) (Lo O (YI O) (VL.callP O ent_65 (half_any _ l t hl32 ht32) O (Lo O (AI O) (Lt (Ct (blk_r (thn_r ?_)))))))))
  exact Done.ret1 O O ⟨by rw [pm7];rfl,H.frm⟩
 refine CF O (by omega) (Cy (Lo O (Y.eql O O) (Lo O (Y.asgB O) (Lt ?_))))
 by_cases h8:m=8
 case pos =>
  subst h8
  refine CT O (by omega) (Cy (Lo O (YI O) (Lo O (YI O) (VL.callP O ent_65 (half_any _ c t hc32 ht32) O (Lo O (AI O) (Lt (Ct (blk_r (thn_r ?_)))))))))
  exact Done.ret1 O O ⟨by rw [pm8];rfl,H.frm⟩
 refine CF O (by omega) (Cy (Lo O (Y.eql O O) (Lo O (Y.asgB O) (Lt ?_))))
 by_cases h9:m=9
 case pos =>
  subst h9
  refine CT O (by omega) (Cy (Lo O (YI O) (Lo O (YI O) (VL.callP O ent_65 (half_any _ t r ht32 hr32) O (Lo O (AI O) (Lt (Ct (blk_r (thn_r ?_)))))))))
  exact Done.ret1 O O ⟨by rw [pm9];rfl,H.frm⟩
 refine CF O (by omega) (Cy (Lo O (Y.eql O O) (Lo O (Y.asgB O) (Lt ?_))))
 by_cases h10:m=10
 case pos =>
  subst h10
  refine CT O (by omega) (Cy (Lo O (YI O) (Lo O (YI O) (VL.callP O ent_65 (half_any _ l c hl32 hc32) O (Lo O (YI O) (Lo O (YI O) (VL.callP O ent_65 (half_any _ t r ht32 hr32) O (VL.callP O ent_65 (half_any _ (halfPx l c) (halfPx t r) (halfPx_parts _ _).2.2.2.2 (halfPx_parts _ _).2.2.2.2) O (Lo O (AI O) (Lt (Ct (blk_r (thn_r ?_)))))))))))))
  exact Done.ret1 O O ⟨by rw [pm10];rfl,H.frm⟩
 refine CF O (by omega) (Cy (Lo O (Y.eql O O) (Lo O (Y.asgB O) (Lt ?_))))
 by_cases h11:m=11
 case pos =>
  subst h11
  refine CT O (by omega) (Cy (Lo O (YI O) (Lo O (YI O) (Lo O (YI O) (VL.call O ent_66 (nearer_any _ l t c hl32 ht32 hc32) O ?_)))))
  rintro e w ⟨he,hf⟩
  replace H:=H.quiet hf
  refine ⟨_,he,?_⟩
  refine Lo O (AI O) (Lt (Ct (blk_r (thn_r ?_))))
  exact Done.ret1 O O ⟨by rw [pm11];rfl,H.frm⟩
 refine CF O (by omega) (Cy (Lo O (Y.eql O O) (Lo O (Y.asgB O) (Lt ?_))))
 by_cases h12:m=12
 case pos =>
  subst h12
  refine CT O (by omega) (Cy (Lo O (YI O) (Lo O (YI O) (Lo O (YI O) (VL.call O ent_67 (full_any _ l t c hl32 ht32 hc32) O ?_)))))
  rintro e w ⟨he,hf⟩
  replace H:=H.quiet hf
  refine ⟨_,he,?_⟩
  refine Lo O (AI O) (Lt (Ct (blk_r (thn_r ?_))))
  exact Done.ret1 O O ⟨by rw [pm12];rfl,H.frm⟩
 refine CF O (by omega) (Cy (Lo O (Y.eql O O) (Lo O (Y.asgB O) (Lt ?_))))
 by_cases h13:m=13
 case pos =>
  subst h13
  refine CT O (by omega) (Cy (Lo O (YI O) (Lo O (YI O) (VL.callP O ent_65 (half_any _ l t hl32 ht32) O (Lo O (YI O) (VL.call O ent_68 (beyond_any _ (halfPx l t) c (halfPx_parts _ _).2.2.2.2 hc32) O ?_))))))
  rintro e w ⟨he,hf⟩
  replace H:=H.quiet hf
  refine ⟨_,he,?_⟩
  refine Lo O (AI O) (Lt (Ct (blk_r (thn_r ?_))))
  exact Done.ret1 O O ⟨by rw [pm13];rfl,H.frm⟩
 refine CF O (by omega) (Ck (blk_n (tn (Cy (Lo O (AI O) (Lt (Ct ?_)))))))
 obtain rfl:m=0:=by omega
 exact Done.ret1 O O ⟨rfl,H.frm⟩
def trV (kind bits wd:Nat) (iv:Value):List Value:=[.int .i64 (kind:Nat),.int .i64 (bits:Nat),.int .i64 (wd:Nat),iv]
theorem block_any (W:World) (kind bits wd ib ic i:Nat) (tpx:List Nat) (hr:Row W .u32 ib 0 tpx) (hw1:1≤wd) (hwd:wd≤1000000) (hb:bits≤9) (hi:i≤1000000) (hlt:blkAt wd bits i<tpx.length) (hn:tpx.length≤1000000) :
  Calls Tryd.prog 52 #[.agg (trV kind bits wd (.slice (some ⟨ib,0,none⟩) tpx.length ic)).toArray,.int .i64 (i:Nat)] W fun e w' => e=.returned (.int .u32 (tpx.getD (blkAt wd bits i) 0:Nat))∧Frm [] W w':=by
 have H:St W [] [] W:=St.nil W []
 have hcell:=hr _ hlt
 have e:tpx.getD (blkAt wd bits i) 0=tpx[blkAt wd bits i]:=by simp [hlt]
 rw [← e,Nat.zero_add] at hcell
 have d1:i / wd≤i:=Nat.div_le_self _ _
 have d2:i / wd / 2 ^ bits≤i / wd:=Nat.div_le_self _ _
 have d3:i % wd≤i:=Nat.mod_le _ _
 have d4:i % wd / 2 ^ bits≤i % wd:=Nat.div_le_self _ _
 have htl:=(tilesN_le (b:=bits) hw1).2
 have d5:i / wd / 2 ^ bits * tilesN wd bits≤1000000 * 1000000:=Nat.mul_le_mul (by omega) (by omega)
 have eb:i / wd / 2 ^ bits * tilesN wd bits+i % wd / 2 ^ bits=blkAt wd bits i:=by unfold blkAt;rw [Nat.mul_comm]
 refine enter (m:=30) Tryd.func52 O Tryd.ntmps52 O (Cy (VL.box H (cs:=trV kind bits wd (.slice (some ⟨ib,0,none⟩) tpx.length ic)) O O O ?_))
 intro w b2 hn2 hb2 H
 refine Lo O (AI O) (Lt (Cs (Cd mixedP (by kernel_rfl) ?_)))
 intro w hsame
 replace H:=H.same hsame
 refine So O (Y.fa fa_61_3 O) (So O (Y.ld ld_22 O (H.cell 0 (v:=.slice (some ⟨ib,0,none⟩) tpx.length ic) O O)) (So O (YI O) (So O (Y.fa fa_61_2 O) (So O (Y.ld ld_3 O (H.cell 0 (v:=.int .i64 (wd:Nat)) O O)) (So O (Y.quo (r:=((i / wd:Nat):Int)) O O (by omega) (q64 (by omega))) (So O (Y.fa fa_61_1 O) (So O (Y.ld ld_3 O (H.cell 0 (v:=.int .i64 (bits:Nat)) O O)) (So O (Y.shr (r:=((i / wd / 2 ^ bits:Nat):Int)) O O (by omega) (shrK (k:=.i64) (by show _≤(64:Nat);omega))) (So O (Y.fa fa_61_2 O) (So O (Y.ld ld_3 O (H.cell 0 (v:=.int .i64 (wd:Nat)) O O)) (So O (Y.fa fa_61_1 O) (So O (Y.ld ld_3 O (H.cell 0 (v:=.int .i64 (bits:Nat)) O O)) (VS.call O ent_24 (blocks_any _ wd bits hwd hb) O (So O (Y.mul (r:=((i / wd / 2 ^ bits * tilesN wd bits:Nat):Int)) O O (m64 (by omega))) (So O (YI O) (So O (Y.fa fa_61_2 O) (So O (Y.ld ld_3 O (H.cell 0 (v:=.int .i64 (wd:Nat)) O O)) (So O (Y.remr (r:=((i % wd:Nat):Int)) O O (by omega) rN) (So O (Y.fa fa_61_1 O) ?_)))))))))))))))))))
 refine So O (Y.ld ld_3 O (H.cell 0 (v:=.int .i64 (bits:Nat)) O O)) (So O (Y.shr (r:=((i % wd / 2 ^ bits:Nat):Int)) O O (by omega) (shrK (k:=.i64) (by show _≤(64:Nat);omega))) (So O (Y.add (r:=((blkAt wd bits i:Nat):Int)) O O (by rw [n64 (by omega),eb])) (So O (Y.ixS0 (blkAt wd bits i) sl_22 O O O hlt) (So O (Y.ld ld_36 O (H.old hcell (by simp))) (So O (AI O) (Sn (tn (Ct ?_))))))))
 exact Done.ret1 O O ⟨rfl,H.frm⟩
theorem wi8s_all:∀ x:Nat,x<256→IntKind.i8.wrap (x:Int)=sg x:=by decide
theorem wi8s {x:Nat} (h:x<256):IntKind.i8.wrap (x:Int)=sg x:=wi8s_all x h
theorem fdiv32 (x:Int):x.fdiv (2 ^ min (5:Int).toNat IntKind.i64.bits)=x / 32:=by
 show x.fdiv (2 ^ 5)=_
 rw [Int.fdiv_eq_ediv_of_nonneg _ (by decide)]
 rfl
theorem sdelta_any (W:World) (a b:Nat) (ha:a<256) (hb:b<256) :
  Calls Tryd.prog 53 #[.int .i64 (a:Nat),.int .i64 (b:Nat)] W fun e w' => e=.returned (.int .i64 (sg a * sg b / 32))∧w'=W:=by
 have sa:-128≤sg a∧sg a≤127:=by unfold sg;split <;> omega
 have sb:-128≤sg b∧sg b≤127:=by unfold sg;split <;> omega
 have hm:-16384≤sg a * sg b∧sg a * sg b≤16384:=by
  have h1:=Int.natAbs_mul (sg a) (sg b)
  have h2:(sg a).natAbs * (sg b).natAbs≤128 * 128:=Nat.mul_le_mul (by omega) (by omega)
  omega
 refine enter (m:=13) Tryd.func53 O Tryd.ntmps53 O (Cy (Lo O (AI O) (Lt (Cy (Lo O (YI O) (Lo O (Y.cv (r:=sg a) int_3_151 O (wi8s ha)) (Lo O (Y.cv (r:=sg a) int_151_3 O (w64 (by omega))) (Lo O (YI O) (Lo O (Y.cv (r:=sg b) int_3_151 O (wi8s hb)) (Lo O (Y.cv (r:=sg b) int_151_3 O (w64 (by omega))) (Lo O (Y.mul (r:=sg a * sg b) O O (w64 (by omega))) (Lo O (Y.shr (r:=sg a * sg b / 32) O O (by omega) (fdiv32 _)) (Lo O (AI O) (Lt (Ct ?_)))))))))))))))
 exact Done.ret1 O O ⟨rfl,rfl⟩
theorem deltaB_is (a b:Nat):(sg a * sg b / 32) % 256=((deltaB a b:Nat):Int):=by
 unfold deltaB
 omega
end Go.Proofs.YtinkhckpckfajaaDoor
set_option maxHeartbeats 1000000
namespace Go.Proofs.YtinkhckpckfajaaDoor
open Go
theorem mpt_seen:MPT Tryd.prog 101 .u32 (.bool false):=⟨_,_,_,rfl,rfl,rfl,rfl⟩
theorem mpt_kinds:MPT Tryd.prog 59 .i64 (.bool false):=⟨_,_,_,rfl,rfl,rfl,rfl⟩
theorem mpt_of:MPT Tryd.prog 121 .u32 (.int .i64 0):=⟨_,_,_,rfl,rfl,rfl,rfl⟩
def setM (cs:List Nat) (x:Int):Option Value:=bif cs.any (fun q => decide (((q:Nat):Int)=x)) then some (.bool true) else none
theorem setM_get (cs:List Nat) (p:Nat):(setM cs (p:Nat)).getD (.bool false)=.bool (decide (p ∈ cs)):=by
 unfold setM
 by_cases h:p ∈ cs
 ·rw [show cs.any (fun q => decide (((q:Nat):Int)=((p:Nat):Int)))=true from List.any_eq_true.2 ⟨p,h,by simp⟩]
  simp [h]
 ·rw [show cs.any (fun q => decide (((q:Nat):Int)=((p:Nat):Int)))=false from by
   rw [List.any_eq_false]
   intro q hq hqp
   have:q=p:=by have:=of_decide_eq_true hqp;omega
   exact h (this ▸ hq)]
  simp [h]
theorem setM_put (cs:List Nat) (p:Nat):(fun y => if y=((p:Nat):Int) then some (.bool true) else setM cs y)=setM (cs++[p]):=by
 funext y
 unfold setM
 rw [List.any_append]
 by_cases h:y=((p:Nat):Int)
 ·subst h;simp
 ·have:¬ ((p:Nat):Int)=y:=fun e => h e.symm
  simp [h,this]
def colStep (cs:List Nat) (p:Nat):List Nat:=if p ∉ cs∧cs.length<257 then cs++[p] else cs
def colGo (px:List Nat):List Nat:=px.foldl colStep []
theorem colGo_succ {px:List Nat} {i:Nat} (h:i<px.length):colGo (px.take (i+1))=colStep (colGo (px.take i)) px[i]:=by
 unfold colGo
 rw [List.take_succ_eq_append_getElem h,List.foldl_append]
 rfl
structure ColsOf (px cs:List Nat):Prop where
 le:cs.length≤257
 nodup:cs.Nodup
 sub:∀ q ∈ cs,q ∈ px
 all:cs.length≤256→∀ p ∈ px,p ∈ cs
theorem colGo_ok:∀ (px cs pre:List Nat),ColsOf pre cs→ColsOf (pre++px) (px.foldl colStep cs)
 | [],cs,pre,h => by simpa using h
 | p :: r,cs,pre,h => by
  rw [List.foldl_cons,show pre++p :: r=(pre++[p])++r by simp]
  refine colGo_ok r (colStep cs p) (pre++[p]) ?_
  unfold colStep
  by_cases hc:p ∉ cs∧cs.length<257
  ·rw [if_pos hc]
   refine ⟨by simp;omega,?_,fun q hq => ?_,fun hl q hq => ?_⟩
   ·rw [List.nodup_append]
    exact ⟨h.nodup,by simp,fun a ha b hb => by simp at hb;subst hb;exact fun e => hc.1 (e ▸ ha)⟩
   ·rcases List.mem_append.1 hq with hq | hq
    ·exact List.mem_append_left _ (h.sub q hq)
    ·exact List.mem_append_right _ hq
   ·simp at hl
    rcases List.mem_append.1 hq with hq | hq
    ·exact List.mem_append_left _ (h.all (by omega) q hq)
    ·exact List.mem_append_right _ hq
  ·rw [if_neg hc]
   refine ⟨h.le,h.nodup,fun q hq => List.mem_append_left _ (h.sub q hq),fun hl q hq => ?_⟩
   rcases List.mem_append.1 hq with hq | hq
   ·exact h.all hl q hq
   ·simp at hq
    subst hq
    exact Classical.byContradiction fun hn => hc ⟨hn,by omega⟩
theorem colGo_cols (px:List Nat):ColsOf px (colGo px):=by
 have:=colGo_ok px [] [] ⟨by simp,by simp,by simp,by simp⟩
 simpa [colGo] using this
theorem ColsOf.pos {px cs:List Nat} (h:ColsOf px cs) (hp:px≠[]):1≤cs.length:=by
 by_cases hl:cs.length≤256
 ·obtain ⟨p,hpx⟩:=List.exists_mem_of_ne_nil px hp
  have:=h.all hl p hpx
  exact List.length_pos_iff.2 (List.ne_nil_of_mem this)
 ·omega
theorem colors_any (W:World) (pb po pc:Nat) (px:List Nat) (hr:Row W .u32 pb po px) (hn:px.length≤1000000) :
  Calls Tryd.prog 23 #[.slice (some ⟨pb,po,none⟩) px.length pc] W fun e w' => ∃ a c,e=.returned (.slice a (colGo px).length c)∧VecOk w' a c 36 1 (colGo px).length (nums .u32 (colGo px))∧(∀ x ∈ footA a,W.heap.size≤x)∧Frm [] W w':=by
 have H:St W [] [] W:=St.nil W []
 refine enter (m:=31) Tryd.func23 O Tryd.ntmps23 O (Cy (Lo O (Y.asg O) (Lt (Cy (VL.makeMap .u32 H O ?_)))))
 intro w mb hnm hbm H
 refine Lo O (Y.asg O) (Lt ?_)
 replace H:=H.vec0 36 1
 refine Cy (Lo O (Y.asg O) (Lt (Cs (Cy (Lo O (YS O) (Lo O (Y.len sl_22 O) (Lo O (YI O) (Lt ?_))))))))
 refine VC.join (fun ρ w' => ∃ a c mb,ρ 4=.slice a (colGo px).length c∧St W [] [vecR a c 36 1 (colGo px).length (nums .u32 (colGo px)),mapR .u32 mb (setM (colGo px))] w') ?_ ?_
 case refine_1 =>
  refine Cb ?_
  refine Cl (fun mm ρ w' => ∃ i a c,i≤px.length∧mm=px.length - i∧ρ 3=.map (some mb)∧ρ 4=.slice a (colGo (px.take i)).length c∧ρ 8=.slice (some ⟨pb,po,none⟩) px.length pc∧ρ 9=.int .i64 (px.length:Nat)∧ρ 10=.int .i64 (i:Nat)∧St W [] [vecR a c 36 1 (colGo (px.take i)).length (nums .u32 (colGo (px.take i))),mapR .u32 mb (setM (colGo (px.take i)))] w') px.length
   ⟨0,none,0,by omega,rfl,rfl,rfl,rfl,rfl,rfl,H⟩ ?_
  clear H
  rintro mm ρ w5 ⟨i,a,c,hi,hmm,h3,h4,h8,h9,h10,H⟩
  refine Cy (Lo O (Y.lss (by assumption) (by assumption)) (Lt ?_))
  by_cases hy:i=px.length
  case pos =>
   subst hy
   refine Cs (CF O (by omega) (Cx (thn_x (thn_x (blk_x (tn ?_))))))
   rw [List.take_length] at H h4
   exact ⟨a,c,mb,h4,H⟩
  have hlt:i<px.length:=by omega
  have eg:=colGo_succ hlt
  obtain ⟨p,hp⟩:∃ p,p=px[i]:=⟨_,rfl⟩
  rw [← hp] at eg
  have hrow:W.cell? ⟨pb,po+i,none⟩=some (.int .u32 (p:Nat)):=hp ▸ hr i hlt
  have hS:pb ∉ ([]:List Nat):=List.not_mem_nil
  have hle:=(colGo_cols (px.take i)).le
  obtain ⟨cs,hcs⟩:∃ cs,cs=colGo (px.take i):=⟨_,rfl⟩
  rw [← hcs] at eg h4 H hle
  clear hcs
  refine Cs (CT O (by omega) (Ck (tn (Cs (Cb (Cy (Lo O (Y.ixS1 i sl_22 h8 h10 O hlt) (Lo O (Y.ld ld_36 O (H.old (by assumption) (by assumption))) (Lo O (AI O) (Lt ?_))))))))))
  by_cases hin:p ∈ cs
  case pos =>
   have es:(setM cs (p:Nat)).getD (.bool false)=.bool true:=by rw [setM_get,decide_eq_true hin]
   refine Cy (Lo O (Y.mov h3) (Lo O (YI O) (Lo O (Y.lookE 1 H mpt_seen O O O es) (Lo O (Y.not O) (Lo O (Y.movB O) (VL.skipG O O O O O (VL.skipG O O O O O (VL.skipG O O O O O (Lo O (Y.pick O O) (Lt (CB O (fun h => nomatch h) (fun _ => (Ck (blk_n (tn (Cr (Lo O (Y.add (r:=((i+1:Nat):Int)) h10 O (n64 (b:=1) (by omega))) (Lo O (YI O) (Ln ?_)))))))))))))))))))
   refine tn ?_
   have e2:colGo (px.take (i+1))=cs:=by rw [eg];unfold colStep;rw [if_neg (fun h => h.1 hin)]
   exact ⟨px.length - (i+1),by omega,i+1,a,c,by omega,rfl,h3,by rw [e2];exact h4,h8,h9,rfl,by rw [e2];exact H⟩
  have es:(setM cs (p:Nat)).getD (.bool false)=.bool false:=by rw [setM_get,decide_eq_false hin]
  refine Cy (Lo O (Y.mov h3) (Lo O (YI O) (Lo O (Y.lookE 1 H mpt_seen O O O es) (Lo O (Y.not O) (Lo O (Y.movB O) (LG O O O O (YS h4) (LG O O O O (Y.len sl_22 O) (LG O O O O (Y.lss O O) (Lo O (Y.pick O O) (Lt ?_))))))))))
  by_cases hfull:cs.length<257
  case neg =>
   refine CF O (by omega) (Ck (blk_n (tn (Cr (Lo O (Y.add (r:=((i+1:Nat):Int)) h10 O (n64 (b:=1) (by omega))) (Lo O (YI O) (Lt ?_)))))))
   have e2:colGo (px.take (i+1))=cs:=by rw [eg];unfold colStep;rw [if_neg (fun h => hfull h.2)]
   exact ⟨px.length - (i+1),by omega,i+1,a,c,by omega,rfl,h3,by rw [e2];exact h4,h8,h9,rfl,by rw [e2];exact H⟩
  refine CT O (by omega) (Cy (Lo O (Y.mov h3) (Lo O (YI O) (VL.mapUpdate (v:=.bool true) 1 H mpt_seen O O O O ?_))))
  intro w H
  rw [setM_put] at H
  refine Lt (Cr (Lo O (YS h4) (Lo O (YI O) (VL.bslice H mk_22 (nums .u32 [p]) O O (by decide) (by decide) (by kernel_rfl) ?_))))
  intro w b12 hn12 hb12 H
  refine VL.append H 1 mk_22 (by decide) O O O O (news:=nums .u32 [p]) O (fun j u hj => by rw [Nat.zero_add];exact H.cell 0 O hj) (nums_one _ _) (by simp only [maxLen];omega) (by omega) ?_
  intro a' c' w hfa H
  replace H:St W [] [vecR a' c' 36 1 (cs++[p]).length (nums .u32 (cs++[p])),mapR .u32 mb (setM (cs++[p]))] w:=by rw [nums_append,List.length_append];exact H.sub [1,2] rfl (by decide)
  refine Lo O (AS O) (Ln (blk_n (tn (Cr (Lo O (Y.add (r:=((i+1:Nat):Int)) h10 O (n64 (b:=1) (by omega))) (Lo O (YI O) (Lt ?_)))))))
  have e2:colGo (px.take (i+1))=cs++[p]:=by rw [eg];unfold colStep;rw [if_pos ⟨hin,hfull⟩]
  exact ⟨px.length - (i+1),by omega,i+1,a',c',by omega,rfl,h3,by rw [e2,List.length_append];rfl,h8,h9,rfl,by rw [e2];exact H⟩
 case refine_2 =>
 clear H
 rintro ρ w5 ⟨a,c,mb,h4,H⟩
 refine Cy (Lo O (YS (by assumption)) (Lo O (AS O) (Lt (Ct ?_))))
 exact Done.ret1 O O ⟨a,c,rfl,H.get (i:=0) rfl,fun x hx => by
  rcases H.own _ (List.mem_cons_self ..) x hx with h | h
  ·simp at h
  ·exact h,H.frm⟩
end Go.Proofs.YtinkhckpckfajaaDoor
set_option maxHeartbeats 2000000
namespace Go.Proofs.YtinkhckpckfajaaDoor
open Go
theorem tilesN_lt {n b y:Nat} (h:y<n):y / 2 ^ b<tilesN n b:=by
 have hp:=Nat.two_pow_pos b
 unfold tilesN
 refine (Nat.le_div_iff_mul_le hp).2 ?_
 have:=Nat.div_mul_le_self y (2 ^ b)
 rw [Nat.succ_mul]
 omega
theorem blkAt_lt {wd ht b i:Nat} (hw:1≤wd) (hi:i<wd * ht):blkAt wd b i<tilesN wd b * tilesN ht b:=by
 have h1:i / wd<ht:=Nat.div_lt_of_lt_mul hi
 have h2:=tilesN_lt (b:=b) h1
 have h3:=tilesN_lt (b:=b) (Nat.mod_lt i hw)
 have h4:=Nat.mul_le_mul_left (tilesN wd b) (show i / wd / 2 ^ b+1≤tilesN ht b from h2)
 unfold blkAt
 rw [Nat.mul_succ] at h4
 omega
theorem VH.one {P:Program} {n:Nat} {Q:Post} {I:World→Prop} {fuel:Nat} {listed:Array Bool} {ρ:Env} {w:World} {l:List Oper} (i:Nat) (hr:Region.ready .any l.toArray listed=[i])
  (h:VO P n l.toArray Q i (fun ρ' w' => I w'∧VH P n l.toArray Q I fuel (listed.setIfInBounds i true) ρ' w') ρ w):VH P n l.toArray Q I (fuel+1) listed ρ w :=
 VH.all hr (by simp) fun j hj => by
  obtain rfl:j=i:=by simpa using hj
  exact h
theorem getD_lt32 {px:List Nat} (h:∀ q ∈ px,q<2 ^ 32) (j:Nat):px.getD j 0<2 ^ 32:=by
 by_cases hj:j<px.length
 ·have e:px.getD j 0=px[j]:=by simp [hj]
  rw [e]
  exact h _ (List.getElem_mem hj)
 ·have e:px.getD j 0=0:=by simp [hj]
  rw [e]
  decide
theorem predMode_lt {m l t tl tr:Nat} (hl:l<2 ^ 32) (ht:t<2 ^ 32):predMode m l t tl tr<2 ^ 32:=by
 obtain ⟨a1,a2,a3,a4⟩:=parts_lt l
 obtain ⟨b1,b2,b3,b4⟩:=parts_lt t
 obtain ⟨c1,c2,c3,c4⟩:=parts_lt tl
 obtain ⟨d1,d2,d3,d4⟩:=parts_lt tr
 unfold predMode
 split
 ·decide
 ·split
  ·split
   ·exact hl
   ·exact ht
  ·exact (argb_parts (chP_lt a1 b1 c1 d1) (chP_lt a2 b2 c2 d2) (chP_lt a3 b3 c3 d3) (chP_lt a4 b4 c4 d4)).2.2.2.2
theorem predPx_lt (w b:Nat) (tpx acc:List Nat) (h:∀ q ∈ acc,q<2 ^ 32):predPx w b tpx acc<2 ^ 32:=by
 unfold predPx
 split
 ·split
  ·decide
  ·exact getD_lt32 h _
 ·split
  ·exact getD_lt32 h _
  ·exact predMode_lt (getD_lt32 h _) (getD_lt32 h _)
theorem partN0 (p:Nat):partN p 0=pB p:=by unfold partN pB;simp
theorem sgm {a b:Nat} (ha:a<256) (hb:b<256):-512≤sg a * sg b / 32∧sg a * sg b / 32≤512:=by
 have sa:-128≤sg a∧sg a≤127:=by unfold sg;split <;> omega
 have sb:-128≤sg b∧sg b≤127:=by unfold sg;split <;> omega
 have h1:=Int.natAbs_mul (sg a) (sg b)
 have h2:(sg a).natAbs * (sg b).natAbs≤128 * 128:=Nat.mul_le_mul (by omega) (by omega)
 omega
theorem cross1 {r d:Nat} {D:Int} (h:D % 256=(d:Int)) (hd:d<256):((r:Int) - D) % 256=(((r+256 - d) % 256:Nat):Int):=by omega
theorem cross2 {b d e:Nat} {D E:Int} (h:D % 256=(d:Int)) (h2:E % 256=(e:Int)) (hd:d<256) (he:e<256):((b:Int) - D - E) % 256=(((b+512 - d - e) % 256:Nat):Int):=by omega
def idxM (cs:List Nat) (x:Int):Option Value:=bif cs.any (fun q => decide (((q:Nat):Int)=x)) then some (.int .i64 (cs.idxOf x.toNat:Nat)) else none
theorem any_in {cs:List Nat} {p:Nat} (h:p ∈ cs):cs.any (fun q => decide (((q:Nat):Int)=((p:Nat):Int)))=true:=List.any_eq_true.2 ⟨p,h,by simp⟩
theorem idxM_get {cs:List Nat} {p:Nat} (h:p ∈ cs):(idxM cs (p:Nat)).getD (.int .i64 0)=.int .i64 (idxIn cs p:Nat):=by
 unfold idxM
 rw [any_in h]
 simp [idxIn]
theorem idxM_put {cs:List Nat} {p:Nat} (h:p ∉ cs):(fun y => if y=((p:Nat):Int) then some (.int .i64 (cs.length:Nat)) else idxM cs y)=idxM (cs++[p]):=by
 funext y
 unfold idxM
 rw [List.any_append]
 by_cases hy:y=((p:Nat):Int)
 ·subst hy
  simp [List.idxOf_append,h]
 ·have hne:¬ ((p:Nat):Int)=y:=fun e => hy e.symm
  rw [if_neg hy]
  simp only [List.any_cons,List.any_nil,Bool.or_false,decide_eq_false hne]
  cases hc:cs.any (fun q => decide (((q:Nat):Int)=y)) with
  | false => rfl
  | true =>
   obtain ⟨q,hq,hqy⟩:=List.any_eq_true.1 hc
   have e:((q:Nat):Int)=y:=of_decide_eq_true hqy
   subst e
   simp [List.idxOf_append,hq]
theorem range_map_succ (f:Nat→Nat) (i:Nat):(List.range (i+1)).map f=(List.range i).map f++[f i]:=by rw [List.range_succ,List.map_append];rfl
section
variable {P:Program} {w w0:World} {S:List Nat} {l:List Res}
theorem vec_end {ub:Option Addr} {c e k n:Nat} {xs:List Value} {r:List Res} {W w:World} (H:St W [] (vecR ub c e k n xs :: r) w):VecOk w ub c e k n xs∧(∀ x ∈ footA ub,W.heap.size≤x)∧Frm [] W w :=
 ⟨H.get (i:=0) rfl,fun x hx => by
  rcases H.own _ (List.mem_cons_self ..) x hx with h | h
  ·simp at h
  ·exact h,H.frm⟩
end
theorem do_any (W:World) (t:Tr) (ht pb po pc:Nat) (px:List Nat) (iv:Value) (hk:t.kind≤3) (hw1:1≤t.wd) (hht:1≤ht) (hb:t.bits≤9) (hr:Row W .u32 pb po px) (h32:∀ p ∈ px,p<2 ^ 32) (hl:px.length=t.wd * ht) (hn:px.length≤4096)
  (hiv:t.kind≠2→∃ ib ic,iv=.slice (some ⟨ib,0,none⟩) t.px.length ic∧Row W .u32 ib 0 t.px) (h01:t.kind≤1→t.px.length=tilesN t.wd t.bits * tilesN ht t.bits∧∀ p ∈ t.px,p<2 ^ 32) (h0:t.kind=0→∀ q ∈ t.px,pG q<14)
  (h3:t.kind=3→Palette t px∧t.px.Nodup) (htn:t.px.length≤4096) :
  Calls Tryd.prog 27 #[.agg (trV t.kind t.bits t.wd iv).toArray,.slice (some ⟨pb,po,none⟩) px.length pc,.int .i64 (ht:Nat)] W fun e w' => ∃ a c,e=.returned (.slice a (fwd1 ht t px).length c)∧VecOk w' a c 36 1 (fwd1 ht t px).length (nums .u32 (fwd1 ht t px))∧(∀ x ∈ footA a,W.heap.size≤x)∧Frm [] W w':=by
 obtain ⟨kind,wd,bits,tpx⟩:=t
 simp only at hk hw1 hb hl hiv h01 h0 h3 htn ⊢
 have hwd:wd≤4096:=by
  have:=Nat.mul_le_mul_left wd hht
  omega
 have hht2:ht≤4096:=by
  have:=Nat.mul_le_mul_right ht hw1
  omega
 have H:St W [] [] W:=St.nil W []
 have hpb:pb ∉ ([]:List Nat):=List.not_mem_nil
 have hcell:∀ i,i<px.length→W.cell? ⟨pb,po+i,none⟩=some (.int .u32 ((px.getD i 0:Nat):Int))∧px.getD i 0<2 ^ 32:=fun i hi => by
  have e:px.getD i 0=px[i]:=by simp [hi]
  rw [e]
  exact ⟨hr i hi,h32 _ (List.getElem_mem hi)⟩
 have hblk:kind≤1→∀ i,i<px.length→blkAt wd bits i<tpx.length:=fun h i hi => by
  rw [(h01 h).1]
  exact blkAt_lt hw1 (by omega)
 have htlen:=htn
 refine enter (m:=198) Tryd.func27 O Tryd.ntmps27 O (Cy (VL.box H (cs:=trV kind bits wd iv) O O O ?_))
 intro w b3 hn3 hb3 H
 refine Lo O (Y.asg O) (Lt (Cy (Lo O (Y.asg O) (Lt ?_))))
 replace H:=H.vec0 36 1
 have hT0:∀ {l:List Res} {w:World},St W [] (vecR none 0 36 1 0 [] :: blkR b3 (trV kind bits wd iv) 61 :: l) w→True:=fun _ => trivial
 refine Cs (Cy (Lo O (Y.fa fa_61_0 O) (Lo O (Y.ld ld_3 O (H.cell 1 (v:=.int .i64 (kind:Nat)) O O)) (Lt ?_))))
 refine VC.join (fun ρ w' => ∃ a c rs,ρ 7=.slice a (fwd1 ht ⟨kind,wd,bits,tpx⟩ px).length c∧St W [] (vecR a c 36 1 (fwd1 ht ⟨kind,wd,bits,tpx⟩ px).length (nums .u32 (fwd1 ht ⟨kind,wd,bits,tpx⟩ px)) :: rs) w') ?_ ?_
 case refine_2 =>
  clear H
  rintro ρ w5 ⟨a,c,rs,h7,H⟩
  refine Cy (Lo O (YS (by assumption)) (Lo O (AS O) (Lt (Ct ?_))))
  obtain ⟨q1,q2,q3⟩:=vec_end H
  exact Done.ret1 O O ⟨a,c,rfl,q1,q2,q3⟩
 case refine_1 =>
 refine Cb ?_
 by_cases hk0:kind=0
 case pos =>
  subst hk0
  obtain ⟨ib,ic,rfl,hri⟩:=hiv (by decide)
  have hst:∀ i,i<px.length→(List.range (i+1)).map (fun i => lessPx (px.getD i 0) (predPx wd bits tpx (px.take i)))=(List.range i).map (fun i => lessPx (px.getD i 0) (predPx wd bits tpx (px.take i)))++[lessPx (px.getD i 0) (predPx wd bits tpx (px.take i))]:=fun i _ => range_map_succ _ i
  have hfw:fwd1 ht ⟨0,wd,bits,tpx⟩ px=(List.range px.length).map fun i => lessPx (px.getD i 0) (predPx wd bits tpx (px.take i)):=by unfold fwd1;rw [if_pos rfl]
  rw [hfw]
  refine Cy (Lo O (Y.eql O O) (Lo O (Y.asgB O) (Lt (CT O (by omega) (Cy (Lo O (YS O) (Lo O (Y.len sl_22 O) (Lo O (YI O) (Lt (Cb ?_))))))))))
  refine Cl (fun mm ρ w' => ∃ i a c,i≤px.length∧mm=px.length - i∧ρ 1=.slice (some ⟨pb,po,none⟩) px.length pc∧ρ 3=.pointer (some ⟨b3,0,none⟩)∧ρ 7=.slice a i c∧ρ 31=.slice (some ⟨pb,po,none⟩) px.length pc∧ρ 32=.int .i64 (px.length:Nat)∧ρ 33=.int .i64 (i:Nat) ∧
    St W [] [vecR a c 36 1 i (nums .u32 ((List.range i).map fun i => lessPx (px.getD i 0) (predPx wd bits tpx (px.take i)))),blkR b3 (trV 0 bits wd (.slice (some ⟨ib,0,none⟩) tpx.length ic)) 61] w') px.length
   ⟨0,none,0,by omega,rfl,rfl,rfl,rfl,rfl,rfl,rfl,H⟩ ?_
  clear H
  rintro mm ρ w5 ⟨i,a,c,hi,hmm,r1,r3,r7,r31,r32,r33,H⟩
  refine Cy (Lo O (Y.lss r33 r32) (Lt ?_))
  by_cases hlt:i<px.length
  case neg =>
   obtain rfl:i=px.length:=by omega
   refine Cs (CF O (by omega) (Cx (thn_x (thn_x (blk_x (blk_n (tn ?_)))))))
   exact ⟨a,c,_,by show ρ 7=_;rw [r7];simp,by simpa using H⟩
  obtain ⟨hc1,hp32⟩:=hcell i hlt
  have hbl:=hblk (by decide) i hlt
  have hm14:pG (tpx.getD (blkAt wd bits i) 0)<14:=by
   have e:tpx.getD (blkAt wd bits i) 0=tpx[blkAt wd bits i]:=by simp [hbl]
   rw [e]
   exact h0 O _ (List.getElem_mem hbl)
  have hT32:tpx.getD (blkAt wd bits i) 0<2 ^ 32:=by
   have e:tpx.getD (blkAt wd bits i) 0=tpx[blkAt wd bits i]:=by simp [hbl]
   rw [e]
   exact (h01 (by decide)).2 _ (List.getElem_mem hbl)
  have epart:partN (tpx.getD (blkAt wd bits i) 0) 8=pG (tpx.getD (blkAt wd bits i) 0):=rfl
  have epred:=predS_px (b:=bits) (tpx:=tpx) hw1 hlt hm14
  have hps32:predS wd (pG (tpx.getD (blkAt wd bits i) 0)) px i<2 ^ 32:=by
   rw [← epred]
   exact predPx_lt _ _ _ _ fun q hq => h32 q (List.mem_of_mem_take hq)
  refine Cs (CT O (by omega) (Ck (tn (Cs (Cb (Cy (Lo O (YI r33) (Lo O (Y.ixS1 i sl_22 r31 r33 O hlt) (Lo O (Y.ld ld_36 O (H.old hc1 hpb)) (Lo O (AI O) (Lo O (AI O) (Lt ?_))))))))))))
  have hbk:Blk w5 b3 (trV 0 bits wd (.slice (some ⟨ib,0,none⟩) tpx.length ic)) 61:=H.blk (i:=1) rfl
  refine VC.joinB (fun ρ w' => ∃ a' c',ρ 1=.slice (some ⟨pb,po,none⟩) px.length pc∧ρ 3=.pointer (some ⟨b3,0,none⟩)∧ρ 7=.slice a' (i+1) c'∧ρ 31=.slice (some ⟨pb,po,none⟩) px.length pc∧ρ 32=.int .i64 (px.length:Nat)∧ρ 33=.int .i64 (i:Nat) ∧
    St W [] [vecR a' c' 36 1 (i+1) (nums .u32 ((List.range (i+1)).map fun i => lessPx (px.getD i 0) (predPx wd bits tpx (px.take i)))),blkR b3 (trV 0 bits wd (.slice (some ⟨ib,0,none⟩) tpx.length ic)) 61] w') ?_ ?_
  case refine_1 =>
   refine VC.held ((fun w' => Blk w' b3 (trV 0 bits wd (.slice (some ⟨ib,0,none⟩) tpx.length ic)) 61)) mixedP (by with_reducible repeat (first | refine NoP.thn ?_ | refine NoP.blk ?_ | refine NoP.jmp ?_ | refine NoP.nojmp ?_ | exact NoP.done)) ?_
   intro w hsame
   replace H:=H.same hsame
   refine Ht 0 O (by kernel_rfl) (by kernel_rfl) (by kernel_rfl) O (H.blk (i:=1) O) (fun w hI => YS r7) (Ht 1 O (by kernel_rfl) (by kernel_rfl) (by kernel_rfl) O (H.blk (i:=1) O) (fun w hI => YI O) (Ht 2 O (by kernel_rfl) (by kernel_rfl) (by kernel_rfl) O (H.blk (i:=1) O) (fun w hI => YS r1) (Ht 3 O (by kernel_rfl) (by kernel_rfl) (by kernel_rfl) O (H.blk (i:=1) O) (fun w hI => Y.fa fa_61_2 r3) (Ht 4 O (by kernel_rfl) (by kernel_rfl) (by kernel_rfl) O (H.blk (i:=1) O) (fun w hI => Y.ld ld_3 O (hI.cellv (v:=.int .i64 (wd:Nat)) O)) (Ht 5 O (by kernel_rfl) (by kernel_rfl) (by kernel_rfl) O (H.blk (i:=1) O) (fun w hI => YI O) (Ht 6 O (by kernel_rfl) (by kernel_rfl) (by kernel_rfl) O (H.blk (i:=1) O) (fun w hI => Y.ldn (cs:=trV 0 bits wd (.slice (some ⟨ib,0,none⟩) tpx.length ic)) ldn_61 r3 O (fun j hj => by rw [Nat.zero_add];exact hI.cell j)) (Ht 7 O (by kernel_rfl) (by kernel_rfl) (by kernel_rfl) O (H.blk (i:=1) O) (fun w hI => YI O) (VH.call 8 O (by kernel_rfl) O ent_52 (block_any w 0 bits wd ib ic i tpx (hri.keep H.frm List.not_mem_nil) hw1 (by omega) hb (by omega) hbl (by omega)) O ?_))))))))
   rintro e w ⟨he,hf⟩
   replace H:=H.quiet hf
   refine ⟨_,he,H.blk (i:=1) rfl,?_⟩
   refine VH.call 9 O (by kernel_rfl) O ent_44 (part_any w _ 8 hT32 (by decide)) O ?_
   rintro e w ⟨he,rfl⟩
   refine ⟨_,he,H.blk (i:=1) rfl,?_⟩
   refine VH.call 10 O (by kernel_rfl) O ent_51 (predicted_any w pb po pc px wd i _ (hr.keep H.frm hpb) h32 hw1 hlt (by omega) (by omega) hm14) O ?_
   rintro e w ⟨he,hf⟩
   replace H:=H.quiet hf
   refine ⟨_,he,H.blk (i:=1) rfl,?_⟩
   refine VH.call 11 O (by kernel_rfl) O ent_29 (less_any w _ _ hp32 hps32) O ?_
   rintro e w ⟨he,rfl⟩
   refine ⟨_,he,H.blk (i:=1) rfl,?_⟩
   rw [← epred]
   refine VH.one 12 (by kernel_rfl) (VO.bslice O H mk_22 (nums .u32 [lessPx (px.getD i 0) (predPx wd bits tpx (px.take i))]) O O (by decide) (by decide) (by kernel_rfl) ?_)
   intro w b12 hn12 _ H
   refine ⟨H.blk (i:=2) rfl,?_⟩
   refine VH.one 13 (by kernel_rfl) (VO.append O H 1 mk_22 (by decide) O O O O (news:=nums .u32 [lessPx (px.getD i 0) (predPx wd bits tpx (px.take i))]) O (fun j u hj => by rw [Nat.zero_add];exact H.cell 0 O hj) (nums_one _ _) (by simp only [maxLen];omega) (by omega) ?_)
   intro a' c' w hfa H
   refine ⟨H.blk (i:=2) rfl,?_⟩
   replace H:St W [] [vecR a' c' 36 1 (i+1) (nums .u32 ((List.range (i+1)).map fun i => lessPx (px.getD i 0) (predPx wd bits tpx (px.take i)))),blkR b3 (trV 0 bits wd (.slice (some ⟨ib,0,none⟩) tpx.length ic)) 61] w:=by rw [hst i hlt,nums_append];exact H.sub [1,2] rfl (by decide)
   refine Ht 14 O (by kernel_rfl) (by kernel_rfl) (by kernel_rfl) O (H.blk (i:=1) O) (fun w hI => AS O) (VH.nil (by kernel_rfl) (blk_n (tn ?_)))
   exact ⟨a',c',r1,r3,rfl,r31,r32,r33,H⟩
  case refine_2 =>
  clear H r1 r3 r7 r31 r32 r33
  rintro ρ w6 ⟨a',c',r1,r3,r7,r31,r32,r33,H⟩
  refine Cr (Lo O (Y.add (r:=((i+1:Nat):Int)) r33 O (n64 (b:=1) (by omega))) (Lo O (YI O) (Lt ?_)))
  exact ⟨px.length - (i+1),by omega,i+1,a',c',by omega,rfl,r1,r3,r7,r31,r32,rfl,H⟩
 refine Cy (Lo O (Y.eql O O) (Lo O (Y.asgB O) (Lt (CF O (by omega) (Cy (Lo O (Y.eql O O) (Lo O (Y.asgB O) (Lt ?_))))))))
 by_cases hk1:kind=1
 case pos =>
  subst hk1
  obtain ⟨ib,ic,rfl,hri⟩:=hiv (by decide)
  have hst:∀ i,i<px.length→(List.range (i+1)).map (fun i => uncross (tpx.getD (blkAt wd bits i) 0) (px.getD i 0))=(List.range i).map (fun i => uncross (tpx.getD (blkAt wd bits i) 0) (px.getD i 0))++[uncross (tpx.getD (blkAt wd bits i) 0) (px.getD i 0)]:=fun i _ => range_map_succ _ i
  have hfw:fwd1 ht ⟨1,wd,bits,tpx⟩ px=(List.range px.length).map fun i => uncross (tpx.getD (blkAt wd bits i) 0) (px.getD i 0):=by unfold fwd1;rw [if_neg (show ¬ (1:Nat)=0 by decide),if_pos rfl]
  rw [hfw]
  refine CT O (by omega) (Cy (Lo O (YS O) (Lo O (Y.len sl_22 O) (Lo O (YI O) (Lt (Cb ?_))))))
  refine Cl (fun mm ρ w' => ∃ i a c,i≤px.length∧mm=px.length - i∧ρ 3=.pointer (some ⟨b3,0,none⟩)∧ρ 7=.slice a i c∧ρ 55=.slice (some ⟨pb,po,none⟩) px.length pc∧ρ 56=.int .i64 (px.length:Nat)∧ρ 57=.int .i64 (i:Nat) ∧
    St W [] [vecR a c 36 1 i (nums .u32 ((List.range i).map fun i => uncross (tpx.getD (blkAt wd bits i) 0) (px.getD i 0))),blkR b3 (trV 1 bits wd (.slice (some ⟨ib,0,none⟩) tpx.length ic)) 61] w') px.length
   ⟨0,none,0,by omega,rfl,rfl,rfl,rfl,rfl,rfl,H⟩ ?_
  clear H
  rintro mm ρ w5 ⟨i,a,c,hi,hmm,r3,r7,r55,r56,r57,H⟩
  refine Cy (Lo O (Y.lss r57 r56) (Lt ?_))
  by_cases hlt:i<px.length
  case neg =>
   obtain rfl:i=px.length:=by omega
   refine Cs (CF O (by omega) (Cx (thn_x (thn_x (blk_x (blk_n (tn ?_)))))))
   exact ⟨a,c,_,by show ρ 7=_;rw [r7];simp,by simpa using H⟩
  obtain ⟨hc1,hp32⟩:=hcell i hlt
  have hbl:=hblk (by decide) i hlt
  have hT32:tpx.getD (blkAt wd bits i) 0<2 ^ 32:=getD_lt32 (h01 (by decide)).2 _
  obtain ⟨m,hm⟩:∃ m,m=tpx.getD (blkAt wd bits i) 0:=⟨_,rfl⟩
  obtain ⟨p,hp⟩:∃ p,p=px.getD i 0:=⟨_,rfl⟩
  have hsti:=hst i hlt
  rw [← hp,← hm] at hsti
  rw [← hp] at hc1 hp32
  rw [← hm] at hT32
  obtain ⟨a1,a2,a3,a4⟩:=parts_lt p
  have d1:=deltaB_is (pB m) (pG p)
  have d2:=deltaB_is (pG m) (pG p)
  have d3:=deltaB_is (pR m) (pR p)
  have sB:=sgm (parts_lt m).2.2.2 a3
  have sG:=sgm (parts_lt m).2.2.1 a3
  have sR:=sgm (parts_lt m).2.1 a2
  refine Cs (CT O (by omega) (Ck (tn (Cs (Cb (Cy (Lo O (YI r57) (Lo O (Y.ixS1 i sl_22 r55 r57 O hlt) (Lo O (Y.ld ld_36 O (H.old hc1 hpb)) (Lo O (AI O) (Lo O (AI O) (Lt (Cy (Lo O (Y.ldn (cs:=trV 1 bits wd (.slice (some ⟨ib,0,none⟩) tpx.length ic)) ldn_61 r3 O (fun j hj => by rw [Nat.zero_add];exact (H.blk (i:=1) O).cell j)) (Lo O (YI O) (VL.call O ent_52 (block_any w5 1 bits wd ib ic i tpx (hri.keep H.frm List.not_mem_nil) hw1 (by omega) hb (by omega) hbl (by omega)) O ?_))))))))))))))))
  rintro e w ⟨he,hf⟩
  replace H:=H.quiet hf
  rw [← hm] at he
  refine ⟨_,he,?_⟩
  refine Lo O (YI O) (VL.part p 8 hp32 (by decide) O O O (Lo O (YI O) (VL.part p 16 hp32 (by decide) O O O (Lo O (AI O) (Lo O (AI O) (Lo O (AI O) (Lt (Cr (Lo O (YS r7) (Lo O (YI O) (VL.part p 24 hp32 (by decide) O O O (Lo O (YI O) (Lo O (YI O) (VL.part m 0 hT32 (by decide) O O O (Lo O (YI O) (VL.callP O ent_53 (sdelta_any _ (partN m 0) (partN p 8) (partN_lt _ _) (partN_lt _ _)) O (Lo O (Y.sub (r:=((pR p:Nat):Int) - sg (pB m) * sg (pG p) / 32) (show _=Value.int .i64 ((pR p:Nat):Int) from O) (show _=Value.int .i64 (sg (pB m) * sg (pG p) / 32) by show Value.int .i64 (sg (partN m 0) * sg (partN p 8) / 32)=_;rw [partN0];rfl) (w64 (by omega))) (Lo O (YI O) ?_))))))))))))))))))
  refine Lo O (YI O) (VL.part p 0 hp32 (by decide) O O O (Lo O (YI O) (VL.part m 8 hT32 (by decide) O O O (Lo O (YI O) (VL.callP O ent_53 (sdelta_any _ (partN m 8) (partN p 8) (partN_lt _ _) (partN_lt _ _)) O (Lo O (Y.sub (r:=((pB p:Nat):Int) - sg (pG m) * sg (pG p) / 32) (show _=Value.int .i64 ((pB p:Nat):Int) by show Value.int .i64 ((partN p 0:Nat):Int)=_;rw [partN0]) (show _=Value.int .i64 (sg (pG m) * sg (pG p) / 32) from O) (w64 (by omega))) (Lo O (YI O) (VL.part m 16 hT32 (by decide) O O O (Lo O (YI O) (VL.callP O ent_53 (sdelta_any _ (partN m 16) (partN p 16) (partN_lt _ _) (partN_lt _ _)) O (Lo O (Y.sub (r:=((pB p:Nat):Int) - sg (pG m) * sg (pG p) / 32 - sg (pR m) * sg (pR p) / 32) O (show _=Value.int .i64 (sg (pR m) * sg (pR p) / 32) from O) (w64 (by omega))) (VL.color (pA p) ((pR p+256 - deltaB (pB m) (pG p)) % 256) (pG p) ((pB p+512 - deltaB (pG m) (pG p) - deltaB (pR m) (pR p)) % 256) (i:=((pA p:Nat):Int)) (j:=((pR p:Nat):Int) - sg (pB m) * sg (pG p) / 32) (k:=((pG p:Nat):Int)) (l:=((pB p:Nat):Int) - sg (pG m) * sg (pG p) / 32 - sg (pR m) * sg (pR p) / 32) (by omega) (cross1 d1 (deltaB_lt _ _)) (by omega) (cross2 d2 d3 (deltaB_lt _ _) (deltaB_lt _ _)) O O O O O (VL.bslice H mk_22 (nums .u32 [uncross m p]) O O (by decide) (by decide) (by kernel_rfl) ?_)))))))))))))
  intro w b12 hn12 hb12 H
  refine VL.append H 1 mk_22 (by decide) O O O O (news:=nums .u32 [uncross m p]) O (fun j u hj => by rw [Nat.zero_add];exact H.cell 0 O hj) (nums_one _ _) (by simp only [maxLen];omega) (by omega) ?_
  intro a' c' w hfa H
  replace H:St W [] [vecR a' c' 36 1 (i+1) (nums .u32 ((List.range (i+1)).map fun i => uncross (tpx.getD (blkAt wd bits i) 0) (px.getD i 0))),blkR b3 (trV 1 bits wd (.slice (some ⟨ib,0,none⟩) tpx.length ic)) 61] w:=by rw [hsti,nums_append];exact H.sub [1,2] rfl (by decide)
  refine Lo O (AS O) (Ln (blk_n (tn (Cr (Lo O (Y.add (r:=((i+1:Nat):Int)) r57 O (n64 (b:=1) (by omega))) (Lo O (YI O) (Lt ?_)))))))
  exact ⟨px.length - (i+1),by omega,i+1,a',c',by omega,rfl,r3,rfl,r55,r56,rfl,H⟩
 refine CF O (by omega) (Cy (Lo O (Y.eql O O) (Lo O (Y.asgB O) (Lt ?_))))
 by_cases hk2:kind=2
 case pos =>
  subst hk2
  have hst:∀ i,i<px.length→(List.range (i+1)).map (fun i => ungreen (px.getD i 0))=(List.range i).map (fun i => ungreen (px.getD i 0))++[ungreen (px.getD i 0)]:=fun i _ => range_map_succ _ i
  have hfw:fwd1 ht ⟨2,wd,bits,tpx⟩ px=(List.range px.length).map fun i => ungreen (px.getD i 0):=by unfold fwd1;rw [if_neg (show ¬ (2:Nat)=0 by decide),if_neg (show ¬ (2:Nat)=1 by decide),if_pos rfl]
  rw [hfw]
  refine CT O (by omega) (Cy (Lo O (YS O) (Lo O (Y.len sl_22 O) (Lo O (YI O) (Lt (Cb ?_))))))
  refine Cl (fun mm ρ w' => ∃ i a c,i≤px.length∧mm=px.length - i∧ρ 7=.slice a i c∧ρ 97=.slice (some ⟨pb,po,none⟩) px.length pc∧ρ 98=.int .i64 (px.length:Nat)∧ρ 99=.int .i64 (i:Nat) ∧
    St W [] [vecR a c 36 1 i (nums .u32 ((List.range i).map fun i => ungreen (px.getD i 0))),blkR b3 (trV 2 bits wd iv) 61] w') px.length
   ⟨0,none,0,by omega,rfl,rfl,rfl,rfl,rfl,H⟩ ?_
  clear H
  rintro mm ρ w5 ⟨i,a,c,hi,hmm,r7,r97,r98,r99,H⟩
  refine Cy (Lo O (Y.lss r99 r98) (Lt ?_))
  by_cases hlt:i<px.length
  case neg =>
   obtain rfl:i=px.length:=by omega
   refine Cs (CF O (by omega) (Cx (thn_x (thn_x (blk_x (blk_n (tn ?_)))))))
   exact ⟨a,c,_,by show ρ 7=_;rw [r7];simp,by simpa using H⟩
  obtain ⟨hc1,hp32⟩:=hcell i hlt
  obtain ⟨p,hp⟩:∃ p,p=px.getD i 0:=⟨_,rfl⟩
  have hsti:=hst i hlt
  rw [← hp] at hsti hc1 hp32
  obtain ⟨a1,a2,a3,a4⟩:=parts_lt p
  refine Cs (CT O (by omega) (Ck (tn (Cs (Cb (Cy (Lo O (Y.ixS1 i sl_22 r97 r99 O hlt) (Lo O (Y.ld ld_36 O (H.old hc1 hpb)) (Lo O (AI O) (Lt (Cy (Lo O (YI O) (VL.part p 8 hp32 (by decide) O O O (Lo O (AI O) (Lt ?_)))))))))))))))
  refine Cr (Lo O (YS r7) (Lo O (YI O) (VL.part p 24 hp32 (by decide) O O O (Lo O (YI O) (VL.part p 16 hp32 (by decide) O O O (Lo O (YI O) (Lo O (Y.sub (r:=((pR p:Nat):Int) - ((pG p:Nat):Int)) (show _=Value.int .i64 ((pR p:Nat):Int) from O) (show _=Value.int .i64 ((pG p:Nat):Int) from O) (w64 (by omega))) (Lo O (YI O) (Lo O (YI O) (VL.part p 0 hp32 (by decide) O O O (Lo O (YI O) (Lo O (Y.sub (r:=((pB p:Nat):Int) - ((pG p:Nat):Int)) (show _=Value.int .i64 ((pB p:Nat):Int) by show Value.int .i64 ((partN p 0:Nat):Int)=_;rw [partN0]) (show _=Value.int .i64 ((pG p:Nat):Int) from O) (w64 (by omega))) (VL.color (pA p) ((pR p+256 - pG p) % 256) (pG p) ((pB p+256 - pG p) % 256) (i:=((pA p:Nat):Int)) (j:=((pR p:Nat):Int) - ((pG p:Nat):Int)) (k:=((pG p:Nat):Int)) (l:=((pB p:Nat):Int) - ((pG p:Nat):Int)) (by omega) (by omega) (by omega) (by omega) O O O O O (VL.bslice H mk_22 (nums .u32 [ungreen p]) O O (by decide) (by decide) (by kernel_rfl) ?_))))))))))))))
  intro w b12 hn12 hb12 H
  refine VL.append H 1 mk_22 (by decide) O O O O (news:=nums .u32 [ungreen p]) O (fun j u hj => by rw [Nat.zero_add];exact H.cell 0 O hj) (nums_one _ _) (by simp only [maxLen];omega) (by omega) ?_
  intro a' c' w hfa H
  replace H:St W [] [vecR a' c' 36 1 (i+1) (nums .u32 ((List.range (i+1)).map fun i => ungreen (px.getD i 0))),blkR b3 (trV 2 bits wd iv) 61] w:=by rw [hsti,nums_append];exact H.sub [1,2] rfl (by decide)
  refine Lo O (AS O) (Ln (blk_n (tn (Cr (Lo O (Y.add (r:=((i+1:Nat):Int)) r99 O (n64 (b:=1) (by omega))) (Lo O (YI O) (Lt ?_)))))))
  exact ⟨px.length - (i+1),by omega,i+1,a',c',by omega,rfl,rfl,r97,r98,rfl,H⟩
 obtain rfl:kind=3:=by omega
 obtain ⟨ib,ic,rfl,hri⟩:=hiv (by decide)
 obtain ⟨⟨hp1,hp2,hp3⟩,hnd⟩:=h3 rfl
 simp only at hp1 hp2 hp3
 have hb3:bits≤3:=by rw [hp2];unfold shorterN;split;omega;split;omega;split <;> omega
 have hpow:2 ^ bits≤2 ^ 3:=Nat.pow_le_pow_right (by omega) hb3
 have hpow1:1≤2 ^ bits:=Nat.two_pow_pos _
 have heach:=each_bits hb3
 have heach8:8 / 2 ^ bits≤8:=Nat.div_le_self _ _
 have htl:=tilesN_le (b:=bits) hw1
 have hroom:=shorter_room hp1
 rw [← hp2] at hroom
 have hfw:fwd1 ht ⟨3,wd,bits,tpx⟩ px=(List.range (ht * tilesN wd bits)).map (packPx wd bits tpx px):=by unfold fwd1;rw [if_neg (show ¬ (3:Nat)=0 by decide),if_neg (show ¬ (3:Nat)=1 by decide),if_neg (show ¬ (3:Nat)=2 by decide)]
 rw [hfw]
 obtain ⟨sw,hsw⟩:∃ sw,sw=tilesN wd bits:=⟨_,rfl⟩
 rw [← hsw] at htl ⊢
 refine CF O (by omega) (Cy (Lo O (Y.eql O O) (Lo O (Y.asgB O) (Lt (CT O (by omega) (Cy (VL.makeMap .u32 H O ?_)))))))
 intro w mb hnm hbm H
 refine Lo O (Y.asg O) (Lt (Cs (Cy (Lo O (Y.fa fa_61_3 O) (Lo O (Y.ld ld_22 O (H.cell 2 (v:=.slice (some ⟨ib,0,none⟩) tpx.length ic) O O)) (Lo O (Y.len sl_22 O) (Lo O (YI O) (Lt ?_))))))))
 refine VC.join (fun ρ w' => ρ 1=.slice (some ⟨pb,po,none⟩) px.length pc∧ρ 2=.int .i64 (ht:Nat)∧ρ 3=.pointer (some ⟨b3,0,none⟩)∧ρ 7=.slice none 0 0∧ρ 18=.map (some mb) ∧
   St W [] [vecR none 0 36 1 0 [],mapR .u32 mb (idxM tpx),blkR b3 (trV 3 bits wd (.slice (some ⟨ib,0,none⟩) tpx.length ic)) 61] w') ?_ ?_
 case refine_1 =>
  refine Cb ?_
  refine Cl (fun mm ρ w' => ∃ i,i≤tpx.length∧mm=tpx.length - i∧ρ 1=.slice (some ⟨pb,po,none⟩) px.length pc∧ρ 2=.int .i64 (ht:Nat)∧ρ 3=.pointer (some ⟨b3,0,none⟩)∧ρ 7=.slice none 0 0∧ρ 18=.map (some mb)∧ρ 125=.slice (some ⟨ib,0,none⟩) tpx.length ic∧ρ 126=.int .i64 (tpx.length:Nat)∧ρ 127=.int .i64 (i:Nat) ∧
    St W [] [vecR none 0 36 1 0 [],mapR .u32 mb (idxM (tpx.take i)),blkR b3 (trV 3 bits wd (.slice (some ⟨ib,0,none⟩) tpx.length ic)) 61] w') tpx.length
   ⟨0,by omega,rfl,rfl,rfl,rfl,rfl,rfl,rfl,rfl,rfl,H.sub [1,0,2] rfl (by decide)⟩ ?_
  clear H
  rintro mm ρ w5 ⟨i,hi,hmm,r1,r2,r3,r7,r18,r125,r126,r127,H⟩
  refine Cy (Lo O (Y.lss r127 r126) (Lt ?_))
  by_cases hlt:i<tpx.length
  case neg =>
   obtain rfl:i=tpx.length:=by omega
   refine Cs (CF O (by omega) (Cx (thn_x (thn_x (blk_x (tn ?_))))))
   rw [List.take_length] at H
   exact ⟨r1,r2,r3,r7,r18,H⟩
  have hcl:=hri i hlt
  obtain ⟨q,hq⟩:∃ q,q=tpx[i]:=⟨_,rfl⟩
  rw [← hq,Nat.zero_add] at hcl
  have hnew:q ∉ tpx.take i:=by
   rw [hq]
   intro hm
   obtain ⟨j,hj,e⟩:=List.mem_iff_getElem.1 hm
   rw [List.getElem_take] at e
   simp only [List.length_take] at hj
   have:=(List.getElem_inj hnd).1 e
   omega
  have etk:tpx.take (i+1)=tpx.take i++[q]:=by rw [List.take_succ_eq_append_getElem hlt,← hq]
  refine Cs (CT O (by omega) (Ck (tn (Cs (Cb (Cy (Lo O (YI r127) (Lo O (Y.ixS0 i sl_22 r125 r127 O hlt) (Lo O (Y.ld ld_36 O (H.old hcl List.not_mem_nil)) (Lo O (AI O) (Lo O (AI O) (Lt (Cr (Lo O (Y.mov r18) (Lo O (YI O) (Lo O (YI O) (VL.mapUpdate (v:=.int .i64 (i:Nat)) 1 H mpt_of O O O O ?_)))))))))))))))))
  intro w H
  have hti:(tpx.take i).length=i:=by rw [List.length_take];omega
  replace H:St W [] [vecR none 0 36 1 0 [],mapR .u32 mb (idxM (tpx.take (i+1))),blkR b3 (trV 3 bits wd (.slice (some ⟨ib,0,none⟩) tpx.length ic)) 61] w:=by rw [etk,← idxM_put hnew,hti];exact H
  refine Ln (blk_n (tn (Cr (Lo O (Y.add (r:=((i+1:Nat):Int)) r127 O (n64 (b:=1) (by omega))) (Lo O (YI O) (Lt ?_))))))
  exact ⟨tpx.length - (i+1),by omega,i+1,by omega,rfl,r1,r2,r3,r7,r18,r125,r126,rfl,H⟩
 case refine_2 =>
 clear H
 rintro ρ w5 ⟨r1,r2,r3,r7,r18,H⟩
 refine Cs (Cd mixedP (by kernel_rfl) ?_)
 intro w hsame
 replace H:=H.same hsame
 refine So O (Y.fa fa_61_2 r3) (So O (Y.ld ld_3 O (H.cell 2 (v:=.int .i64 (wd:Nat)) O O)) (So O (Y.fa fa_61_1 r3) (So O (Y.ld ld_3 O (H.cell 2 (v:=.int .i64 (bits:Nat)) O O)) (VS.call O ent_24 (blocks_any _ wd bits (by omega) hb) O (So O (Y.fa fa_61_1 r3) (So O (Y.ld ld_3 O (H.cell 2 (v:=.int .i64 (bits:Nat)) O O)) (So O (Y.shr (r:=((8 / 2 ^ bits:Nat):Int)) O O (by omega) (shrK (a:=8) (k:=.i64) (by show _≤(64:Nat);omega))) (So O (AI O) (So O (AI O) (Sn (tn ?_)))))))))))
 rw [← hsw]
 obtain ⟨ea,hea⟩:∃ ea,ea=8 / 2 ^ bits:=⟨_,rfl⟩
 rw [← hea] at heach heach8 hroom ⊢
 refine Cy (Lo O (YI r2) (Lo O (YI O) (Lt (Cb ?_))))
 refine Cl (fun mm ρ w' => ∃ y a c,y≤ht∧mm=ht - y∧ρ 1=.slice (some ⟨pb,po,none⟩) px.length pc∧ρ 3=.pointer (some ⟨b3,0,none⟩)∧ρ 7=.slice a (y * sw) c∧ρ 18=.map (some mb)∧ρ 21=.int .i64 (sw:Nat)∧ρ 22=.int .i64 (ea:Nat)∧ρ 144=.int .i64 (ht:Nat)∧ρ 145=.int .i64 (y:Nat) ∧
   St W [] [vecR a c 36 1 (y * sw) (nums .u32 ((List.range (y * sw)).map (packPx wd bits tpx px))),mapR .u32 mb (idxM tpx),blkR b3 (trV 3 bits wd (.slice (some ⟨ib,0,none⟩) tpx.length ic)) 61] w') ht
  ⟨0,none,0,by omega,rfl,r1,r3,by rw [Nat.zero_mul];exact r7,r18,rfl,rfl,rfl,rfl,by rw [Nat.zero_mul];exact H⟩ ?_
 clear H r1 r2 r3 r7 r18
 rintro mm ρ w6 ⟨y,a,c,hy,hmm,r1,r3,r7,r18,r21,r22,r144,r145,H⟩
 refine Cy (Lo O (Y.lss r145 r144) (Lt ?_))
 by_cases hlt:y<ht
 case neg =>
  obtain rfl:y=ht:=by omega
  refine Cs (CF O (by omega) (Cx (thn_x (thn_x (blk_x (blk_n (tn ?_)))))))
  exact ⟨a,c,_,by show ρ 7=_;rw [r7];simp,by simpa using H⟩
 have hyw:y * wd≤4096 * 4096:=Nat.mul_le_mul (by omega) hwd
 have hysw:y * sw≤4096 * 4096:=Nat.mul_le_mul (by omega) (by omega)
 have hrow:y * wd+wd≤px.length:=by
  have:=Nat.mul_le_mul_right wd (show y+1≤ht from hlt)
  rw [Nat.succ_mul,Nat.mul_comm ht] at this
  omega
 have hysw2:y * sw+sw≤4096:=by
  have:=Nat.mul_le_mul_left y htl.2
  omega
 refine Cs (CT O (by omega) (Ck (tn (Cs (Cb (Cy (Lo O (YI r145) (Lo O (AI O) (Lt (Cy (Lo O (YI r21) (Lo O (YI O) (Lt ?_)))))))))))))
 refine VC.joinB (fun ρ w' => ∃ a c,ρ 1=.slice (some ⟨pb,po,none⟩) px.length pc∧ρ 3=.pointer (some ⟨b3,0,none⟩)∧ρ 7=.slice a ((y+1) * sw) c∧ρ 18=.map (some mb)∧ρ 21=.int .i64 (sw:Nat)∧ρ 22=.int .i64 (ea:Nat)∧ρ 144=.int .i64 (ht:Nat)∧ρ 145=.int .i64 (y:Nat) ∧
   St W [] [vecR a c 36 1 ((y+1) * sw) (nums .u32 ((List.range ((y+1) * sw)).map (packPx wd bits tpx px))),mapR .u32 mb (idxM tpx),blkR b3 (trV 3 bits wd (.slice (some ⟨ib,0,none⟩) tpx.length ic)) 61] w') ?_ ?_
 case refine_2 =>
  clear H r1 r3 r7 r18 r21 r22 r144 r145
  rintro ρ w7 ⟨a,c,r1,r3,r7,r18,r21,r22,r144,r145,H⟩
  refine Cr (Lo O (Y.add (r:=((y+1:Nat):Int)) r145 O (n64 (b:=1) (by omega))) (Lo O (YI O) (Lt ?_)))
  exact ⟨ht - (y+1),by omega,y+1,a,c,by omega,rfl,r1,r3,r7,r18,r21,r22,r144,rfl,H⟩
 case refine_1 =>
 refine Cb ?_
 refine Cl (fun mm ρ w' => ∃ x a c,x≤sw∧mm=sw - x∧ρ 1=.slice (some ⟨pb,po,none⟩) px.length pc∧ρ 3=.pointer (some ⟨b3,0,none⟩)∧ρ 7=.slice a (y * sw+x) c∧ρ 18=.map (some mb)∧ρ 21=.int .i64 (sw:Nat)∧ρ 22=.int .i64 (ea:Nat)∧ρ 23=.int .i64 (y:Nat)∧ρ 144=.int .i64 (ht:Nat)∧ρ 145=.int .i64 (y:Nat)∧ρ 148=.int .i64 (sw:Nat)∧ρ 149=.int .i64 (x:Nat) ∧
   St W [] [vecR a c 36 1 (y * sw+x) (nums .u32 ((List.range (y * sw+x)).map (packPx wd bits tpx px))),mapR .u32 mb (idxM tpx),blkR b3 (trV 3 bits wd (.slice (some ⟨ib,0,none⟩) tpx.length ic)) 61] w') sw
  ⟨0,a,c,by omega,rfl,r1,r3,r7,r18,r21,r22,rfl,r144,r145,rfl,rfl,H⟩ ?_
 clear H r1 r3 r7 r18 r21 r22 r144 r145
 rintro mm2 ρ w7 ⟨x,a,c,hx,hmm2,r1,r3,r7,r18,r21,r22,r23,r144,r145,r148,r149,H⟩
 refine Cy (Lo O (Y.lss r149 r148) (Lt ?_))
 by_cases hxl:x<sw
 case neg =>
  obtain rfl:x=sw:=by omega
  refine Cs (CF O (by omega) (Cx (thn_x (thn_x (blk_x (blk_n (tn ?_)))))))
  exact ⟨a,c,r1,r3,by rw [Nat.succ_mul];exact r7,r18,r21,r22,r144,r145,by rw [Nat.succ_mul];exact H⟩
 have hdiv:(y * sw+x) / sw=y:=by rw [Nat.mul_comm,Nat.mul_add_div (by omega),Nat.div_eq_of_lt hxl,Nat.add_zero]
 have hmod:(y * sw+x) % sw=x:=by rw [Nat.mul_comm,Nat.mul_add_mod,Nat.mod_eq_of_lt hxl]
 have hxb:x * 2 ^ bits≤4096 * 8:=Nat.mul_le_mul (by omega) (by omega)
 have hpk:∀ k,packF wd bits tpx px (y * sw+x) k=if x * 2 ^ bits+k<wd then idxIn tpx (px.getD (y * wd+x * 2 ^ bits+k) 0) else 0:=fun k => by
  unfold packF
  rw [← hsw,hdiv,hmod]
 have hin:∀ k,x * 2 ^ bits+k<wd→px.getD (y * wd+x * 2 ^ bits+k) 0 ∈ tpx:=fun k hk => by
  have hlt2:y * wd+x * 2 ^ bits+k<px.length:=by omega
  have e:px.getD (y * wd+x * 2 ^ bits+k) 0=px[y * wd+x * 2 ^ bits+k]:=by simp [hlt2]
  rw [e]
  exact hp3 _ (List.getElem_mem hlt2)
 have hpklt:∀ k,packF wd bits tpx px (y * sw+x) k<2 ^ ea:=fun k => by
  rw [hpk]
  split
  ·rename_i h
   exact Nat.lt_of_lt_of_le (idxIn_lt (hin k h)) hroom
  ·exact Nat.two_pow_pos _
 refine Cs (CT O (by omega) (Ck (tn (Cs (Cb (Cy (Lo O (YI r149) (Lo O (AI O) (Lt (Cy (Lo O (AI O) (Lt (Cs (Cy (Lo O (Y.fa fa_61_1 r3) ?_)))))))))))))))
 refine Lo O (Y.ld ld_3 O (H.cell 2 (v:=.int .i64 (bits:Nat)) O O)) (Lo O (Y.shl (r:=((2 ^ bits:Nat):Int)) O O (by omega) (by show IntKind.i64.wrap (((1:Nat):Int) * _)=_;rw [l64 ⟨by omega,by omega⟩,Nat.one_mul])) (Lo O (YI O) (Lt ?_)))
 refine VC.join (fun ρ w' => ρ 1=.slice (some ⟨pb,po,none⟩) px.length pc∧ρ 3=.pointer (some ⟨b3,0,none⟩)∧ρ 7=.slice a (y * sw+x) c∧ρ 18=.map (some mb)∧ρ 21=.int .i64 (sw:Nat)∧ρ 22=.int .i64 (ea:Nat)∧ρ 23=.int .i64 (y:Nat)∧ρ 25=.int .i64 (packN ea (packF wd bits tpx px (y * sw+x)) (2 ^ bits):Nat)∧ρ 144=.int .i64 (ht:Nat)∧ρ 145=.int .i64 (y:Nat)∧ρ 148=.int .i64 (sw:Nat)∧ρ 149=.int .i64 (x:Nat) ∧
   St W [] [vecR a c 36 1 (y * sw+x) (nums .u32 ((List.range (y * sw+x)).map (packPx wd bits tpx px))),mapR .u32 mb (idxM tpx),blkR b3 (trV 3 bits wd (.slice (some ⟨ib,0,none⟩) tpx.length ic)) 61] w') ?_ ?_
 case refine_1 =>
  refine Cb ?_
  refine Cl (fun mm ρ w' => ∃ k,k≤2 ^ bits∧mm=2 ^ bits - k∧ρ 1=.slice (some ⟨pb,po,none⟩) px.length pc∧ρ 3=.pointer (some ⟨b3,0,none⟩)∧ρ 7=.slice a (y * sw+x) c∧ρ 18=.map (some mb)∧ρ 21=.int .i64 (sw:Nat)∧ρ 22=.int .i64 (ea:Nat)∧ρ 23=.int .i64 (y:Nat)∧ρ 24=.int .i64 (x:Nat)∧ρ 25=.int .i64 (packN ea (packF wd bits tpx px (y * sw+x)) k:Nat)∧ρ 144=.int .i64 (ht:Nat)∧ρ 145=.int .i64 (y:Nat)∧ρ 148=.int .i64 (sw:Nat)∧ρ 149=.int .i64 (x:Nat)∧ρ 154=.int .i64 (2 ^ bits:Nat)∧ρ 155=.int .i64 (k:Nat) ∧
    St W [] [vecR a c 36 1 (y * sw+x) (nums .u32 ((List.range (y * sw+x)).map (packPx wd bits tpx px))),mapR .u32 mb (idxM tpx),blkR b3 (trV 3 bits wd (.slice (some ⟨ib,0,none⟩) tpx.length ic)) 61] w') (2 ^ bits)
   ⟨0,by omega,rfl,r1,r3,r7,r18,r21,r22,r23,rfl,rfl,r144,r145,r148,r149,rfl,rfl,H⟩ ?_
  clear H r1 r3 r7 r18 r21 r22 r23 r144 r145 r148 r149
  rintro mm3 ρ w8 ⟨k,hk8,hmm3,r1,r3,r7,r18,r21,r22,r23,r24,r25,r144,r145,r148,r149,r154,r155,H⟩
  refine Cy (Lo O (Y.lss r155 r154) (Lt ?_))
  by_cases hkl:k<2 ^ bits
  case neg =>
   obtain rfl:k=2 ^ bits:=by omega
   refine Cs (CF O (by omega) (Cx (thn_x (thn_x (blk_x (tn ?_))))))
   exact ⟨r1,r3,r7,r18,r21,r22,r23,r25,r144,r145,r148,r149,H⟩
  have hek:ea * k≤8:=by
   have:=Nat.mul_le_mul_left ea (show k≤2 ^ bits from hk8)
   omega
  have hek2:ea * (k+1)≤8:=by
   have:=Nat.mul_le_mul_left ea (show k+1≤2 ^ bits from hkl)
   omega
  have hacc:=packN_lt (e:=ea) (f:=packF wd bits tpx px (y * sw+x)) k (fun j _ => hpklt j)
  have hacc2:=packN_lt (e:=ea) (f:=packF wd bits tpx px (y * sw+x)) (k+1) (fun j _ => hpklt j)
  have hp8:2 ^ (ea * k)≤2 ^ 8:=Nat.pow_le_pow_right (by omega) hek
  have hp9:2 ^ (ea * (k+1))≤2 ^ 8:=Nat.pow_le_pow_right (by omega) hek2
  have esucc:packN ea (packF wd bits tpx px (y * sw+x)) (k+1)=packN ea (packF wd bits tpx px (y * sw+x)) k+packF wd bits tpx px (y * sw+x) k * 2 ^ (ea * k):=rfl
  have eor:packN ea (packF wd bits tpx px (y * sw+x)) k ||| packF wd bits tpx px (y * sw+x) k * 2 ^ (ea * k)=packN ea (packF wd bits tpx px (y * sw+x)) (k+1):=by
   rw [esucc,Nat.or_comm,Nat.mul_comm _ (2 ^ (ea * k)),← Nat.two_pow_add_eq_or_of_lt hacc,Nat.add_comm]
  refine Cs (CT O (by omega) (Ck (tn (Cs (Cb (Cy (Lo O (YI r155) (Lo O (AI O) (Lt ?_)))))))))
  by_cases hin2:x * 2 ^ bits+k<wd
  case neg =>
   refine Cs (Cd mixedP (by kernel_rfl) ?_)
   intro w hsame
   replace H:=H.same hsame
   refine So O (YI r24) (So O (Y.fa fa_61_1 r3) (So O (Y.ld ld_3 O (H.cell 2 (v:=.int .i64 (bits:Nat)) O O)) (So O (Y.shl (r:=((x * 2 ^ bits:Nat):Int)) O O (by omega) (l64 ⟨by omega,by omega⟩)) (So O (YI O) (So O (Y.add (r:=((x * 2 ^ bits+k:Nat):Int)) O O (n64 (by omega))) (So O (Y.fa fa_61_2 r3) (So O (Y.ld ld_3 O (H.cell 2 (v:=.int .i64 (wd:Nat)) O O)) (So O (Y.lss O O) (Sn (tn (CF O (by omega) (Ck (blk_n (tn (Cr (Lo O (Y.add (r:=((k+1:Nat):Int)) r155 O (n64 (b:=1) (by omega))) (Lo O (YI O) (Lt ?_))))))))))))))))))
   have e0:packF wd bits tpx px (y * sw+x) k=0:=by rw [hpk,if_neg hin2]
   exact ⟨2 ^ bits - (k+1),by omega,k+1,by omega,rfl,r1,r3,r7,r18,r21,r22,r23,r24,by rw [esucc,e0,Nat.zero_mul];exact r25,r144,r145,r148,r149,r154,rfl,H⟩
  have hat:y * wd+x * 2 ^ bits+k<px.length:=by omega
  obtain ⟨hc1,hq32⟩:=hcell _ hat
  obtain ⟨q,hq⟩:∃ q,q=px.getD (y * wd+x * 2 ^ bits+k) 0:=⟨_,rfl⟩
  have hqi:=hin k hin2
  have eF:packF wd bits tpx px (y * sw+x) k=idxIn tpx q:=by rw [hpk,if_pos hin2,← hq]
  rw [← hq] at hc1 hq32 hqi
  have elook:(idxM tpx (q:Nat)).getD (.int .i64 0)=.int .i64 (idxIn tpx q:Nat):=idxM_get hqi
  have hidx:=idxIn_lt hqi
  have hmul:packF wd bits tpx px (y * sw+x) k * 2 ^ (ea * k)≤256 * 256:=Nat.mul_le_mul (by omega) (by omega)
  refine Cs (Cd mixedP (by kernel_rfl) ?_)
  intro w hsame
  replace H:=H.same hsame
  refine So O (YI r24) (So O (Y.fa fa_61_1 r3) (So O (Y.ld ld_3 O (H.cell 2 (v:=.int .i64 (bits:Nat)) O O)) (So O (Y.shl (r:=((x * 2 ^ bits:Nat):Int)) O O (by omega) (l64 ⟨by omega,by omega⟩)) (So O (YI O) (So O (Y.add (r:=((x * 2 ^ bits+k:Nat):Int)) O O (n64 (by omega))) (So O (Y.fa fa_61_2 r3) (So O (Y.ld ld_3 O (H.cell 2 (v:=.int .i64 (wd:Nat)) O O)) (So O (Y.lss O O) (Sn (tn (CT O (by omega) (Cd mixedP (by kernel_rfl) ?_))))))))))))
  intro w hsame
  replace H:=H.same hsame
  refine So O (YI r25) (So O (Y.mov r18) (So O (YS r1) (So O (YI r23) (So O (Y.fa fa_61_2 r3) (So O (Y.ld ld_3 O (H.cell 2 (v:=.int .i64 (wd:Nat)) O O)) (So O (Y.mul (r:=((y * wd:Nat):Int)) O O (m64 (by omega))) (So O (YI r24) (So O (Y.fa fa_61_1 r3) (So O (Y.ld ld_3 O (H.cell 2 (v:=.int .i64 (bits:Nat)) O O)) (So O (Y.shl (r:=((x * 2 ^ bits:Nat):Int)) O O (by omega) (l64 ⟨by omega,by omega⟩)) (So O (Y.add (r:=((y * wd+x * 2 ^ bits:Nat):Int)) O O (n64 (by omega))) (So O (YI O) (So O (Y.add (r:=((y * wd+x * 2 ^ bits+k:Nat):Int)) O O (n64 (by omega))) (So O (Y.ixS1 (y * wd+x * 2 ^ bits+k) sl_22 O O O hat) (So O (Y.ld ld_36 O (H.old hc1 hpb)) (So O (Y.lookE 1 H mpt_of O O O elook) (So O (YI r22) (So O (YI O) (So O (Y.mul (r:=((ea * k:Nat):Int)) O O (m64 (by omega))) ?_)))))))))))))))))))
  refine So O (Y.shl (r:=((packF wd bits tpx px (y * sw+x) k * 2 ^ (ea * k):Nat):Int)) O O (by omega) (by rw [← eF];exact l64 ⟨by omega,by omega⟩)) (So O (Y.or (r:=((packN ea (packF wd bits tpx px (y * sw+x)) (k+1):Nat):Int)) O O (by rw [← eor];exact o64 ⟨by omega,by omega⟩)) (So O (AI O) (Sn (blk_n (tn (Cr (Lo O (Y.add (r:=((k+1:Nat):Int)) r155 O (n64 (b:=1) (by omega))) (Lo O (YI O) (Lt ?_)))))))))
  exact ⟨2 ^ bits - (k+1),by omega,k+1,by omega,rfl,r1,r3,r7,r18,r21,r22,r23,r24,rfl,r144,r145,r148,r149,r154,rfl,H⟩
 case refine_2 =>
 clear H r1 r3 r7 r18 r21 r22 r23 r144 r145 r148 r149
 rintro ρ w8 ⟨r1,r3,r7,r18,r21,r22,r23,r25,r144,r145,r148,r149,H⟩
 have hall:=packN_lt (e:=ea) (f:=packF wd bits tpx px (y * sw+x)) (2 ^ bits) (fun j _ => hpklt j)
 rw [heach] at hall
 have epx:packPx wd bits tpx px (y * sw+x)=argb 255 0 (packN ea (packF wd bits tpx px (y * sw+x)) (2 ^ bits)) 0:=by unfold packPx;rw [← hea]
 obtain ⟨nn,hnn⟩:∃ nn,nn=packN ea (packF wd bits tpx px (y * sw+x)) (2 ^ bits):=⟨_,rfl⟩
 rw [← hnn] at r25 hall epx
 refine Cr (Lo O (YS r7) (Lo O (YI r25) (VL.color 255 0 nn 0 (i:=((255:Nat):Int)) (j:=((0:Nat):Int)) (k:=((nn:Nat):Int)) (l:=((0:Nat):Int)) (by omega) (by omega) (by omega) (by omega) O O O O O ?_)))
 rw [← epx]
 refine VL.bslice H mk_22 (nums .u32 [packPx wd bits tpx px (y * sw+x)]) O O (by decide) (by decide) (by kernel_rfl) ?_
 intro w b12 hn12 hb12 H
 refine VL.append H 1 mk_22 (by decide) O O O O (news:=nums .u32 [packPx wd bits tpx px (y * sw+x)]) O (fun j u hj => by rw [Nat.zero_add];exact H.cell 0 O hj) (nums_one _ _) (by simp only [maxLen];omega) (by omega) ?_
 intro a' c' w hfa H
 replace H:St W [] [vecR a' c' 36 1 (y * sw+(x+1)) (nums .u32 ((List.range (y * sw+(x+1))).map (packPx wd bits tpx px))),mapR .u32 mb (idxM tpx),blkR b3 (trV 3 bits wd (.slice (some ⟨ib,0,none⟩) tpx.length ic)) 61] w:=by rw [← Nat.add_assoc,range_map_succ,nums_append];exact H.sub [1,2,3] rfl (by decide)
 refine Lo O (AS O) (Ln (blk_n (tn (Cr (Lo O (Y.add (r:=((x+1:Nat):Int)) r149 O (n64 (b:=1) (by omega))) (Lo O (YI O) (Lt ?_)))))))
 exact ⟨sw - (x+1),by omega,x+1,a',c',by omega,rfl,r1,r3,by rw [← Nat.add_assoc];rfl,r18,r21,r22,r23,r144,r145,r148,rfl,H⟩
end Go.Proofs.YtinkhckpckfajaaDoor
set_option maxHeartbeats 1000000
namespace Go.Proofs.YtinkhckpckfajaaDoor
open Go
theorem decTrs_end (h k w:Nat) (l:List Tr):Rds (decTrs h (k+1) w l) (bitsN 0 1) (l,w) :=
 Rds.last (rds_bits (n:=0) (k:=1) (by decide)) (by rw [if_pos rfl];exact Rds.ret _)
theorem decTrs_step {h k w:Nat} {l:List Tr} {t:Tr} {X Z:Bits} {v:List Tr × Nat} (hd:Rds (decTr w h) X (t,newW t)) (hn:kindIn l t.kind=false) (hz:Rds (decTrs h k (newW t) (l++[t])) Z v) :
  Rds (decTrs h (k+1) w l) (bitsN 1 1++(X++Z)) v:=by
 refine (rds_bits (n:=1) (k:=1) (by decide)).pb ?_
 rw [if_neg (by decide)]
 refine hd.pb ?_
 rw [if_neg (show ¬ l.any (·.kind=t.kind)=true by unfold kindIn at hn;rw [hn];simp)]
 exact hz
def hdBits (wd ht a:Nat):Bits:=bitsN 47 8++bitsN (wd - 1) 14++bitsN (ht - 1) 14++bitsN a 1++bitsN 0 3
theorem header_reads {wd ht a:Nat} (hw:1≤wd) (hw2:wd≤16384) (hh:1≤ht) (hh2:ht≤16384) (ha:a<2):Rds header (hdBits wd ht a) (wd,ht):=by
 unfold hdBits header
 rw [List.append_assoc,List.append_assoc,List.append_assoc]
 refine (rds_bits (n:=47) (k:=8) (by decide)).pb ?_
 rw [if_neg (by decide)]
 refine (rds_bits (show wd - 1<2 ^ 14 by omega)).pb ((rds_bits (show ht - 1<2 ^ 14 by omega)).pb ((rds_bits (show a<2 ^ 1 by omega)).pb (Rds.last (rds_bits (n:=0) (k:=3) (by decide)) ?_)))
 rw [if_neg (by decide),show wd - 1+1=wd by omega,show ht - 1+1=ht by omega]
 exact Rds.ret _
theorem decAll_reads {wd ht a nw:Nat} {l:List Tr} {px:List Nat} {Xt Z:Bits} (hw:1≤wd) (hw2:wd≤16384) (hh:1≤ht) (hh2:ht≤16384) (ha:a<2) (ht':Rds (decTrs ht 5 wd []) Xt (l,nw)) (hz:Rds (decPix true nw ht) Z px) :
  Rds decAll (hdBits wd ht a++(Xt++Z)) (wd,ht,undoAll ht l px):=by
 refine (header_reads hw hw2 hh hh2 ha).pb (ht'.pb ?_)
 exact Rds.last hz (Rds.ret _)
theorem undoAll_snoc (h:Nat) (l:List Tr) (t:Tr) (px:List Nat):undoAll h (l++[t]) px=undoAll h l (undo1 h t px):=by
 unfold undoAll
 rw [List.foldr_append]
 rfl
theorem kindIn_mem (l:List Tr) (j:Nat):kindIn l j=decide (j ∈ l.map (·.kind)):=by
 rw [Bool.eq_iff_iff]
 simp only [kindIn,List.any_eq_true,decide_eq_true_eq,List.mem_map]
def CurIs (W:World) (pb po pc:Nat) (px cur:List Nat) (qb qo qc:Nat) (r:Res):Prop :=
 (r=⟨[],fun _ => True⟩∧qb=pb∧qo=po∧qc=pc∧cur=px)∨(r=vecR (some ⟨qb,0,none⟩) qc 36 1 cur.length (nums .u32 cur)∧qo=0)
theorem vec_row {w:World} {g c:Nat} {xs:List Nat} (h:VecOk w (some ⟨g,0,none⟩) c 36 1 xs.length (nums .u32 xs)):Row w .u32 g 0 xs:=fun j hj => by
 rw [Nat.zero_add]
 exact h.cellS (by simp [nums,hj])
theorem CurIs.row {W w:World} {pb po pc:Nat} {px cur:List Nat} {qb qo qc:Nat} {r:Res} (h:CurIs W pb po pc px cur qb qo qc r) (hr:Row W .u32 pb po px) (hpb:pb<W.heap.size) (hpc:px.length≤pc) {l:List Res} (H:St W [] l w) {i:Nat} (hi:l[i]?=some r) :
  Row w .u32 qb qo cur∧cur.length≤qc∧∀ j s,l[j]?=some s→j≠i→qb ∉ s.foot:=by
 rcases h with ⟨rfl,rfl,rfl,rfl,rfl⟩ | ⟨rfl,rfl⟩
 ·refine ⟨hr.keep H.frm List.not_mem_nil,hpc,fun j s hj _ hm => ?_⟩
  rcases H.own s (List.mem_of_getElem? hj) _ hm with h1 | h1
  ·simp at h1
  ·omega
 ·have hv:VecOk w (some ⟨qb,0,none⟩) qc 36 1 cur.length (nums .u32 cur):=H.get hi
  refine ⟨vec_row hv,?_,fun j s hj hne => apart_disj H.apart hi hj (Ne.symm hne) qb (by simp [vecR,footA])⟩
  rcases hv with ⟨h0,_⟩ | ⟨g,cur',h0,_,h1,_⟩
  ·cases h0
  ·exact h1
theorem St.vecOf {w0 w:World} {S:List Nat} {l:List Res} (H:St w0 S l w) (i:Nat) {b e:Nat} {cs:List Value} (hi:l[i]?=some (blkR b cs e)) (hl:cs.length≤maxLen):St w0 S (l.set i (vecR (some ⟨b,0,none⟩) cs.length e 1 cs.length cs)) w :=
 H.turn hi (Frm.refl _ w) (.inr ⟨b,cs,rfl,H.blk hi,Nat.le_refl _,hl,by omega,by rw [Nat.mul_one,List.take_length]⟩) (vecR_local _ _ _ _ _ _) (fun b hb => .inl hb)
section
variable {P:Program} {w w0:World} {t ty el by_:Nat} {zs:List Value} {S:List Nat} {l:List Res} {nn d:Nat} {Q:Post} {ρ:Env} {pos:String} {after:Array Edge} {ops:Array Oper} {rest:List Oper}
theorem VL.bslice0 (H:St w0 S l w) (F:MK P t el by_ zs) (hd:Nat.blt d nn=true)
  (h:∀ w' b,w.heap.size≤b→w0.heap.size≤b→St w0 S (vecR (some ⟨b,0,none⟩) 0 el 1 0 [] :: l) w'→VL P nn ops Q rest (upd ρ d (.slice (some ⟨b,0,none⟩) 0 0)) w') :
  VL P nn ops Q (⟨some d,.buildSlice t 0 #[],ty,pos,after,none⟩ :: rest) ρ w:=by
 obtain ⟨hu,i,z,h1,h2,h3,h4,h5⟩:=F
 have hr:(Instr.buildSlice t 0 #[]).run P w=.ok (.slice (some ⟨w.heap.size,0,none⟩) 0 0) (w.alloc (.cells #[] el)):=by
  simp [Instr.buildSlice,run_underlying hu,sizeOf,typeInfo,zeroValue,h1,h2,newRow,Instr.fill]
  rw [show (Array.range 0)=#[] from by simp]
  simp
 have hb:Blk (w.alloc (.cells #[] el)) w.heap.size [] el:=Blk.new w [] el
 refine Lo hd (v:=.slice (some ⟨w.heap.size,0,none⟩) 0 0) (w':=w.alloc (.cells #[] el)) ?_ (h _ _ (Nat.le_refl _) H.high
  (H.add (Frm.new [] w _) (.inr ⟨_,[],rfl,hb,Nat.le_refl _,Nat.zero_le _,by simp,by simp⟩) (vecR_local _ _ _ _ _ _) (by simp [vecR,footA])))
 unfold Yld
 simp only [execOp,Sem.run_bind,Array.map_empty,hr,Result.andThen_ok]
 rfl
end
def StrOk (W:World) (X:Bits) (e:Ending) (w':World):Prop:=∃ a c,e=.returned (.slice a (nB X) c)∧VecOk w' a c 5 1 (nB X) (rowK .u8 (byteOf X) (nB X))∧(∀ x ∈ footA a,W.heap.size≤x)∧Frm [] W w'∧X.length≤10000000
theorem wr_own {W w:World} {l:List Res} {wb c i:Nat} {a:Option Addr} {X:Bits} (H:St W [] l w) (hi:l[i]?=some (wrR wb a c X)):∀ x ∈ footA a,W.heap.size≤x:=fun x hx => by
 rcases H.own _ (List.mem_of_getElem? hi) x (List.mem_cons_of_mem _ hx) with h | h
 ·simp at h
 ·exact h
theorem St.wrOf {w0 w:World} {S:List Nat} {l:List Res} (H:St w0 S l w) (i:Nat) {wb:Nat} (hi:l[i]?=some (blkR wb [.slice none 0 0,.int .i64 0] 56)):St w0 S (l.set i (wrR wb none 0 [])) w :=
 H.turn hi (Frm.refl _ w) ⟨H.blk hi,.inl ⟨rfl,rfl,rfl,rfl⟩,by simp [footA]⟩ (wrR_local _ _ _ _) (fun b hb => .inl hb)
theorem pixels_all (main:Bool):PixelsOK main:=pixels_any main fun _ => pixels_any false (by simp)
theorem wr_cell {w0 w:World} {S:List Nat} {l:List Res} {wb c i:Nat} {a:Option Addr} {X:Bits} (H:St w0 S l w) (hi:l[i]?=some (wrR wb a c X)):w.cell? ⟨wb,0,none⟩=some (.slice a (nB X) c):=(H.get hi).1.cellv rfl
def gX:Nat→Bits
 | 0 => []++bitsN 47 8++bitsN 0 32
 | n+1 => gX n++bitsN 1 1++bitsN 2 2
theorem gX_length:∀ n,(gX n).length=40+3 * n
 | 0 => by simp [gX,bnl]
 | n+1 => by simp only [gX,List.length_append,bnl,gX_length n];omega
def ungreens (p:Nat):Nat→Nat
 | 0 => p
 | n+1 => ungreen (ungreens p n)
theorem ungreens_lt {p:Nat} (h:p<2 ^ 32):∀ n,ungreens p n<2 ^ 32
 | 0 => h
 | n+1 => (ungreen_parts _).2.2.2.2
theorem fwd1_one (q:Nat):fwd1 1 ⟨2,1,0,[]⟩ [q]=[ungreen q]:=rfl
theorem greens_any (W:World) (p many:Nat) (hp:p<2 ^ 32) (hm:many≤100) :
  Calls Tryd.prog 35 #[.int .u32 (p:Nat),.int .i64 (many:Nat)] W fun e w' => ∃ Z,StrOk W (gX many++bitsN 0 1++Z) e w'∧Rds (decPix true 1 1) Z [ungreens p many]:=by
 have H:St W [] [] W:=St.nil W []
 refine enter (m:=38) Tryd.func35 O Tryd.ntmps35 O (Cy (Lo O (Y.asg O) (Lt (Cy (Lo O (Y.zeroS bz_56) (VL.box H (cs:=[.slice none 0 0,.int .i64 0]) O O O ?_))))))
 intro w wb hnw hbw H
 replace H:St W [] [wrR wb none 0 []] w:=H.wrOf 0 rfl
 refine Lo O (Y.asgP O) (Lt (Cy (Lo O (YP O) (VL.bits H 0 O 47 8 (by omega) (by decide) (by simp) O O O O ?_))))
 intro w a1 c1 H
 simp only [List.set] at H
 refine Lt (Cy (Lo O (YP O) (VL.bits H 0 O 0 32 (by omega) (by decide) (by simp [bnl]) O O O O ?_)))
 intro w a2 c2 H
 simp only [List.set] at H
 refine Lt (Cy (Lo O (YI O) (VL.bslice H mk_22 (nums .u32 [p]) O O (by decide) (by decide) (by kernel_rfl) ?_)))
 intro w qb hnq hbq H
 replace H:St W [] [vecR (some ⟨qb,0,none⟩) 1 36 1 1 (nums .u32 [p]),wrR wb a2 c2 (gX 0)] w:=H.vecOf 0 rfl (by simp [nums,maxLen])
 refine Lo O (AS O) (Lt (Cs (Cy (Lo O (YI O) (Lo O (YI O) (Lt ?_))))))
 refine VC.join (fun ρ w' => ∃ a c qb qc,ρ 5=.pointer (some ⟨wb,0,none⟩)∧ρ 6=.slice (some ⟨qb,0,none⟩) 1 qc ∧
  St W [] [vecR (some ⟨qb,0,none⟩) qc 36 1 1 (nums .u32 [ungreens p many]),wrR wb a c (gX many)] w') ?_ ?_
 case refine_1 =>
  refine Cb ?_
  refine Cl (fun mm ρ w' => ∃ i a c qb qc,i≤many∧mm=many - i∧ρ 5=.pointer (some ⟨wb,0,none⟩)∧ρ 6=.slice (some ⟨qb,0,none⟩) 1 qc∧ρ 15=.int .i64 (many:Nat)∧ρ 16=.int .i64 (i:Nat) ∧
   St W [] [vecR (some ⟨qb,0,none⟩) qc 36 1 1 (nums .u32 [ungreens p i]),wrR wb a c (gX i)] w') many
   ⟨0,a2,c2,qb,1,by omega,rfl,rfl,rfl,rfl,rfl,H⟩ ?_
  clear H
  rintro mm ρ w5 ⟨i,a,c,qb,qc,hi,hmm,r5,r6,r15,r16,H⟩
  refine Cy (Lo O (Y.lss r16 r15) (Lt ?_))
  by_cases hlt:i<many
  case neg =>
   obtain rfl:i=many:=by omega
   refine Cs (CF O (by omega) (Cx (thn_x (thn_x (blk_x (tn ?_))))))
   exact ⟨a,c,qb,qc,r5,r6,H⟩
  have hgx:=gX_length i
  refine Cs (CT O (by omega) (Ck (tn (Cs (Cb (Cy (Lo O (YP r5) (VL.bits H 1 O 1 1 (by omega) (by decide) (by omega) O O O O ?_))))))))
  intro w a3 c3 H
  simp only [List.set] at H
  refine Lt (Cy (Lo O (YP r5) (VL.bits H 1 O 2 2 (by omega) (by decide) (by rw [List.length_append,bnl];omega) O O O O ?_)))
  intro w a4 c4 H
  simp only [List.set] at H
  refine Lt ?_
  have hq:=ungreens_lt hp i
  have hv:VecOk w (some ⟨qb,0,none⟩) qc 36 1 1 (nums .u32 [ungreens p i]):=H.get (i:=0) rfl
  refine Cr (Lo O (Y.bld (ps:=[(0,.int .i64 2),(2,.int .i64 1)]) (trV 2 0 1 (.slice none 0 0)) O (by kernel_rfl)) (Lo O (YS r6) (VL.call O ent_27 (do_any w ⟨2,1,0,[]⟩ 1 qb 0 qc [ungreens p i] (.slice none 0 0) (by decide) (by decide) (by decide) (by decide) (vec_row (xs:=[ungreens p i]) hv) (by simpa using hq) O (by simp) (fun h => absurd O h) (fun h => absurd h (by decide)) (fun h => absurd h (by decide)) (fun h => absurd h (by decide)) (by simp)) O ?_)))
  rintro e w ⟨a',c',he,hv',hfa,hf⟩
  rw [fwd1_one] at he hv'
  obtain ⟨g,rfl,_⟩:=hv'.cell (by simp)
  replace H:=H.add (r:=vecR (some ⟨g,0,none⟩) c' 36 1 1 (nums .u32 [ungreens p (i+1)])) hf hv' (vecR_local _ _ _ _ _ _) hfa
  replace H:St W [] [vecR (some ⟨g,0,none⟩) c' 36 1 1 (nums .u32 [ungreens p (i+1)]),wrR wb a4 c4 (gX (i+1))] w:=H.sub [0,2] rfl (by decide)
  refine ⟨_,he,?_⟩
  refine Lo O (AS O) (Ln (blk_n (tn (Cr (Lo O (Y.add (r:=((i+1:Nat):Int)) r16 O (n64 (b:=1) (by omega))) (Lo O (YI O) (Lt ?_)))))))
  exact ⟨many - (i+1),by omega,i+1,a4,c4,g,c',by omega,rfl,r5,rfl,r15,rfl,H⟩
 case refine_2 =>
 clear H
 rintro ρ w5 ⟨a,c,qb,qc,r5,r6,H⟩
 have hgx:=gX_length many
 refine Cy (Lo O (YP r5) (VL.bits H 1 O 0 1 (by omega) (by decide) (by omega) O O O O ?_))
 intro w a3 c3 H
 simp only [List.set] at H
 refine Lt ?_
 obtain ⟨X,hX⟩:∃ X,X=gX many++bitsN 0 1:=⟨_,rfl⟩
 have hXl:X.length=41+3 * many:=by rw [hX,List.length_append,bnl];omega
 rw [← hX] at H
 refine Cy (Lo O (YP r5) (Lo O (YS r6) (VL.bslice H mk_23 (nums .i64 [1]) O O (by decide) (by decide) (by kernel_rfl) ?_)))
 intro w sb hnsb hbsb H
 refine Lo O (Y.bld (ps:=[(0,.slice (some ⟨sb,0,none⟩) 1 1)]) (chL (.slice (some ⟨sb,0,none⟩) 1 1) 0) O (by kernel_rfl)) (VL.box H (cs:=chL (.slice (some ⟨sb,0,none⟩) 1 1) 0) O O O ?_)
 intro w8 cb hncb hbcb H
 have hW:WayAt sb (.slice (some ⟨sb,0,none⟩) 1 1) w8:=⟨H.inB (i:=1) rfl,_,_,_,rfl,by omega,.inr ⟨sb,0,[1],rfl,rfl,rfl,fun j hj => by
  have:j=0:=by simp at hj;exact hj
  subst this
  exact H.cell 1 O rfl⟩⟩
 have hfr:=H.frm
 have hown:=H.own
 have hdis:∀ r ∈ [wrR wb a3 c3 X,blkR cb (chL (.slice (some ⟨sb,0,none⟩) 1 1) 0) 53],qb ∉ r.foot∧sb ∉ r.foot:=fun r hr => by
  simp only [List.mem_cons,List.not_mem_nil,or_false] at hr
  rcases hr with rfl | rfl
  ·exact ⟨apart_disj H.apart (i:=2) (j:=3) O O (by decide) qb (by simp [vecR,footA]),apart_disj H.apart (i:=1) (j:=3) O O (by decide) sb (by simp [blkR])⟩
  ·exact ⟨apart_disj H.apart (i:=2) (j:=0) O O (by decide) qb (by simp [vecR,footA]),apart_disj H.apart (i:=1) (j:=0) O O (by decide) sb (by simp [blkR])⟩
 have hv:VecOk w8 (some ⟨qb,0,none⟩) qc 36 1 1 (nums .u32 [ungreens p many]):=H.get (i:=2) rfl
 have hqc:1≤qc:=by
  rcases hv with ⟨h0,_⟩ | ⟨g,cur',h0,_,h1,_⟩
  ·cases h0
  ·exact h1
 obtain ⟨T,hT⟩:∃ T,T=wb :: cb :: footA a3:=⟨_,rfl⟩
 have hTr:∀ b ∈ T,∃ r ∈ [wrR wb a3 c3 X,blkR cb (chL (.slice (some ⟨sb,0,none⟩) 1 1) 0) 53],b ∈ r.foot:=by rw [hT];exact wr_ch_foot2
 have hTW:∀ b ∈ T,W.heap.size≤b:=fun b hb => by
  obtain ⟨r,hr,hbr⟩:=hTr b hb
  have hr2:r ∈ [blkR cb (chL (.slice (some ⟨sb,0,none⟩) 1 1) 0) 53,blkR sb (nums .i64 [1]) 3,vecR (some ⟨qb,0,none⟩) qc 36 1 1 (nums .u32 [ungreens p many]),wrR wb a3 c3 X]:=by
   simp only [List.mem_cons,List.not_mem_nil,or_false] at hr ⊢
   rcases hr with rfl | rfl <;> simp
  rcases hown r hr2 b hbr with h | h
  ·simp at h
  ·exact h
 replace H:St w8 T [wrR wb a3 c3 X,blkR cb (chL (.slice (some ⟨sb,0,none⟩) 1 1) 0) 53] w8:=by
  have H2:St W [] ([wrR wb a3 c3 X,blkR cb (chL (.slice (some ⟨sb,0,none⟩) 1 1) 0) 53]++[]) w8:=H.sub [3,0] rfl (by decide)
  rw [hT]
  exact H2.part _ wr_ch_foot
 refine VL.pixels (others:=[]) (pixels_all true) H hW (fun b hb e => ?_) hW.1 (pb:=qb) (po:=0) (pc:=qc) (wd:=1) (ht:=1) (px:=[ungreens p many]) (vec_row hv) (fun r hr => (hdis r hr).1) O (by simp) hqc (by decide) (by decide) (by simpa using ungreens_lt hp many) (by decide) (by rw [hXl];unfold xLim;simp;omega) O O O O O O O ?_
 ·obtain ⟨r,hr,hbr⟩:=hTr b hb
  exact (hdis r hr).2 (e ▸ hbr)
 intro w a' c' Z k' hZ hZl _ _ H
 have hfr2:Frm [] W w:=hfr.then H.frm fun x hx => .inr (hTW x hx)
 refine Lt (Cy (Lo O (YP r5) (Lo O (Y.nilP O) (Lo O (Y.fa fa_56_0 O) (Lo O (Y.ld ld_24 O (wr_cell H (i:=0) O)) (Lo O (AS O) (Lt (Ct ?_))))))))
 refine Done.ret1 O O ⟨Z,⟨a',c',by rw [hX] at *;rfl,?_,?_,hfr2,by rw [← hX,List.length_append];have:zMax true=3000000:=rfl;omega⟩,hZ⟩
 ·rw [← hX]
  exact (H.get (i:=0) (r:=wrR wb a' c' (X++Z)) O).2.1
 ·intro x hx
  rcases H.own _ (List.mem_cons_self ..) x (List.mem_cons_of_mem _ hx) with h | h
  ·exact hTW x h
  ·exact Nat.le_trans hfr.size h
def lim (c i q:Nat):Nat:=c+i * q
theorem lim_succ (c i q:Nat):lim c (i+1) q=lim c i q+q:=by unfold lim;rw [Nat.add_mul,Nat.one_mul,Nat.add_assoc]
structure Enc (wd ht a i:Nat) (px:List Nat) (l:List Tr) (now:Nat) (cur:List Nat) (X:Bits) (k:Nat):Prop where
 len:l.length≤i
 now1:1≤now
 nowle:now≤wd
 cl:cur.length=now * ht
 c32:∀ p ∈ cur,p<2 ^ 32
 undo:undoAll ht l cur=px
 rd:∃ Xt,X=hdBits wd ht a++Xt∧∀ Z v,Rds (decTrs ht (5 - l.length) now l) Z v→Rds (decTrs ht 5 wd []) (Xt++Z) v
 xl:X.length≤lim 100 i 800000
 kl:k≤lim 10 i 200000
section
variable {wd ht a i:Nat} {px:List Nat} {l:List Tr} {now:Nat} {cur:List Nat} {X:Bits} {k:Nat}
theorem Enc.cn (h:Enc wd ht a i px l now cur X k) (hn:wd * ht≤4096):cur.length≤4096:=by
 rw [h.cl]
 exact Nat.le_trans (Nat.mul_le_mul_right ht h.nowle) hn
theorem Enc.skip (h:Enc wd ht a i px l now cur X k) {k':Nat} (hk:k'≤k+200000):Enc wd ht a (i+1) px l now cur X k' :=
 ⟨Nat.le_succ_of_le h.len,h.now1,h.nowle,h.cl,h.c32,h.undo,h.rd,by rw [lim_succ];have:=h.xl;omega,by rw [lim_succ];have:=h.kl;omega⟩
theorem Enc.step (h:Enc wd ht a i px l now cur X k) {t:Tr} {Xp X':Bits} {k':Nat} (hk4:t.kind≤3) (hw:t.wd=now) (hi:i≤3) (hn:kindIn l t.kind=false) (hht:1≤ht)
  (hd:Rds (decTr now ht) (trBits t Xp) (t,newW t)) (h3:t.kind=3→Palette t cur) (hX:X'=X++(bitsN 1 1++trBits t Xp)) (hXl:X'.length≤X.length+800000) (hk:k'≤k+200000) :
  Enc wd ht a (i+1) px (l++[t]) (newW t) (fwd1 ht t cur) X' k':=by
 obtain ⟨f1,f2,f3⟩:=fwd1_ok hk4 (by rw [hw];exact h.now1) h3 (by rw [hw];exact h.cl) h.c32
 have hnw:1≤newW t∧newW t≤now:=by
  unfold newW
  split
  ·rw [hw];exact tilesN_le h.now1
  ·rw [hw];exact ⟨h.now1,Nat.le_refl _⟩
 have hl:=h.len
 obtain ⟨Xt,e1,e2⟩:=h.rd
 refine ⟨by rw [List.length_append];exact Nat.succ_le_succ hl,hnw.1,Nat.le_trans hnw.2 h.nowle,f2,f3,by rw [undoAll_snoc,f1];exact h.undo,⟨Xt++(bitsN 1 1++trBits t Xp),by rw [hX,e1,List.append_assoc],fun Z v hz => ?_⟩,by rw [lim_succ];have:=h.xl;omega,by rw [lim_succ];have:=h.kl;omega⟩
 rw [List.append_assoc,List.append_assoc]
 refine e2 _ _ ?_
 rw [show 5 - l.length=(5 - (l++[t]).length)+1 by rw [List.length_append,List.length_singleton];omega]
 exact decTrs_step hd hn hz
end
theorem newW_le {t:Tr} (h:1≤t.wd):1≤newW t:=by
 unfold newW
 split
 ·exact (tilesN_le h).1
 ·exact h
section
variable {w0 w:World} {S:List Nat} {l:List Res} {nn:Nat} {ops:Array Oper} {Q:Post} {rest:List Oper} {ρ:Env} {ty:TypeId} {pos:String} {after:Array Edge} {x y z:Operand} {d:Nat} {ts:Array TypeId}
theorem VL.tdo (H:St w0 S l w) (t:Tr) (ht:Nat) {qb qo qc:Nat} {cur:List Nat} {iv:Value} (hk:t.kind≤3) (hw1:1≤t.wd) (hht:1≤ht) (hb:t.bits≤9) (hr:Row w .u32 qb qo cur) (h32:∀ p ∈ cur,p<2 ^ 32) (hl:cur.length=t.wd * ht) (hn:cur.length≤4096)
  (hiv:t.kind≠2→∃ ib ic,iv=.slice (some ⟨ib,0,none⟩) t.px.length ic∧Row w .u32 ib 0 t.px) (h01:t.kind≤1→t.px.length=tilesN t.wd t.bits * tilesN ht t.bits∧∀ p ∈ t.px,p<2 ^ 32) (h0:t.kind=0→∀ q ∈ t.px,pG q<14)
  (h3:t.kind=3→Palette t cur∧t.px.Nodup) (htn:t.px.length≤4096) (hd:Nat.blt d nn=true) (hx:ev ρ x=.agg (trV t.kind t.bits t.wd iv).toArray) (hy:ev ρ y=.slice (some ⟨qb,qo,none⟩) cur.length qc) (hz:ev ρ z=.int .i64 (ht:Nat))
  (h:∀ w' g c',St w0 S (vecR (some ⟨g,0,none⟩) c' 36 1 (fwd1 ht t cur).length (nums .u32 (fwd1 ht t cur)) :: l) w'→VL Tryd.prog nn ops Q rest (upd ρ d (.slice (some ⟨g,0,none⟩) (fwd1 ht t cur).length c')) w') :
  VL Tryd.prog nn ops Q (⟨some d,.call ⟨.value (.func 27),#[x,y,z],ts⟩,ty,pos,after,none⟩ :: rest) ρ w :=
 VL.call hd ent_27 (do_any w t ht qb qo qc cur iv hk hw1 hht hb hr h32 hl hn hiv h01 h0 h3 htn) (by simp [hx,hy,hz]) fun e w' ⟨a',c',he,hv,hfa,hf⟩ => by
  have hlen:0<(fwd1 ht t cur).length:=by
   rw [(fwd1_ok hk hw1 (fun h => (h3 h).1) hl h32).2.1]
   exact Nat.mul_pos (newW_le hw1) hht
  obtain ⟨g,rfl,_⟩:=hv.cell hlen
  exact ⟨_,he,h w' g c' (H.add (r:=vecR (some ⟨g,0,none⟩) c' 36 1 (fwd1 ht t cur).length (nums .u32 (fwd1 ht t cur))) hf hv (vecR_local _ _ _ _ _ _) hfa)⟩
end
end Go.Proofs.YtinkhckpckfajaaDoor
