/-
  A picture is written and read: part 10 of 13 (Color, Any, Tokens, Normal, WTree).
-/
import Derived.Test.YtinkhckpckfajaaDoorA09
set_option linter.unusedVariables false
set_option linter.unusedSimpArgs false
set_option maxRecDepth 100000
set_option maxHeartbeats 2000000
namespace Go.Proofs.YtinkhckpckfajaaDoor
open Go
theorem and255 (a:Int):andI .i64 a 255=a % 256:=by
 show IntKind.i64.wrap ((BitVec.ofInt 64 a &&& BitVec.ofInt 64 255).toNat:Int)=_
 have e:(BitVec.ofInt 64 a &&& BitVec.ofInt 64 255).toNat=(a % 256).toNat:=by
  rw [BitVec.toNat_and,show (BitVec.ofInt 64 255).toNat=2 ^ 8 - 1 from rfl,Nat.and_two_pow_sub_one_eq_mod,BitVec.toNat_ofInt]
  omega
 rw [e,w64 (by omega)]
 omega
theorem argb_or {a r g b:Nat} (ha:a<256) (hr:r<256) (hg:g<256) (hb:b<256):a * 2 ^ 24 ||| r * 2 ^ 16 ||| g * 2 ^ 8 ||| b=argb a r g b:=by
 have e1:a * 2 ^ 24 ||| r * 2 ^ 16=2 ^ 24 * a+r * 2 ^ 16:=by
  rw [Nat.mul_comm a]
  exact (Nat.two_pow_add_eq_or_of_lt (by omega) a).symm
 have e2:2 ^ 24 * a+r * 2 ^ 16 ||| g * 2 ^ 8=2 ^ 16 * (a * 256+r)+g * 2 ^ 8:=by
  rw [show 2 ^ 24 * a+r * 2 ^ 16=2 ^ 16 * (a * 256+r) by omega]
  exact (Nat.two_pow_add_eq_or_of_lt (by omega) _).symm
 have e3:2 ^ 16 * (a * 256+r)+g * 2 ^ 8 ||| b=2 ^ 8 * ((a * 256+r) * 256+g)+b:=by
  rw [show 2 ^ 16 * (a * 256+r)+g * 2 ^ 8=2 ^ 8 * ((a * 256+r) * 256+g) by omega]
  exact (Nat.two_pow_add_eq_or_of_lt (by omega) _).symm
 rw [e1,e2,e3]
 unfold argb
 omega
def partN (p k:Nat):Nat:=p / 2 ^ k % 256
theorem partN_lt (p k:Nat):partN p k<256:=Nat.mod_lt _ (by omega)
theorem partN_A (p:Nat):partN p 24=pA p:=rfl
theorem partN_R (p:Nat):partN p 16=pR p:=rfl
theorem partN_G (p:Nat):partN p 8=pG p:=rfl
theorem partN_B (p:Nat):partN p 0=pB p:=by unfold partN pB;rw [Nat.pow_zero,Nat.div_one]
theorem part_any (W:World) (p k:Nat) (hp:p<2 ^ 32) (hk:k≤24) :
  Calls Tryd.prog 44 #[.int .u32 (p:Nat),.int .i64 (k:Nat)] W fun e w' => e=.returned (.int .i64 (partN p k:Nat))∧w'=W:=by
 have hd:p / 2 ^ k≤p:=Nat.div_le_self _ _
 have hl:=partN_lt p k
 refine enter (m:=10) Tryd.func44 O Tryd.ntmps44 O (Cy (Lo O (AI O) (Lt (Cy (Lo O (YI O) (Lo O (YI O) (Lo O (Y.shr (r:=((p / 2 ^ k:Nat):Int)) O O (by omega) (shrK (k:=.u32) (by show _≤(32:Nat);omega))) (Lo O (Y.and (r:=((partN p k:Nat):Int)) O O (by show andI .u32 _ ((255:Nat):Int)=_;rw [au32 ⟨by omega,by omega⟩,show (255:Nat)=2 ^ 8 - 1 from rfl,Nat.and_two_pow_sub_one_eq_mod];rfl)) (Lo O (Y.cv int_36_3 O (w64 (by omega))) (Lo O (AI O) (Lt (Ct ?_))))))))))))
 exact Done.ret1 O O ⟨rfl,rfl⟩
theorem color_any (W:World) (x y z u:Int) (a r g b:Nat) (ha:x % 256=(a:Int)) (hr:y % 256=(r:Int)) (hg:z % 256=(g:Int)) (hb:u % 256=(b:Int)) :
  Calls Tryd.prog 25 #[.int .i64 x,.int .i64 y,.int .i64 z,.int .i64 u] W fun e w' => e=.returned (.int .u32 (argb a r g b:Nat))∧w'=W:=by
 have e:=argb_or (a:=a) (r:=r) (g:=g) (b:=b) (by omega) (by omega) (by omega) (by omega)
 have o1:a * 2 ^ 24 ||| r * 2 ^ 16<2 ^ 32:=Nat.or_lt_two_pow (by omega) (by omega)
 have o2:a * 2 ^ 24 ||| r * 2 ^ 16 ||| g * 2 ^ 8<2 ^ 32:=Nat.or_lt_two_pow o1 (by omega)
 refine enter (m:=27) Tryd.func25 O Tryd.ntmps25 O (Cy (Lo O (AI O) (Lt (Cy (Lo O (YI O) (Lo O (Y.and (r:=(a:Int)) O O (by rw [and255,ha])) (Lo O (Y.cv (r:=(a:Int)) int_3_36 O (wu32 (by omega))) (Lo O (Y.shl (r:=((a * 2 ^ 24:Nat):Int)) O O (by omega) (lu32 (b:=24) (by omega))) (Lo O (YI O) (Lo O (Y.and (r:=(r:Int)) O O (by rw [and255,hr])) (Lo O (Y.cv (r:=(r:Int)) int_3_36 O (wu32 (by omega))) (Lo O (Y.shl (r:=((r * 2 ^ 16:Nat):Int)) O O (by omega) (lu32 (b:=16) (by omega))) (Lo O (Y.or O O (ou32 ⟨by omega,by omega⟩)) (Lo O (YI O) (Lo O (Y.and (r:=(g:Int)) O O (by rw [and255,hg])) (Lo O (Y.cv (r:=(g:Int)) int_3_36 O (wu32 (by omega))) ?_))))))))))))))))
 refine Lo O (Y.shl (r:=((g * 2 ^ 8:Nat):Int)) O O (by omega) (lu32 (b:=8) (by omega))) (Lo O (Y.or O O (ou32 ⟨o1,by omega⟩)) (Lo O (YI O) (Lo O (Y.and (r:=(b:Int)) O O (by rw [and255,hb])) (Lo O (Y.cv (r:=(b:Int)) int_3_36 O (wu32 (by omega))) (Lo O (Y.or (r:=((argb a r g b:Nat):Int)) O O (by rw [ou32 ⟨o2,by omega⟩,e])) (Lo O (AI O) (Lt (Ct ?_))))))))
 exact Done.ret1 O O ⟨rfl,rfl⟩
theorem blocks_any (W:World) (n b:Nat) (hn:n≤1000000) (hb:b≤9) :
  Calls Tryd.prog 24 #[.int .i64 (n:Nat),.int .i64 (b:Nat)] W fun e w' => e=.returned (.int .i64 (tilesN n b:Nat))∧w'=W:=by
 have hp:2 ^ b≤2 ^ 9:=Nat.pow_le_pow_right (by omega) hb
 have hp1:1≤2 ^ b:=Nat.two_pow_pos b
 refine enter (m:=12) Tryd.func24 O Tryd.ntmps24 O (Cy (Lo O (AI O) (Lt (Cy (Lo O (YI O) (Lo O (YI O) (Lo O (Y.shl (r:=((2 ^ b:Nat):Int)) O O (by omega) (by show IntKind.i64.wrap (((1:Nat):Int) * _)=_;rw [l64 ⟨by omega,by omega⟩,Nat.one_mul])) (Lo O (Y.add O O (n64 (by omega))) (Lo O (Y.sub (r:=((n+2 ^ b - 1:Nat):Int)) O O (s64 (b:=1) ⟨by omega,by omega⟩)) (Lo O (YI O) (Lo O (Y.shr (r:=((tilesN n b:Nat):Int)) O O (by omega) (shrK (k:=.i64) (by show _≤(64:Nat);omega))) (Lo O (AI O) (Lt (Ct ?_))))))))))))))
 exact Done.ret1 O O ⟨rfl,rfl⟩
theorem shorter_any (W:World) (n:Nat) (hn:n≤1000000) :
  Calls Tryd.prog 28 #[.int .i64 (n:Nat)] W fun e w' => e=.returned (.int .i64 (shorterN n:Nat))∧w'=W:=by
 refine enter (m:=12) Tryd.func28 O Tryd.ntmps28 O (Cy (Lo O (AI O) (Lt (Cs (Cb (Cy (Lo O (YI O) (Lo O (Y.leq O O) (Lo O (Y.asgB O) (Lt ?_))))))))))
 by_cases h2:n≤2
 case pos =>
  refine CT O (by omega) (Cy (Lo O (AI O) (Lt (Ct (blk_r (thn_r ?_))))))
  exact Done.ret1 O O ⟨by unfold shorterN;rw [if_pos h2];rfl,rfl⟩
 refine CF O (by omega) (Cy (Lo O (YI O) (Lo O (Y.leq O O) (Lo O (Y.asgB O) (Lt ?_)))))
 by_cases h4:n≤4
 case pos =>
  refine CT O (by omega) (Cy (Lo O (AI O) (Lt (Ct (blk_r (thn_r ?_))))))
  exact Done.ret1 O O ⟨by unfold shorterN;rw [if_neg h2,if_pos h4];rfl,rfl⟩
 refine CF O (by omega) (Cy (Lo O (YI O) (Lo O (Y.leq O O) (Lo O (Y.asgB O) (Lt ?_)))))
 by_cases h16:n≤16
 case pos =>
  refine CT O (by omega) (Cy (Lo O (AI O) (Lt (Ct (blk_r (thn_r ?_))))))
  exact Done.ret1 O O ⟨by unfold shorterN;rw [if_neg h2,if_neg h4,if_pos h16];rfl,rfl⟩
 refine CF O (by omega) (Ck (blk_n (tn (Cy (Lo O (AI O) (Lt (Ct ?_)))))))
 exact Done.ret1 O O ⟨by unfold shorterN;rw [if_neg h2,if_neg h4,if_neg h16];rfl,rfl⟩
section
variable {w:World} {nn:Nat} {ops:Array Oper} {Q:Post} {rest:List Oper} {ρ:Env} {ty:TypeId} {pos:String} {after:Array Edge} {x y z u:Operand} {d:Nat} {ts:Array TypeId} {K:Env→Prop}
theorem VL.part (p k:Nat) (hp:p<2 ^ 32) (hk:k≤24) (hd:Nat.blt d nn=true) (hx:ev ρ x=.int .u32 (p:Nat)) (hy:ev ρ y=.int .i64 (k:Nat)) (h:VL Tryd.prog nn ops Q rest (upd ρ d (.int .i64 (partN p k:Nat))) w) :
  VL Tryd.prog nn ops Q (⟨some d,.call ⟨.value (.func 44),#[x,y],ts⟩,ty,pos,after,none⟩ :: rest) ρ w:=VL.callP hd ent_44 (part_any w p k hp hk) (by simp [hx,hy]) h
theorem VS.part (p k:Nat) (hp:p<2 ^ 32) (hk:k≤24) (hd:Nat.blt d nn=true) (hx:ev ρ x=.int .u32 (p:Nat)) (hy:ev ρ y=.int .i64 (k:Nat)) (h:VS Tryd.prog nn ops w K rest (upd ρ d (.int .i64 (partN p k:Nat)))) :
  VS Tryd.prog nn ops w K (⟨some d,.call ⟨.value (.func 44),#[x,y],ts⟩,ty,pos,after,none⟩ :: rest) ρ:=VS.call hd ent_44 (part_any w p k hp hk) (by simp [hx,hy]) h
theorem VL.color {i j k l:Int} (a r g b:Nat) (ha:i % 256=(a:Int)) (hr:j % 256=(r:Int)) (hg:k % 256=(g:Int)) (hb:l % 256=(b:Int)) (hd:Nat.blt d nn=true) (hx:ev ρ x=.int .i64 i) (hy:ev ρ y=.int .i64 j) (hz:ev ρ z=.int .i64 k) (hu:ev ρ u=.int .i64 l) (h:VL Tryd.prog nn ops Q rest (upd ρ d (.int .u32 (argb a r g b:Nat))) w) :
  VL Tryd.prog nn ops Q (⟨some d,.call ⟨.value (.func 25),#[x,y,z,u],ts⟩,ty,pos,after,none⟩ :: rest) ρ w:=VL.callP hd ent_25 (color_any w i j k l a r g b ha hr hg hb) (by simp [hx,hy,hz,hu]) h
theorem VS.color {i j k l:Int} (a r g b:Nat) (ha:i % 256=(a:Int)) (hr:j % 256=(r:Int)) (hg:k % 256=(g:Int)) (hb:l % 256=(b:Int)) (hd:Nat.blt d nn=true) (hx:ev ρ x=.int .i64 i) (hy:ev ρ y=.int .i64 j) (hz:ev ρ z=.int .i64 k) (hu:ev ρ u=.int .i64 l) (h:VS Tryd.prog nn ops w K rest (upd ρ d (.int .u32 (argb a r g b:Nat)))) :
  VS Tryd.prog nn ops w K (⟨some d,.call ⟨.value (.func 25),#[x,y,z,u],ts⟩,ty,pos,after,none⟩ :: rest) ρ:=VS.call hd ent_25 (color_any w i j k l a r g b ha hr hg hb) (by simp [hx,hy,hz,hu]) h
end
theorem less_any (W:World) (p q:Nat) (hp:p<2 ^ 32) (hq:q<2 ^ 32) :
  Calls Tryd.prog 29 #[.int .u32 (p:Nat),.int .u32 (q:Nat)] W fun e w' => e=.returned (.int .u32 (lessPx p q:Nat))∧w'=W:=by
 have a1:=partN_lt p 24
 have a2:=partN_lt p 16
 have a3:=partN_lt p 8
 have a4:=partN_lt p 0
 have b1:=partN_lt q 24
 have b2:=partN_lt q 16
 have b3:=partN_lt q 8
 have b4:=partN_lt q 0
 have e:lessPx p q=argb ((partN p 24+256 - partN q 24) % 256) ((partN p 16+256 - partN q 16) % 256) ((partN p 8+256 - partN q 8) % 256) ((partN p 0+256 - partN q 0) % 256):=by
  unfold lessPx
  rw [partN_A,partN_A,partN_R,partN_R,partN_G,partN_G,partN_B,partN_B]
 rw [e]
 refine enter (m:=26) Tryd.func29 O Tryd.ntmps29 O (Cy (Lo O (AI O) (Lt (Cy (Lo O (YI O) (VL.part p 24 hp (by omega) O O O (Lo O (YI O) (VL.part q 24 hq (by omega) O O O (Lo O (Y.sub O O (w64 (by omega))) (Lo O (YI O) (VL.part p 16 hp (by omega) O O O (Lo O (YI O) (VL.part q 16 hq (by omega) O O O (Lo O (Y.sub O O (w64 (by omega))) (Lo O (YI O) (VL.part p 8 hp (by omega) O O O ?_))))))))))))))))
 refine Lo O (YI O) (VL.part q 8 hq (by omega) O O O (Lo O (Y.sub O O (w64 (by omega))) (Lo O (YI O) (VL.part p 0 hp (by omega) O O O (Lo O (YI O) (VL.part q 0 hq (by omega) O O O (Lo O (Y.sub O O (w64 (by omega))) (VL.color ((partN p 24+256 - partN q 24) % 256) ((partN p 16+256 - partN q 16) % 256) ((partN p 8+256 - partN q 8) % 256) ((partN p 0+256 - partN q 0) % 256) (by omega) (by omega) (by omega) (by omega) O O O O O (Lo O (AI O) (Lt (Ct ?_)))))))))))
 exact Done.ret1 O O ⟨rfl,rfl⟩
def Tk.cells (t:Tk) (g:Nat):List Value:=match t with
 | .lit p => [.int .u32 (p:Nat),.int .i64 (-1),.int .i64 (0:Nat),.int .i64 (0:Nat),.int .i64 (g:Nat)]
 | .hit p k => [.int .u32 (p:Nat),.int .i64 (k:Nat),.int .i64 (0:Nat),.int .i64 (0:Nat),.int .i64 (g:Nat)]
 | .cp p far long => [.int .u32 (p:Nat),.int .i64 (-1),.int .i64 (far:Nat),.int .i64 (long:Nat),.int .i64 (g:Nat)]
def Tk.five:Tk→List Int
 | .lit p => [(pG p:Nat),(pR p:Nat),(pB p:Nat),(pA p:Nat),-1]
 | .hit _ k => [(280+k:Nat),-1,-1,-1,-1]
 | .cp _ far long => [(256+symN long:Nat),-1,-1,-1,(symN far:Nat)]
def Tk.fits:Tk→Prop
 | .lit p => p<2 ^ 32
 | .hit p k => p<2 ^ 32∧k<2048
 | .cp p far long => p<2 ^ 32∧1≤long∧long≤4096∧1≤far∧far≤1048576
def ints (l:List Int):List Value:=l.map fun i => .int .i64 i
theorem symbols_any (W:World) (t:Tk) (g:Nat) (hf:t.fits) :
  Calls Tryd.prog 46 #[.agg (t.cells g).toArray] W fun e w' => e=.returned (.agg (ints t.five).toArray)∧Frm [] W w':=by
 have H:St W [] [] W:=St.nil W []
 cases t with
 | lit p =>
  have hp:p<2 ^ 32:=hf
  have a1:=partN_lt p 24
  have a2:=partN_lt p 16
  have a3:=partN_lt p 8
  have a4:=partN_lt p 0
  refine enter (m:=52) Tryd.func46 O Tryd.ntmps46 O (Cy (VL.box H (cs:=(Tk.lit p).cells g) O O O ?_))
  intro w b1 hn1 hb1 H
  refine VL.alloc H zer_111 O ?_
  intro w b2 hn2 hb2 H
  refine Lt (Cs (Cb (Cy (Lo O (Y.fa fa_110_3 O) (Lo O (Y.ld ld_3 O (H.cell 1 (v:=.int .i64 (0:Nat)) O O)) (Lo O (Y.gtr O O) (Lo O (Y.asgB O) (Lt (CF O (by omega) (Cy (Lo O (Y.fa fa_110_1 O) (Lo O (Y.ld ld_3 O (H.cell 1 (v:=.int .i64 (-1)) O O)) (Lo O (Y.geq O O) (Lo O (Y.asgB O) (Ln ?_)))))))))))))))
  refine tn (CF O (by omega) (Ck (blk_n (tn (Cs (VC.drawTail 13 mixedP (by kernel_rfl) ?_))))))
  intro w hsame
  replace H:=H.same hsame
  refine So O (Y.fa fa_110_0 O) (So O (Y.ld ld_36 O (H.cell 1 (v:=.int .u32 (p:Nat)) O O)) (VS.part p 8 hp (by omega) O O O (So O (Y.fa fa_110_0 O) (So O (Y.ld ld_36 O (H.cell 1 (v:=.int .u32 (p:Nat)) O O)) (VS.part p 16 hp (by omega) O O O (So O (Y.fa fa_110_0 O) (So O (Y.ld ld_36 O (H.cell 1 (v:=.int .u32 (p:Nat)) O O)) (VS.part p 0 hp (by omega) O O O (So O (Y.fa fa_110_0 O) (So O (Y.ld ld_36 O (H.cell 1 (v:=.int .u32 (p:Nat)) O O)) (VS.part p 24 hp (by omega) O O O (So O (Y.bld (ints [(partN p 8:Nat),(partN p 16:Nat),(partN p 0:Nat),(partN p 24:Nat),-1]) O (by kernel_rfl)) (Sn (VL.putW (vs:=ints [(partN p 8:Nat),(partN p 16:Nat),(partN p 0:Nat),(partN p 24:Nat),-1]) H 0 stn_111 O O O O O (by simp [ints,Value.oneCell']) ?_))))))))))))))
  intro w H
  simp only [List.set] at H
  refine Lt ?_
  have e:ints [(partN p 8:Nat),(partN p 16:Nat),(partN p 0:Nat),(partN p 24:Nat),-1]=ints (Tk.lit p).five:=by rw [partN_B];rfl
  rw [e] at H
  refine Ct ?_
  exact Done.retC1 (cs:=ints (Tk.lit p).five) O ldn_111 O O (fun j hj => by rw [Nat.zero_add];exact (H.blk (i:=0) O).cell j) ⟨rfl,H.frm⟩
 | hit p k =>
  obtain ⟨hp,hk⟩:=hf
  refine enter (m:=52) Tryd.func46 O Tryd.ntmps46 O (Cy (VL.box H (cs:=(Tk.hit p k).cells g) O O O ?_))
  intro w b1 hn1 hb1 H
  refine VL.alloc H zer_111 O ?_
  intro w b2 hn2 hb2 H
  refine Lt (Cs (Cb (Cy (Lo O (Y.fa fa_110_3 O) (Lo O (Y.ld ld_3 O (H.cell 1 (v:=.int .i64 (0:Nat)) O O)) (Lo O (Y.gtr O O) (Lo O (Y.asgB O) (Lt (CF O (by omega) (Cy (Lo O (Y.fa fa_110_1 O) (Lo O (Y.ld ld_3 O (H.cell 1 (v:=.int .i64 (k:Nat)) O O)) (Lo O (Y.geq O O) (Lo O (Y.asgB O) (Ln ?_)))))))))))))))
  refine tn (CT O (by omega) (Cy (Lo O (Y.fa fa_110_1 O) (Lo O (Y.ld ld_3 O (H.cell 1 (v:=.int .i64 (k:Nat)) O O)) (Lo O (Y.add O O (n64 (a:=280) (by omega))) (Lo O (Y.bld (ints (Tk.hit p k).five) O (by kernel_rfl)) (VL.putW (vs:=ints (Tk.hit p k).five) H 0 stn_111 O O O O O (by simp [ints,Tk.five,Value.oneCell']) ?_)))))))
  intro w H
  simp only [List.set] at H
  refine Lt (Ct (blk_r (thn_r ?_)))
  exact Done.retC1 (cs:=ints (Tk.hit p k).five) O ldn_111 O O (fun j hj => by rw [Nat.zero_add];exact (H.blk (i:=0) O).cell j) ⟨rfl,H.frm⟩
 | cp p far long =>
  obtain ⟨hp,h1,h2,h3,h4⟩:=hf
  have s1:=sym_spec h1 (by omega)
  have s2:=sym_spec h3 h4
  refine enter (m:=52) Tryd.func46 O Tryd.ntmps46 O (Cy (VL.box H (cs:=(Tk.cp p far long).cells g) O O O ?_))
  intro w b1 hn1 hb1 H
  refine VL.alloc H zer_111 O ?_
  intro w b2 hn2 hb2 H
  refine Lt (Cs (Cb (Cy (Lo O (Y.fa fa_110_3 O) (Lo O (Y.ld ld_3 O (H.cell 1 (v:=.int .i64 (long:Nat)) O O)) (Lo O (Y.gtr O O) (Lo O (Y.asgB O) (Lt (CT O (by omega) (Cy (Lo O (Y.fa fa_110_3 O) (Lo O (Y.ld ld_3 O (H.cell 1 (v:=.int .i64 (long:Nat)) O O)) (VL.callP O ent_50 (symbolOf_any _ long h1 (by omega)) O (Lo O (Y.movT O) (Lo O (Y.ext O O) ?_)))))))))))))))
  refine Lo O (Y.ext O O) (Lo O (Y.ext O O) (Lo O (AI O) (Lo O (AI O) (Lo O (AI O) (Lt (Cy (Lo O (Y.fa fa_110_2 O) (Lo O (Y.ld ld_3 O (H.cell 1 (v:=.int .i64 (far:Nat)) O O)) (VL.callP O ent_50 (symbolOf_any _ far h3 h4) O (Lo O (Y.movT O) (Lo O (Y.ext O O) (Lo O (Y.ext O O) (Lo O (Y.ext O O) (Lo O (AI O) (Lo O (AI O) (Lo O (AI O) (Ln ?_)))))))))))))))))
  refine tn (Cy (Lo O (YI O) (Lo O (Y.add O O (n64 (a:=256) (by omega))) (Lo O (YI O) (Lo O (Y.bld (ints (Tk.cp p far long).five) O (by kernel_rfl)) (VL.putW (vs:=ints (Tk.cp p far long).five) H 0 stn_111 O O O O O (by simp [ints,Tk.five,Value.oneCell']) ?_))))))
  intro w H
  simp only [List.set] at H
  refine Lt (Ct (blk_r (thn_r ?_)))
  exact Done.retC1 (cs:=ints (Tk.cp p far long).five) O ldn_111 O O (fun j hj => by rw [Nat.zero_add];exact (H.blk (i:=0) O).cell j) ⟨rfl,H.frm⟩
end Go.Proofs.YtinkhckpckfajaaDoor
set_option maxHeartbeats 1000000
namespace Go.Proofs.YtinkhckpckfajaaDoor
open Go
theorem St.perm {w0 w:World} {S:List Nat} {l l':List Res} (h:St w0 S l w) (hp:l.Perm l'):St w0 S l' w :=
 ⟨h.frm,fun r hr => h.has r (hp.mem_iff.2 hr),fun r hr => h.loc r (hp.mem_iff.2 hr),fun r hr => h.own r (hp.mem_iff.2 hr),
  (hp.pairwise_iff (fun hrs b hb hb2 => hrs b hb2 hb)).1 h.apart⟩
theorem VS.skipU {P:Program} {n:Nat} {ρ:Env} {w:World} {l:List Oper} {K:Env→Prop} {rest:List Oper} {op:Op} {ty:TypeId} {pos:String} {after:Array Edge} {d:Nat} {j dj:Nat} {b':Bool}
  (hj:(l[j]?).bind (·.dst)=some dj) (hdj:Nat.blt dj n=true) (hb:ρ dj=undef)
  (hd:Nat.blt d n=true) (h:VS P n l.toArray w K rest (upd ρ d undef)) :
  VS P n l.toArray w K (⟨some d,op,ty,pos,after,some (j,b')⟩ :: rest) ρ:=fun a ha => by
 unfold wpStill
 rw [if_neg (by simp [Region.wanted,ha.yieldedU l.toArray (j:=j) (by simpa using hj) hdj hb])]
 exact h _ (ha.put hd _)
def VO (P:Program) (n:Nat) (ops:Array Oper) (Q:Post) (i:Nat) (K:Env→World→Prop) (ρ:Env) (w:World):Prop :=
 ∀ a,Fr n ρ a→wpOp P ops (lift n Q) i (fun a' w' => ∃ ρ',Fr n ρ' a'∧K ρ' w') a w
section
variable {P:Program} {n:Nat} {Q:Post} {I:World→Prop} {fuel:Nat} {listed:Array Bool} {ρ:Env} {w:World} {l:List Oper} {K:Env→World→Prop}
theorem VO.mono {i:Nat} {K':Env→World→Prop} (h:VO P n l.toArray Q i K ρ w) (hk:∀ ρ w,K ρ w→K' ρ w):VO P n l.toArray Q i K' ρ w:=fun a ha =>
 wpOp_mono (fun a' w' ⟨ρ',hf,h⟩ => ⟨ρ',hf,hk _ _ h⟩) (h a ha)
theorem VO.op {i:Nat} {op:Op} {ty:TypeId} {pos:String} {after:Array Edge} {d:Nat} {v:Value} {w':World} (hi:l[i]?=some ⟨some d,op,ty,pos,after,none⟩)
  (hd:Nat.blt d n=true) (hy:Yld P (ev ρ) ⟨some d,op,ty,pos,after,none⟩ w v w') (h:K (upd ρ d v) w'):VO P n l.toArray Q i K ρ w:=fun a ha => by
 unfold wpOp
 simp only [show l.toArray[i]?=some ⟨some d,op,ty,pos,after,none⟩ by simpa using hi]
 rw [if_pos (by simp [Region.wanted])]
 refine .inl ?_
 unfold Oper.wp
 rw [ha.eval,hy]
 exact ⟨_,ha.put hd v,h⟩
theorem VO.st {i:Nat} {op:Op} {ty:TypeId} {pos:String} {after:Array Edge} {w':World} (hi:l[i]?=some ⟨none,op,ty,pos,after,none⟩)
  (hy:Skp P (ev ρ) ⟨none,op,ty,pos,after,none⟩ w w') (h:K ρ w'):VO P n l.toArray Q i K ρ w:=fun a ha => by
 unfold wpOp
 simp only [show l.toArray[i]?=some ⟨none,op,ty,pos,after,none⟩ by simpa using hi]
 rw [if_pos (by simp [Region.wanted])]
 refine .inl ?_
 unfold Oper.wp
 rw [ha.eval,hy]
 exact ⟨_,ha,h⟩
theorem VO.call {i:Nat} {f:FuncId} {xs:Array Operand} {ts:Array TypeId} {ty:TypeId} {pos:String} {after:Array Edge} {d:Nat} {vs:List Value} {R:Ending→World→Prop}
  (hi:l[i]?=some ⟨some d,.call ⟨.value (.func f),xs,ts⟩,ty,pos,after,none⟩)
  (hd:Nat.blt d n=true) (he:Ent P f) (hc:Calls P f vs.toArray w R) (hx:xs.toList.map (ev ρ)=vs)
  (h:∀ e w',R e w'→∃ v,e=.returned v∧K (upd ρ d v) w'):VO P n l.toArray Q i K ρ w:=fun a ha => by
 unfold wpOp
 simp only [show l.toArray[i]?=some ⟨some d,.call ⟨.value (.func f),xs,ts⟩,ty,pos,after,none⟩ by simpa using hi]
 rw [if_pos (by simp [Region.wanted])]
 refine .inl ?_
 have hr:(execOp (ev ρ) ⟨some d,.call ⟨.value (.func f),xs,ts⟩,ty,pos,after,none⟩).run P w=.ok (.enter f vs.toArray) w:=by
  have hx:xs.map (ev ρ)=vs.toArray:=by apply Array.ext';rw [Array.toList_map,hx]
  have:=he vs.toArray w
  simp only [execOp,resolve,Deferred.ofValue,ev,Sem.run_bind,Sem.run_pure,Result.andThen_ok,hx,Go.invoke,Array.append_empty]
  simpa using this
 unfold Oper.wp
 rw [ha.eval,hr]
 refine hc.mono fun e w' hR => ?_
 obtain ⟨v,rfl,hv⟩:=h e w' hR
 exact ⟨_,ha.put hd v,hv⟩
theorem VO.callV {i:Nat} {f:FuncId} {c:Operand} {fs cs:List Value} {xs:Array Operand} {ts:Array TypeId} {ty:TypeId} {pos:String} {after:Array Edge} {d:Nat} {vs:List Value} {R:Ending→World→Prop}
  (hi:l[i]?=some ⟨some d,.call ⟨.value c,xs,ts⟩,ty,pos,after,none⟩)
  (hd:Nat.blt d n=true) (he:Ent P f) (hv:ev ρ c=.func (.func f) fs.toArray cs.toArray) (hc:Calls P f (fs++vs++cs).toArray w R) (hx:xs.toList.map (ev ρ)=vs)
  (h:∀ e w',R e w'→∃ v,e=.returned v∧K (upd ρ d v) w'):VO P n l.toArray Q i K ρ w:=fun a ha => by
 unfold wpOp
 simp only [show l.toArray[i]?=some ⟨some d,.call ⟨.value c,xs,ts⟩,ty,pos,after,none⟩ by simpa using hi]
 rw [if_pos (by simp [Region.wanted])]
 refine .inl ?_
 have hr:(execOp (ev ρ) ⟨some d,.call ⟨.value c,xs,ts⟩,ty,pos,after,none⟩).run P w=.ok (.enter f (fs++vs++cs).toArray) w:=by
  have hx:xs.map (ev ρ)=vs.toArray:=by apply Array.ext';rw [Array.toList_map,hx]
  have:=he (fs++vs++cs).toArray w
  have e2:fs.toArray++vs.toArray++cs.toArray=(fs++vs++cs).toArray:=by simp
  simp only [execOp,resolve,Deferred.ofValue,hv,Sem.run_bind,Sem.run_pure,Result.andThen_ok,hx,Go.invoke,e2,this]
 unfold Oper.wp
 rw [ha.eval,hr]
 refine hc.mono fun e w' hR => ?_
 obtain ⟨v,rfl,hv⟩:=h e w' hR
 exact ⟨_,ha.put hd v,hv⟩
theorem VH.all {rs:List Nat} (hr:Region.ready .any l.toArray listed=rs) (hne:rs≠[]) (h:∀ i ∈ rs,VO P n l.toArray Q i (fun ρ' w' => I w'∧VH P n l.toArray Q I fuel (listed.setIfInBounds i true) ρ' w') ρ w) :
  VH P n l.toArray Q I (fuel+1) listed ρ w:=fun hQ a ha =>
 wpAnyH_all hr hne fun i hi => wpOp_mono (fun a' w' ⟨ρ',hf,h1,h2⟩ => ⟨h1,h2 hQ a' hf⟩) (h i hi a ha)
def lst (n:Nat) (base todo D:List Nat):Array Bool:=((List.range n).map fun k => base.contains k || (todo.contains k && !D.contains k)).toArray
theorem lst_set {m:Nat} {base todo D:List Nat} {i:Nat} (hi:i ∈ todo) (hD:D.Nodup):(lst m base todo D).setIfInBounds i true=lst m base todo (D.erase i):=by
 unfold lst
 rw [List.setIfInBounds_toArray]
 congr 1
 apply List.ext_getElem
 ·simp
 ·intro k h1 h2
  have hk:k<m:=by simpa using h2
  rw [List.getElem_set]
  simp only [List.getElem_map,List.getElem_range]
  by_cases e:i=k
  ·subst e
   rw [if_pos rfl]
   have h3:D.erase i=D.filter (· != i):=hD.erase_eq_filter i
   simp [h3,hi]
  ·rw [if_neg e]
   congr 2
   rw [Bool.eq_iff_iff]
   simp only [Bool.not_eq_true',List.contains_eq_mem,decide_eq_false_iff_not]
   rw [List.mem_erase_of_ne (fun h => e h.symm)]
def subs:List Nat→List (List Nat)
 | [] => [[]]
 | a :: l => subs l++(subs l).map (a :: ·)
theorem mem_subs {D l:List Nat} (h:D.Sublist l):D ∈ subs l:=by
 induction h with
 | slnil => simp [subs]
 | cons a _ ih => exact List.mem_append_left _ ih
 | cons_cons a _ ih => exact List.mem_append_right _ (List.mem_map_of_mem ih)
def closedB (pre:List (Nat × List Nat)) (D:List Nat):Bool:=pre.all fun q => D.contains q.1 || q.2.all fun p => !D.contains p
theorem closedB_erase {pre:List (Nat × List Nat)} {D:List Nat} {i:Nat} (h:closedB pre D=true) (hi:∀ q ∈ pre,q.1=i→∀ p ∈ q.2,p ∉ D):closedB pre (D.erase i)=true:=by
 refine List.all_eq_true.2 fun q hq => ?_
 have h1:=List.all_eq_true.1 h q hq
 by_cases e:q.1=i
 ·have:(q.2.all fun p => !(D.erase i).contains p)=true:=List.all_eq_true.2 fun p hp => by
   have h5:p ∉ D.erase i:=fun h => hi q hq e p hp (List.mem_of_mem_erase h)
   simpa using h5
  rw [this,Bool.or_true]
 ·rcases Bool.or_eq_true_iff.1 h1 with h2 | h2
  ·have:(D.erase i).contains q.1=true:=by
    have hm:q.1 ∈ D:=by simpa using h2
    simpa using (List.mem_erase_of_ne e).2 hm
   rw [this,Bool.true_or]
  ·have:(q.2.all fun p => !(D.erase i).contains p)=true:=List.all_eq_true.2 fun p hp => by
    have h3:=List.all_eq_true.1 h2 p hp
    have h4:p ∉ D:=by simpa using h3
    have h5:p ∉ D.erase i:=fun h => h4 (List.mem_of_mem_erase h)
    simpa using h5
   rw [this,Bool.or_true]
def anyChk (ops:Array Oper) (base todo:List Nat) (pre:List (Nat × List Nat)):Bool :=
 (subs todo).all fun D => D.isEmpty || !closedB pre D || (!(Region.ready .any ops (lst ops.size base todo D)).isEmpty && (Region.ready .any ops (lst ops.size base todo D)).all fun i => D.contains i && pre.all fun q => q.1 != i || q.2.all fun p => !D.contains p)
theorem VH.anyOrder (base todo:List Nat) (pre:List (Nat × List Nat)) (hnd:todo.Nodup) (hc:anyChk l.toArray base todo pre=true) (J:List Nat→Env→World→Prop) (hI:∀ D ρ w,J D ρ w→I w)
  (step:∀ D i ρ w,D.Sublist todo→i ∈ D→(∀ q ∈ pre,q.1=i→∀ p ∈ q.2,p ∉ D)→J D ρ w→VO P n l.toArray Q i (J (D.erase i)) ρ w)
  (h:∀ ρ w,J [] ρ w→VH P n l.toArray Q I fuel (lst l.length base todo []) ρ w) :
  ∀ (m:Nat) (D:List Nat),D.length=m→D.Sublist todo→closedB pre D=true→∀ ρ w,J D ρ w→VH P n l.toArray Q I (fuel+m) (lst l.length base todo D) ρ w
 | 0,D,hm,hD,hcl,ρ,w,hJ => by
  obtain rfl:=List.length_eq_zero_iff.1 hm
  exact h ρ w hJ
 | m+1,D,hm,hD,hcl,ρ,w,hJ => by
  have h1:=List.all_eq_true.1 hc D (mem_subs hD)
  have hne:D≠[]:=fun e => by rw [e] at hm;cases hm
  have he:D.isEmpty=false:=by cases D;exact absurd rfl hne;rfl
  rw [he,hcl,Bool.not_true,Bool.false_or,Bool.false_or,Bool.and_eq_true,List.size_toArray] at h1
  refine VH.all O (fun e => by rw [e] at h1;exact absurd h1.1 (by decide)) fun i hi => ?_
  have h2:=List.all_eq_true.1 h1.2 i hi
  rw [Bool.and_eq_true] at h2
  have hiD:i ∈ D:=by simpa using h2.1
  have hpre:∀ q ∈ pre,q.1=i→∀ p ∈ q.2,p ∉ D:=fun q hq hqi p hp hpD => by
   have:=List.all_eq_true.1 h2.2 q hq
   rw [hqi] at this
   simp only [bne_self_eq_false,Bool.false_or,List.all_eq_true] at this
   have:=this p hp
   simp [hpD] at this
  have hs:=step D i ρ w hD hiD hpre hJ
  have hDn:=hD.nodup hnd
  refine hs.mono fun ρ' w' hJ' => ⟨hI _ _ _ hJ',?_⟩
  rw [lst_set (hD.mem hiD) hDn]
  exact VH.anyOrder base todo pre hnd hc J hI step h m (D.erase i) (by rw [List.length_erase_of_mem hiD,hm];rfl) ((List.erase_sublist ..).trans hD) (closedB_erase hcl hpre) ρ' w' hJ'
def unl (D:List Nat) (i:Nat) (r:Res):List Res:=if i ∈ D then [] else [r]
theorem unl_ne {D:List Nat} {i j:Nat} {r:Res} (h:i≠j):unl (D.erase j) i r=unl D i r:=by
 unfold unl
 by_cases e:i ∈ D
 ·rw [if_pos e,if_pos ((List.mem_erase_of_ne h).2 e)]
 ·rw [if_neg e,if_neg (fun h2 => e ((List.mem_erase_of_ne h).1 h2))]
theorem unl_eq {D:List Nat} {i:Nat} {r:Res} (h:D.Nodup):unl (D.erase i) i r=[r]:=if_neg h.not_mem_erase
theorem unl_mem {D:List Nat} {i:Nat} {r:Res} (h:i ∈ D):unl D i r=[]:=if_pos h
theorem unl_nil {i:Nat} {r:Res}:unl [] i r=[r]:=if_neg (by simp)
theorem VH.orders (base todo:List Nat) (pre:List (Nat × List Nat)) (m:Nat) (hm:todo.length=m) (hl:listed=lst l.length base todo todo) (hnd:todo.Nodup) (hc:(closedB pre todo && anyChk l.toArray base todo pre)=true) (J:List Nat→Env→World→Prop) (hI:∀ D ρ w,J D ρ w→I w) (hJ:J todo ρ w)
  (step:∀ D i ρ w,i ∈ todo→i ∈ D→(∀ q ∈ pre,q.1=i→∀ p ∈ q.2,p ∉ D)→D.Nodup→J D ρ w→VO P n l.toArray Q i (J (D.erase i)) ρ w)
  (h:∀ ρ w,J [] ρ w→VH P n l.toArray Q I fuel (lst l.length base todo []) ρ w):VH P n l.toArray Q I (fuel+m) listed ρ w:=by
 subst hl
 rw [Bool.and_eq_true] at hc
 exact VH.anyOrder base todo pre hnd hc.2 J hI (fun D i ρ w hs hi hp hj => step D i ρ w (hs.mem hi) hi hp (hs.nodup hnd) hj) h m todo hm (List.Sublist.refl _) hc.1 ρ w hJ
end
section
variable {P:Program} {n:Nat} {Q:Post} {I:World→Prop} {fuel:Nat} {listed:Array Bool} {ρ:Env} {w w0:World} {S:List Nat} {lo:List Oper} {l:List Res} {K:Env→World→Prop} {ty t tt:TypeId} {pos:String} {after:Array Edge} {x y:Operand} {b off k d:Nat} {cs vs:List Value}
theorem VO.alloc {i:Nat} (hi:lo[i]?=some ⟨some d,.alloc t,ty,pos,after,none⟩) (H:St w0 S l w) (F:ZER P t cs) (hd:Nat.blt d n=true)
  (h:∀ w' b,w.heap.size≤b→Frm [] w w'→St w0 S (blkR b cs t :: l) w'→K (upd ρ d (.pointer (some ⟨b,0,none⟩))) w'):VO P n lo.toArray Q i K ρ w:=by
 obtain ⟨z,h1,h2⟩:=F.run
 refine VO.op hi hd (v:=.pointer (some ⟨w.heap.size,0,none⟩)) (w':=w.alloc (.cells cs.toArray t)) ?_ (h _ _ (Nat.le_refl _) (Frm.new _ _ _) (H.new cs t))
 unfold Yld
 simp only [execOp,Instr.alloc,Sem.run_bind,h1,Result.andThen_ok,newVar,newRow,h2]
 rfl
theorem VO.make {i el by_:Nat} {zs:List Value} {kl kc:IntKind} {m c:Int} (hi:lo[i]?=some ⟨some d,.makeSlice t x y,ty,pos,after,none⟩) (H:St w0 S l w) (F:MK P t el by_ zs) (lN cN:Nat) (hx:ev ρ x=.int kl m) (hy:ev ρ y=.int kc c) (hm:m=(lN:Int)) (hc:c=(cN:Int)) (hlc:lN≤cN) (hb:by_ * cN≤281474976710656) (h63:cN≤9223372036854775807) (hd:Nat.blt d n=true)
  (h:∀ w' b,w.heap.size≤b→Frm [] w w'→St w0 S (blkR b (mkCells cN zs) el :: l) w'→K (upd ρ d (.slice (some ⟨b,0,none⟩) lN cN)) w'):VO P n lo.toArray Q i K ρ w:=by
 subst hm hc
 obtain ⟨hu,i2,z,h1,h2,h3,h4,h5⟩:=F
 subst h5
 have hb':((i2.bytes * cN:Nat):Int)≤281474976710656:=by omega
 rw [Int.natCast_mul] at hb'
 have hr:=run_make (P:=P) w t el i2 z hu h1 h2 kl kc lN cN (by omega) (by omega) hb' (by omega)
 have e:madeCells z.cells ((cN:Int).toNat * i2.size)=(mkCells cN zs).toArray:=by
  have:=madeCells_list zs cN
  rw [← this,h4,← h3]
  rfl
 rw [e] at hr
 simp only [Int.toNat_natCast] at hr
 refine VO.op hi hd (v:=.slice (some ⟨w.heap.size,0,none⟩) lN cN) (w':=w.alloc (.cells (mkCells cN zs).toArray el)) ?_ (h _ _ (Nat.le_refl _) (Frm.new _ _ _) (H.new _ el))
 unfold Yld
 simp only [execOp,hx,hy,Sem.run_bind,hr,Result.andThen_ok]
 rfl
theorem VH.putW (j:Nat) (hio:lo[j]?=some ⟨none,.store t x y,ty,pos,after,none⟩) (hrd:Region.ready .any lo.toArray listed=[j]) (H:St w0 S l w) (i:Nat) (F:STn P t k) (hx:ev ρ x=.pointer (some ⟨b,0,none⟩)) (hi:l[i]?=some (blkR b cs tt)) (hy:ev ρ y=.agg vs.toArray) (hk:vs.length=k) (hl:vs.length=cs.length) (h1:∀ v ∈ vs,v.oneCell'=true)
  (h:∀ w',St w0 S (l.set i (blkR b vs tt)) w'→VH P n lo.toArray Q (Frm S w0) fuel (listed.setIfInBounds j true) ρ w'):VH P n lo.toArray Q (Frm S w0) (fuel+1) listed ρ w:=by
 subst hk
 obtain ⟨w',h2,h3,h4⟩:=run_storeCells_wr (P:=P) b 0 tt vs 0 cs w (H.blk hi) (by omega) h1
 have H':=H.turnB i hi h4 h3
 rw [Nat.add_zero,wr_all hl] at H'
 refine VH.st j hio hrd (w':=w') ?_ H'.frm (h _ H')
 unfold Skp
 simp only [execOp,hx,hy,Instr.storeAt,Instr.sureAddr,storeVar,Sem.run_bind,Sem.run_pure,Result.andThen_ok,Value.cells,siz F w]
 simp [h2]
end
end Go.Proofs.YtinkhckpckfajaaDoor
set_option maxHeartbeats 4000000
namespace Go.Proofs.YtinkhckpckfajaaDoor
open Go
def tkC (p:Nat) (s:Int) (f l g:Nat):List Value:=[.int .u32 (p:Nat),.int .i64 s,.int .i64 (f:Nat),.int .i64 (l:Nat),.int .i64 (g:Nat)]
theorem tkC_one (p:Nat) (s:Int) (f l g:Nat):∀ u ∈ tkC p s f l g,u.oneCell'=true:=by
 intro u hu
 simp only [tkC,List.mem_cons,List.not_mem_nil,or_false] at hu
 rcases hu with rfl | rfl | rfl | rfl | rfl <;> rfl
def tksCells (ts:List (Tk × Nat)):List Value:=ts.flatMap fun t => t.1.cells t.2
theorem tksCells_snoc (ts:List (Tk × Nat)) (t:Tk × Nat):tksCells (ts++[t])=tksCells ts++t.1.cells t.2:=by simp [tksCells]
structure TksTo (w cc:Nat) (grp:Nat→Nat) (px:List Nat) (ts:List (Tk × Nat)) (at_:Nat):Prop where
 go:∀ rest,TksOk w cc grp px at_ rest→TksOk w cc grp px 0 (ts++rest)
 fits:∀ t ∈ ts,t.1.fits∧∃ i,i<px.length∧t.2=grp i∧t.1.Ok w cc px i
 len:ts.length≤at_
theorem TksTo.snoc {w cc:Nat} {grp:Nat→Nat} {px:List Nat} {ts:List (Tk × Nat)} {at_:Nat} {t:Tk} (h:TksTo w cc grp px ts at_) (hl:at_<px.length) (ht:t.Ok w cc px at_) (hf:t.fits):TksTo w cc grp px (ts++[(t,grp at_)]) (at_+t.len):=by
 refine ⟨fun rest hr => ?_,fun q hq => ?_,?_⟩
 ·rw [List.append_assoc]
  exact h.go _ ⟨hl,rfl,ht,hr⟩
 ·rcases List.mem_append.1 hq with hq | hq
  ·exact h.fits q hq
  ·rw [List.mem_singleton] at hq
   subst hq
   exact ⟨hf,at_,hl,rfl,ht⟩
 ·have:=ht.pos
  have:=h.len
  rw [List.length_append,List.length_singleton]
  omega
section
variable {w0 w:World} {S:List Nat} {l:List Res} {cb B k:Nat} {v:Value}
variable {nn:Nat} {ops:Array Oper} {Q:Post} {rest:List Oper} {ρ:Env} {ty:TypeId} {pos:String} {after:Array Edge} {x y z:Operand} {d:Nat} {ts:Array TypeId}
theorem VL.written (H:St w0 S l w) (i:Nat) (hi:l[i]?=some (blkR cb (chL v k) 53)) (hw:WayAt B v w) (hB:B≠cb) (hk:k≤4611686018427300000) (far wide:Nat) (hf1:1≤far) (hf2:far≤1000000) (hw2:wide≤1000000)
  (hd:Nat.blt d nn=true) (hx:ev ρ x=.int .i64 (far:Nat)) (hy:ev ρ y=.int .i64 (wide:Nat)) (hz:ev ρ z=.pointer (some ⟨cb,0,none⟩))
  (h:∀ w' c k',1≤c→c≤1048576→distOf wide c=far→k≤k'→k'≤k+2→St w0 S (l.set i (blkR cb (chL v k') 53)) w'→VL Tryd.prog nn ops Q rest (upd ρ d (.int .i64 (c:Nat))) w') :
  VL Tryd.prog nn ops Q (⟨some d,.call ⟨.value (.func 60),#[x,y,z],ts⟩,ty,pos,after,none⟩ :: rest) ρ w :=
 VL.call hd ent_60 (written_any w far wide hf1 hf2 hw2 cb B k v (H.blk hi) hw hB hk) (by simp [hx,hy,hz]) fun e w' ⟨c,k',he,h1,h2,h3,hbc,hk1,hk2,hf⟩ => ⟨_,he,h _ c k' h1 h2 h3 hk1 hk2 (H.turnB i hi hf hbc)⟩
end
def cacheF (bits:Nat) (px:List Nat) (k:Nat):Nat:=if bits=0 then 0 else cached bits px k
theorem tokens_any (W:World) (pb po pc:Nat) (px:List Nat) (hr:Row W .u32 pb po px) (h32:∀ p ∈ px,p<2 ^ 32) (hn:px.length≤4096) (hpc:px.length≤pc) (wide bits:Nat) (hw1:1≤wide) (hw2:wide≤16384) (hbits:bits≤11)
  (cb B k:Nat) (v:Value) (hb:Blk W cb (chL v k) 53) (hw:WayAt B v W) (hB:B≠cb) (hk:k≤4611686018427000000) (hpb:pb≠cb)
  (G:Nat→Nat) (gf:FuncId) (fs cs:List Value) (he:Ent Tryd.prog gf) (hG:∀ w' i,Frm [cb] W w'→i<px.length→Calls Tryd.prog gf (fs++[Value.int .i64 (i:Nat)]++cs).toArray w' fun e w'' => e=.returned (.int .i64 (G i:Nat))∧Frm [] w' w'') :
  Calls Tryd.prog 45 #[.slice (some ⟨pb,po,none⟩) px.length pc,.int .i64 (wide:Nat),.int .i64 (bits:Nat),.func (.func gf) fs.toArray cs.toArray,.pointer (some ⟨cb,0,none⟩)] W fun e w' => ∃ ts a cap k',e=.returned (.slice a ts.length cap) ∧
   TksTo wide bits G px ts px.length∧St W [cb] [vecR a cap 110 5 ts.length (tksCells ts),blkR cb (chL v k') 53] w'∧k≤k'∧k'≤k+10 * px.length:=by
 have H:=St.ofBlk hb
 have hS:pb ∉ [cb]:=by simpa using hpb
 have hcbB:∀ x ∈ [cb],B≠x:=by simpa using hB
 have hpow:2 ^ bits≤2 ^ 11:=Nat.pow_le_pow_right (by omega) hbits
 have hpow1:1≤2 ^ bits:=Nat.two_pow_pos _
 obtain ⟨gv,hgv⟩:∃ gv,gv=Value.func (.func gf) fs.toArray cs.toArray:=⟨_,rfl⟩
 rw [← hgv]
 refine enter (m:=164) Tryd.func45 O Tryd.ntmps45 O (Cy (Lo O (Y.asg O) (Lt (Cy (Lo O (YI O) (Lo O (Y.shl (r:=((2 ^ bits:Nat):Int)) O O (by omega) (by show IntKind.i64.wrap (((1:Nat):Int) * _)=_;rw [l64 ⟨by omega,by omega⟩,Nat.one_mul])) (VL.make H mk_22 (2 ^ bits) (2 ^ bits) O O O O (Nat.le_refl _) (by omega) (by omega) O ?_)))))))
 intro w ab hn11 hab H
 rw [mkCells_one,rowK_zero] at H
 refine Lo O (AS O) (Lt ?_)
 replace H:=H.vec0 110 5
 replace H:St W [cb] [vecR none 0 110 5 0 [],blkR ab (rowK .u32 (cacheF bits (px.take 0)) (2 ^ bits)) 36,blkR cb (chL v k) 53] w:=by
  rw [rowK_congr (g:=fun _ => 0)]
  ·exact H
  ·intro j hj
   unfold cacheF
   split
   ·rfl
   ·rw [List.take_zero];rfl
 refine Cy (Lo O (Y.asg O) (Lt (Cs (Cy (Lo O (AI O) (Lt ?_))))))
 refine VC.join (fun ρ w' => ∃ ts a cap kk,ρ 12=.slice a ts.length cap∧TksTo wide bits G px ts px.length∧k≤kk∧kk≤k+10 * px.length ∧
  St W [cb] [vecR a cap 110 5 ts.length (tksCells ts),blkR cb (chL v kk) 53] w') ?_ ?_
 case refine_1 =>
  refine Cb ?_
  refine Cl (fun mm ρ w' => ∃ i ts a cap kk,i≤px.length∧mm=px.length - i∧TksTo wide bits G px ts i∧k≤kk∧kk≤k+10 * i ∧
   ρ 0=.slice (some ⟨pb,po,none⟩) px.length pc∧ρ 1=.int .i64 (wide:Nat)∧ρ 2=.int .i64 (bits:Nat)∧ρ 3=gv∧ρ 4=.pointer (some ⟨cb,0,none⟩)∧ρ 11=.slice (some ⟨ab,0,none⟩) (2 ^ bits:Nat) (2 ^ bits:Nat)∧ρ 12=.slice a ts.length cap∧ρ 13=.int .i64 (i:Nat) ∧
   St W [cb] [vecR a cap 110 5 ts.length (tksCells ts),blkR ab (rowK .u32 (cacheF bits (px.take i)) (2 ^ bits)) 36,blkR cb (chL v kk) 53] w') px.length
   ⟨0,[],none,0,k,by omega,rfl,⟨fun rest h => h,by simp,by simp⟩,by omega,by omega,rfl,rfl,rfl,rfl,rfl,rfl,rfl,rfl,H⟩ ?_
  clear H
  rintro mm ρ w5 ⟨i,ts,a,cap,kk,hi,hmm,hT,hk1,hk2,r0,r1,r2,r3,r4,r11,r12,r13,H⟩
  refine Cs (Cy (Lo O (YI r13) (Lo O (YS r0) (Lo O (Y.len sl_22 O) (Lo O (Y.lss O O) (Lt ?_))))))
  by_cases hlt:i<px.length
  case neg =>
   obtain rfl:i=px.length:=by omega
   refine CF O (by omega) (Cx (thn_x (thn_x (blk_x (tn ?_)))))
   exact ⟨ts,a,cap,kk,r12,hT,hk1,hk2,H.sub [0,2] O (by decide)⟩
  have hcell:=hr i hlt
  obtain ⟨p,hp⟩:∃ p,p=px[i]:=⟨_,rfl⟩
  have hp32:p<2 ^ 32:=by rw [hp];exact h32 _ (List.getElem_mem hlt)
  have hpg:px[i]?=some p:=by rw [hp];exact List.getElem?_eq_getElem hlt
  rw [← hp] at hcell
  have htl:=hT.len
  refine CT O (by omega) (Ck (tn (Cb (Cs ?_))))
  refine VC.join (fun ρ w' => ∃ b,ρ 0=.slice (some ⟨pb,po,none⟩) px.length pc∧ρ 1=.int .i64 (wide:Nat)∧ρ 2=.int .i64 (bits:Nat)∧ρ 3=gv∧ρ 4=.pointer (some ⟨cb,0,none⟩)∧ρ 11=.slice (some ⟨ab,0,none⟩) (2 ^ bits:Nat) (2 ^ bits:Nat)∧ρ 12=.slice a ts.length cap∧ρ 13=.int .i64 (i:Nat)∧ρ 14=.pointer (some ⟨b,0,none⟩) ∧
   St W [cb] [blkR b (tkC p (-1) 0 0 (G i)) 110,vecR a cap 110 5 ts.length (tksCells ts),blkR ab (rowK .u32 (cacheF bits (px.take i)) (2 ^ bits)) 36,blkR cb (chL v kk) 53] w') ?_ ?_
  case refine_1 =>
   refine VC.held ((Frm [cb] W)) mixedP (by with_reducible repeat (first | refine NoP.thn ?_ | refine NoP.blk ?_ | refine NoP.jmp ?_ | refine NoP.nojmp ?_ | exact NoP.done)) ?_
   intro w hsame
   replace H:=H.same hsame
   refine Ht 0 O (by kernel_rfl) (by kernel_rfl) (by kernel_rfl) O H.frm (fun w hI => YS r0) (Ht 1 O (by kernel_rfl) (by kernel_rfl) (by kernel_rfl) O H.frm (fun w hI => YI r13) (Ht 2 O (by kernel_rfl) (by kernel_rfl) (by kernel_rfl) O H.frm (fun w hI => Y.ixS1 i sl_22 O O O hlt) (Ht 3 O (by kernel_rfl) (by kernel_rfl) (by kernel_rfl) O H.frm (fun w hI => Y.ld ld_36 O (hI.cell hcell hS)) (Ht 4 O (by kernel_rfl) (by kernel_rfl) (by kernel_rfl) O H.frm (fun w hI => Y.mov r3) (Ht 5 O (by kernel_rfl) (by kernel_rfl) (by kernel_rfl) O H.frm (fun w hI => YI r13) ?_)))))
   refine VH.orders [0,1,2,3,4,5] [6,7,8] [(7,[6])] 3 O (by kernel_rfl) (by decide) (by kernel_rfl)
    (fun D ρ w' => (∃ b,(8 ∉ D→ρ 14=.pointer (some ⟨b,0,none⟩))∧St W [cb] (unl D 8 (blkR b [.int .u32 0,.int .i64 0,.int .i64 0,.int .i64 0,.int .i64 0] 110)++[vecR a cap 110 5 ts.length (tksCells ts),blkR ab (rowK .u32 (cacheF bits (px.take i)) (2 ^ bits)) 36,blkR cb (chL v kk) 53]) w') ∧
     (6 ∉ D→ρ 34=.int .i64 (G i:Nat))∧(7 ∉ D→ρ 35=.agg (tkC p (-1) 0 0 (G i)).toArray)∧ρ 31=.int .u32 (p:Nat)∧ρ 32=gv∧ρ 33=.int .i64 (i:Nat) ∧
     ρ 0=.slice (some ⟨pb,po,none⟩) px.length pc∧ρ 1=.int .i64 (wide:Nat)∧ρ 2=.int .i64 (bits:Nat)∧ρ 3=gv∧ρ 4=.pointer (some ⟨cb,0,none⟩)∧ρ 11=.slice (some ⟨ab,0,none⟩) (2 ^ bits:Nat) (2 ^ bits:Nat)∧ρ 12=.slice a ts.length cap∧ρ 13=.int .i64 (i:Nat))
    (fun D ρ w' h => by obtain ⟨⟨b,_,h⟩,_⟩:=h;exact h.frm) ?_ ?_ ?_
   ·exact ⟨⟨0,fun h => absurd (by decide) h,H⟩,fun h => absurd (by decide) h,fun h => absurd (by decide) h,rfl,rfl,rfl,r0,r1,r2,r3,r4,r11,r12,r13⟩
   ·clear H r0 r1 r2 r3 r4 r11 r12 r13
    rintro D j ρ w' hj hjD hpre hDn ⟨⟨b,h8,H⟩,h6,h7,r31,r32,r33,r0,r1,r2,r3,r4,r11,r12,r13⟩
    have ne:∀ {x y:Nat},x≠y→(x ∈ D.erase y ↔ x ∈ D):=fun hxy => List.mem_erase_of_ne hxy
    simp only [List.mem_cons,List.not_mem_nil,or_false] at hj
    rcases hj with rfl | rfl | rfl
    ·refine VO.callV O O he (fs:=fs) (cs:=cs) (by show ρ 32=_;rw [r32,hgv]) (hG w' i H.frm hlt) (by simp [ev,r33]) ?_
     rintro e w2 ⟨he2,hf2⟩
     replace H:=H.quiet hf2
     exact ⟨_,he2,⟨b,by rw [ne (by decide)];exact h8,by rw [unl_ne (by decide)];exact H⟩,fun _ => rfl,by rw [ne (by decide)];exact h7,r31,r32,r33,r0,r1,r2,r3,r4,r11,r12,r13⟩
    ·have h34:=h6 (hpre (7,[6]) (by simp) rfl 6 (by simp))
     refine VO.op O O (Y.bld (ps:=[(0,.int .u32 (p:Nat)),(1,.int .i64 (-1)),(4,.int .i64 (G i:Nat))]) (tkC p (-1) 0 0 (G i)) (by simp [ev,r31,h34]) (by kernel_rfl)) ?_
     exact ⟨⟨b,by rw [ne (by decide)];exact h8,by rw [unl_ne (by decide)];exact H⟩,by rw [ne (by decide)];exact h6,fun _ => rfl,r31,r32,r33,r0,r1,r2,r3,r4,r11,r12,r13⟩
    ·rw [unl_mem hjD] at H
     refine VO.alloc O H zer_110 O ?_
     intro w2 b2 _ _ H
     exact ⟨⟨b2,fun _ => rfl,by rw [unl_eq hDn];exact H⟩,by rw [ne (by decide)];exact h6,by rw [ne (by decide)];exact h7,r31,r32,r33,r0,r1,r2,r3,r4,r11,r12,r13⟩
   clear H r0 r1 r2 r3 r4 r11 r12 r13
   rintro ρ w6 ⟨⟨b,h8,H⟩,h6,h7,r31,r32,r33,r0,r1,r2,r3,r4,r11,r12,r13⟩
   have r14:=h8 (by simp)
   have r35:=h7 (by simp)
   rw [unl_nil] at H
   refine VH.putW 9 O (by kernel_rfl) H 0 stn_110 r14 O r35 O O (tkC_one _ _ _ _ _) ?_
   intro w H
   refine VH.nil (by kernel_rfl) (tn ?_)
   exact ⟨b,r0,r1,r2,r3,r4,r11,r12,r13,r14,H⟩
  case refine_2 =>
  clear H r0 r1 r2 r3 r4 r11 r12 r13
  rintro ρ w6 ⟨b14,r0,r1,r2,r3,r4,r11,r12,r13,r14,H⟩
  refine Cy (Lo O (AI O) (Lt (Cs (Cs ?_))))
  refine VC.join (fun ρ w' => ∃ (T:Bool) (k1:Nat),ρ 42=.bool T∧(T=true→0<i)∧kk≤k1∧k1≤kk+1∧ρ 0=.slice (some ⟨pb,po,none⟩) px.length pc∧ρ 1=.int .i64 (wide:Nat)∧ρ 2=.int .i64 (bits:Nat)∧ρ 3=gv∧ρ 4=.pointer (some ⟨cb,0,none⟩)∧ρ 11=.slice (some ⟨ab,0,none⟩) (2 ^ bits:Nat) (2 ^ bits:Nat)∧ρ 12=.slice a ts.length cap∧ρ 13=.int .i64 (i:Nat)∧ρ 14=.pointer (some ⟨b14,0,none⟩)∧ρ 15=.int .i64 (1:Nat) ∧
   St W [cb] [blkR b14 (tkC p (-1) 0 0 (G i)) 110,vecR a cap 110 5 ts.length (tksCells ts),blkR ab (rowK .u32 (cacheF bits (px.take i)) (2 ^ bits)) 36,blkR cb (chL v k1) 53] w') ?_ ?_
  case refine_1 =>
   by_cases hi0:0<i
   case neg =>
    refine Cr (Lo O (YI r13) (Lo O (Y.gtrD (b:=false) O O (decide_eq_false (by omega))) (Lo O (Y.movB O) (VL.skipG O O O O O (VL.skipG O O O O O (VL.skipG O O O O O (Lo O (Y.pick O O) (Lt ?_))))))))
    exact ⟨false,kk,rfl,by simp,by omega,by omega,r0,r1,r2,r3,r4,r11,r12,r13,r14,rfl,H⟩
   refine Cr (Lo O (YI r13) (Lo O (Y.gtrD (b:=true) O O (decide_eq_true (by omega))) (Lo O (Y.movB O) (LG O O O O (YP r4) (VL.nextG H 3 O hw hcbB hB 3 (by omega) (by omega) (by omega) O O O O O O ?_)))))
   intro w rc hrc H
   simp only [List.set] at H
   refine LG O O O O (Y.gtr O O) (Lo O (Y.pick O O) (Lt ?_))
   exact ⟨_,kk+1,rfl,fun _ => hi0,by omega,by omega,r0,r1,r2,r3,r4,r11,r12,r13,r14,rfl,H⟩
  case refine_2 =>
  clear H r0 r1 r2 r3 r4 r11 r12 r13 r14
  rintro ρ w6 ⟨T,k1,r42,hT1,hk3,hk4,r0,r1,r2,r3,r4,r11,r12,r13,r14,r15,H⟩
  refine VC.join (fun ρ w' => ∃ f l m k2,((f=0∧l=0∧m=1)∨(l=m∧(Tk.cp p f l).Ok wide bits px i))∧k1≤k2∧k2≤k1+6∧ρ 0=.slice (some ⟨pb,po,none⟩) px.length pc∧ρ 1=.int .i64 (wide:Nat)∧ρ 2=.int .i64 (bits:Nat)∧ρ 3=gv∧ρ 4=.pointer (some ⟨cb,0,none⟩)∧ρ 11=.slice (some ⟨ab,0,none⟩) (2 ^ bits:Nat) (2 ^ bits:Nat)∧ρ 12=.slice a ts.length cap∧ρ 13=.int .i64 (i:Nat)∧ρ 14=.pointer (some ⟨b14,0,none⟩)∧ρ 15=.int .i64 (m:Nat) ∧
   St W [cb] [blkR b14 (tkC p (-1) f l (G i)) 110,vecR a cap 110 5 ts.length (tksCells ts),blkR ab (rowK .u32 (cacheF bits (px.take i)) (2 ^ bits)) 36,blkR cb (chL v k2) 53] w') ?_ ?_
  case refine_1 =>
   cases T
   case false =>
    refine CB r42 (fun h => nomatch h) (fun _ => (Ck (tn ?_)))
    exact ⟨0,0,1,k1,.inl ⟨rfl,rfl,rfl⟩,by omega,by omega,r0,r1,r2,r3,r4,r11,r12,r13,r14,r15,H⟩
   have hi0:=hT1 rfl
   refine CB r42 (fun _ => ?_) (fun h => nomatch h)
   refine Cy (Lo O (YP r4) (Lo O (YI r13) (VL.next H 3 O hw hcbB hB i (by omega) (by omega) (by omega) O O O ?_)))
   intro w rf hrf H
   simp only [List.set] at H
   refine Lo O (Y.add O O (n64 (a:=1) (by omega))) (Lo O (AI O) (Lt (Cs (Cy (Lo O (YP r4) (VL.next H 3 O hw hcbB hB 2 (by omega) (by omega) (by omega) O O O ?_))))))
   intro w r2c hr2c H
   simp only [List.set] at H
   refine Lo O (Y.eql O O) (Lt ?_)
   refine VC.join (fun ρ w' => ∃ far k2,1≤far∧far≤i∧k1≤k2∧k2≤k1+3∧ρ 0=.slice (some ⟨pb,po,none⟩) px.length pc∧ρ 1=.int .i64 (wide:Nat)∧ρ 2=.int .i64 (bits:Nat)∧ρ 3=gv∧ρ 4=.pointer (some ⟨cb,0,none⟩)∧ρ 11=.slice (some ⟨ab,0,none⟩) (2 ^ bits:Nat) (2 ^ bits:Nat)∧ρ 12=.slice a ts.length cap∧ρ 13=.int .i64 (i:Nat)∧ρ 14=.pointer (some ⟨b14,0,none⟩)∧ρ 15=.int .i64 (1:Nat)∧ρ 16=.int .i64 (far:Nat) ∧
    St W [cb] [blkR b14 (tkC p (-1) 0 0 (G i)) 110,vecR a cap 110 5 ts.length (tksCells ts),blkR ab (rowK .u32 (cacheF bits (px.take i)) (2 ^ bits)) 36,blkR cb (chL v k2) 53] w') ?_ ?_
   case refine_1 =>
    by_cases h0:(r2c:Int)=0
    case neg =>
     refine CF O h0 (Ck (tn ?_))
     exact ⟨1+rf,k1+1+1,by omega,by omega,by omega,by omega,r0,r1,r2,r3,r4,r11,r12,r13,r14,r15,rfl,H⟩
    obtain ⟨opts,hopts⟩:∃ opts,opts=[1,wide,wide+1,2 * wide]:=⟨_,rfl⟩
    refine CT O h0 (Cr (Lo O (YI r13) (Lo O (YI r1) (Lo O (YI r1) (Lo O (Y.add O O (n64 (b:=1) (by omega))) (Lo O (YI r1) (Lo O (Y.mul O O (m64 (a:=2) (by omega))) (VL.bslice H mk_23 (nums .i64 [1,wide,wide+1,2 * wide]) O O (by decide) (by decide) (by kernel_rfl) ?_))))))))
    intro w b56 hn56 hb56 H
    refine Lo O (YP r4) (VL.next H 4 O hw hcbB hB 4 (by omega) (by omega) (by omega) O O O ?_)
    intro w r4c hr4c H
    simp only [List.set] at H
    refine Lo O (Y.ixS0 r4c sl_23 O O O (by omega)) (Lo O (Y.ld ld_3 O (H.cell 0 O (nums_get (by show r4c<4;omega)))) (Lo O (Y.min O O (minN)) (Lo O (AI O) (Lt ?_))))
    have hge:1≤[1,wide,wide+1,2 * wide].getD r4c 0:=by
     have:r4c=0∨r4c=1∨r4c=2∨r4c=3:=by omega
     rcases this with rfl | rfl | rfl | rfl <;> simp <;> omega
    exact ⟨_,k1+1+1+1,by omega,by omega,by omega,by omega,r0,r1,r2,r3,r4,r11,r12,r13,r14,r15,rfl,H.sub [1,2,3,4] O (by decide)⟩
   case refine_2 =>
   clear H r0 r1 r2 r3 r4 r11 r12 r13 r14 r15
   rintro ρ w7 ⟨far,k2,hf1,hf2,hk5,hk6,r0,r1,r2,r3,r4,r11,r12,r13,r14,r15,r16,H⟩
   refine Cy (Lo O (AI O) (Lt (Cs ?_)))
   refine VC.join (fun ρ w' => ∃ j,i+j≤px.length∧j≤4096∧(∀ q,q<j→px[i+q]?=px[i+q - far]?)∧ρ 0=.slice (some ⟨pb,po,none⟩) px.length pc∧ρ 1=.int .i64 (wide:Nat)∧ρ 2=.int .i64 (bits:Nat)∧ρ 3=gv∧ρ 4=.pointer (some ⟨cb,0,none⟩)∧ρ 11=.slice (some ⟨ab,0,none⟩) (2 ^ bits:Nat) (2 ^ bits:Nat)∧ρ 12=.slice a ts.length cap∧ρ 13=.int .i64 (i:Nat)∧ρ 14=.pointer (some ⟨b14,0,none⟩)∧ρ 15=.int .i64 (1:Nat)∧ρ 16=.int .i64 (far:Nat)∧ρ 17=.int .i64 (j:Nat) ∧
    St W [cb] [blkR b14 (tkC p (-1) 0 0 (G i)) 110,vecR a cap 110 5 ts.length (tksCells ts),blkR ab (rowK .u32 (cacheF bits (px.take i)) (2 ^ bits)) 36,blkR cb (chL v k2) 53] w') ?_ ?_
   case refine_1 =>
    refine Cb ?_
    refine Cl (fun mm ρ w' => ∃ j,mm=px.length - j∧i+j≤px.length∧j≤4096∧(∀ q,q<j→px[i+q]?=px[i+q - far]?)∧ρ 0=.slice (some ⟨pb,po,none⟩) px.length pc∧ρ 1=.int .i64 (wide:Nat)∧ρ 2=.int .i64 (bits:Nat)∧ρ 3=gv∧ρ 4=.pointer (some ⟨cb,0,none⟩)∧ρ 11=.slice (some ⟨ab,0,none⟩) (2 ^ bits:Nat) (2 ^ bits:Nat)∧ρ 12=.slice a ts.length cap∧ρ 13=.int .i64 (i:Nat)∧ρ 14=.pointer (some ⟨b14,0,none⟩)∧ρ 15=.int .i64 (1:Nat)∧ρ 16=.int .i64 (far:Nat)∧ρ 17=.int .i64 (j:Nat) ∧
     St W [cb] [blkR b14 (tkC p (-1) 0 0 (G i)) 110,vecR a cap 110 5 ts.length (tksCells ts),blkR ab (rowK .u32 (cacheF bits (px.take i)) (2 ^ bits)) 36,blkR cb (chL v k2) 53] w') px.length
     ⟨0,rfl,by omega,by omega,fun q hq => by omega,r0,r1,r2,r3,r4,r11,r12,r13,r14,r15,r16,rfl,H⟩ ?_
    clear H r0 r1 r2 r3 r4 r11 r12 r13 r14 r15 r16
    rintro mm ρ w8 ⟨j,hmm2,hj1,hj2,hall,r0,r1,r2,r3,r4,r11,r12,r13,r14,r15,r16,r17,H⟩
    by_cases hc1:i+j<px.length
    case neg =>
     refine Cs (Cs (Cd mixedP (by kernel_rfl) ?_))
     intro w hsame
     replace H:=H.same hsame
     refine So O (YI r13) (So O (YI r17) (So O (Y.add O O (n64 (by omega))) (So O (YS r0) (So O (Y.len sl_22 O) (So O (Y.lssD (b:=false) O O (decide_eq_false (by omega))) (So O (Y.movB O) (VS.skipG O O O O O (VS.skipG O O O O O (So O (Y.pick O O) (So O (Y.movB O) (VS.skipG O O O O O (VS.skipG O O O O O (VS.skipG O O O O O (VS.skipG O O O O O (VS.skipG O O O O O (VS.skipG O O O O O (VS.skipG O O O O O (VS.skipG O O O O O (VS.skipG O O O O O ?_)))))))))))))))))))
     refine VS.skipG O O O O O (VS.skipG O O O O O (VS.skipG O O O O O (VS.skipG O O O O O (VS.skipG O O O O O (VS.skipG O O O O O (So O (Y.pick O O) (Sn (tn (CB O (fun h => nomatch h) (fun _ => (Cx (thn_x (thn_x (blk_x (tn ?_)))))))))))))))
     exact ⟨j,hj1,hj2,hall,r0,r1,r2,r3,r4,r11,r12,r13,r14,r15,r16,r17,H⟩
    by_cases hc2:j<4096
    case neg =>
     refine Cs (Cs (Cd mixedP (by kernel_rfl) ?_))
     intro w hsame
     replace H:=H.same hsame
     refine So O (YI r13) (So O (YI r17) (So O (Y.add O O (n64 (by omega))) (So O (YS r0) (So O (Y.len sl_22 O) (So O (Y.lssD (b:=true) O O (decide_eq_true (by omega))) (So O (Y.movB O) (VS.opG O O O O (YI r17) (VS.opG O O O O (Y.lssD (b:=false) O O (decide_eq_false (by omega))) (So O (Y.pick O O) (So O (Y.movB O) (VS.skipG O O O O O (VS.skipG O O O O O (VS.skipG O O O O O (VS.skipG O O O O O (VS.skipG O O O O O (VS.skipG O O O O O (VS.skipG O O O O O (VS.skipG O O O O O (VS.skipG O O O O O ?_)))))))))))))))))))
     refine VS.skipG O O O O O (VS.skipG O O O O O (VS.skipG O O O O O (VS.skipG O O O O O (VS.skipG O O O O O (VS.skipG O O O O O (So O (Y.pick O O) (Sn (tn (CB O (fun h => nomatch h) (fun _ => (Cx (thn_x (thn_x (blk_x (tn ?_)))))))))))))))
     exact ⟨j,hj1,hj2,hall,r0,r1,r2,r3,r4,r11,r12,r13,r14,r15,r16,r17,H⟩
    have hx1:=hr (i+j) hc1
    have hx2:=hr (i+j - far) (by omega)
    obtain ⟨x1,e1⟩:∃ x,x=px[i+j]:=⟨_,rfl⟩
    obtain ⟨x2,e2⟩:∃ x,x=px[i+j - far]'(by omega):=⟨_,rfl⟩
    rw [← e1] at hx1
    rw [← e2] at hx2
    refine Cs (Cs (Cd mixedP (by kernel_rfl) ?_))
    intro w hsame
    replace H:=H.same hsame
    refine So O (YI r13) (So O (YI r17) (So O (Y.add O O (n64 (by omega))) (So O (YS r0) (So O (Y.len sl_22 O) (So O (Y.lssD (b:=true) O O (decide_eq_true (by omega))) (So O (Y.movB O) (VS.opG O O O O (YI r17) (VS.opG O O O O (Y.lssD (b:=true) O O (decide_eq_true (by omega))) (So O (Y.pick O O) (So O (Y.movB O) (VS.opG O O O O (YS r0) (VS.opG O O O O (YI r13) (VS.opG O O O O (YI r17) (VS.opG O O O O (Y.add O O (n64 (by omega))) (VS.opG O O O O (Y.ixS1 (i+j) sl_22 O O O hc1) (VS.opG O O O O (Y.ld ld_36 O (H.old hx1 hS)) (VS.opG O O O O (YS r0) (VS.opG O O O O (YI r13) (VS.opG O O O O (YI r17) ?_)))))))))))))))))))
    refine VS.opG O O O O (Y.add O O (n64 (by omega))) (VS.opG O O O O (YI r16) (VS.opG O O O O (Y.sub (r:=((i+j - far:Nat):Int)) O O (s64 ⟨by omega,by omega⟩)) (VS.opG O O O O (Y.ixS1 (i+j - far) sl_22 O O O (by omega)) (VS.opG O O O O (Y.ld ld_36 O (H.old hx2 hS)) (VS.opG O O O O (Y.eql O O) (So O (Y.pick O O) (Sn (tn ?_))))))))
    by_cases hxx:x1=x2
    case neg =>
     refine CF O (by omega) (Cx (thn_x (thn_x (blk_x (tn ?_)))))
     exact ⟨j,hj1,hj2,hall,r0,r1,r2,r3,r4,r11,r12,r13,r14,r15,r16,r17,H⟩
    refine CT O (by omega) (Ck (tn (Cb (Cr (Lo O (YI r17) (Lo O (Y.add O O (n64 (b:=1) (by omega))) (Lo O (AI O) (Ln (blk_n (tn ?_))))))))))
    refine ⟨px.length - (j+1),by omega,j+1,rfl,by omega,by omega,fun q hq => ?_,r0,r1,r2,r3,r4,r11,r12,r13,r14,r15,r16,rfl,H⟩
    by_cases hqj:q=j
    ·subst hqj
     rw [List.getElem?_eq_getElem hc1,List.getElem?_eq_getElem (show i+q - far<px.length by omega),← e1,← e2,hxx]
    ·exact hall q (by omega)
   case refine_2 =>
   clear H r0 r1 r2 r3 r4 r11 r12 r13 r14 r15 r16
   rintro ρ w8 ⟨j,hj1,hj2,hall,r0,r1,r2,r3,r4,r11,r12,r13,r14,r15,r16,r17,H⟩
   refine Cy (Lo O (YI r17) (Lo O (Y.gtr O O) (Lt ?_)))
   by_cases hj0:j > 0
   case neg =>
    refine CF O (by omega) (Ck (tn ?_))
    exact ⟨0,0,1,k2,.inl ⟨rfl,rfl,rfl⟩,by omega,by omega,r0,r1,r2,r3,r4,r11,r12,r13,r14,r15,H⟩
   refine CT O (by omega) (Cy (Lo O (YP r4) (Lo O (YI r17) (VL.next H 3 O hw hcbB hB j (by omega) (by omega) (by omega) O O O ?_))))
   intro w rm hrm H
   simp only [List.set] at H
   refine Lo O (Y.add O O (n64 (a:=1) (by omega))) (Lo O (AI O) (Lt (Cr (Lo O (YI O) (Lo O (YI r16) (Lo O (YI r1) (Lo O (YP r4) (VL.written H 3 O (hw.keep H.frm hcbB) hB (by omega) far wide hf1 (by omega) (by omega) O O O O ?_))))))))
   intro w fc k3 hfc1 hfc2 hfc3 hk7 hk8 H
   simp only [List.set] at H
   refine Lo O (Y.fa fa_110_3 r14) (VL.putI (m:=((1+rm:Nat):Int)) H 0 st_3 O O O O ?_)
   intro w H
   simp only [List.set] at H
   refine Lo O (Y.fa fa_110_2 r14) (VL.putI (m:=((fc:Nat):Int)) H 0 st_3 O O O O ?_)
   intro w H
   simp only [List.set] at H
   refine Lt ?_
   exact ⟨fc,1+rm,1+rm,k3,.inr ⟨rfl,hpg,by omega,by omega,by omega,hfc1,hfc2,by rw [hfc3];exact hf2,fun q hq => by rw [hfc3];exact hall q (by omega)⟩,by omega,by omega,r0,r1,r2,r3,r4,r11,r12,r13,r14,rfl,H⟩
  case refine_2 =>
  clear H r0 r1 r2 r3 r4 r11 r12 r13 r14 r15 r42
  rintro ρ w7 ⟨f,l,m,k2,hfl,hk5,hk6,r0,r1,r2,r3,r4,r11,r12,r13,r14,r15,H⟩
  refine Cs (Cy (Lo O (YS r0) (Lo O (YI r13) (Lo O (Y.ixS1 i sl_22 O O O hlt) (Lo O (Y.ld ld_36 O (H.old hcell hS)) (Lo O (YI r2) (Lo O (Y.max O O (maxN (b:=1))) (VL.callP O ent_61 (place_any _ p (Max.max bits 1) hp32 (by omega) (by omega)) O (Lo O (AI O) (Lt (Cs ?_)))))))))))
  refine VC.join (fun ρ w' => ∃ (T:Bool) (k3:Nat),ρ 133=.bool T∧(T=true→0<bits∧l=0∧cached bits (px.take i) (hashOf bits p)=p)∧k2≤k3∧k3≤k2+1∧ρ 0=.slice (some ⟨pb,po,none⟩) px.length pc∧ρ 1=.int .i64 (wide:Nat)∧ρ 2=.int .i64 (bits:Nat)∧ρ 3=gv∧ρ 4=.pointer (some ⟨cb,0,none⟩)∧ρ 11=.slice (some ⟨ab,0,none⟩) (2 ^ bits:Nat) (2 ^ bits:Nat)∧ρ 12=.slice a ts.length cap∧ρ 13=.int .i64 (i:Nat)∧ρ 14=.pointer (some ⟨b14,0,none⟩)∧ρ 15=.int .i64 (m:Nat)∧ρ 18=.int .i64 (hashOf (Max.max bits 1) p:Nat) ∧
   St W [cb] [blkR b14 (tkC p (-1) f l (G i)) 110,vecR a cap 110 5 ts.length (tksCells ts),blkR ab (rowK .u32 (cacheF bits (px.take i)) (2 ^ bits)) 36,blkR cb (chL v k3) 53] w') ?_ ?_
  case refine_1 =>
   by_cases hb0:0<bits
   case neg =>
    refine VC.drawTail 20 mixedP (by kernel_rfl) ?_
    intro w hsame
    replace H:=H.same hsame
    refine So O (YI r2) (So O (Y.gtrD (b:=false) O O (decide_eq_false (by omega))) (So O (Y.movB O) (VS.skipG O O O O O (VS.skipG O O O O O (VS.skipG O O O O O (So O (Y.pick O O) (So O (Y.movB O) (VS.skipG O O O O O (VS.skipG O O O O O (VS.skipG O O O O O (VS.skipG O O O O O (VS.skipG O O O O O (VS.skipG O O O O O (VS.skipG O O O O O (VS.skipG O O O O O (VS.skipG O O O O O (So O (Y.pick O O) (So O (Y.movB O) (VS.skipG O O O O O ?_)))))))))))))))))))
    refine Sn (VL.skipG O O O O O (VL.skipG O O O O O (Lo O (Y.pick O O) (Lt ?_))))
    exact ⟨false,k2,rfl,by simp,by omega,by omega,r0,r1,r2,r3,r4,r11,r12,r13,r14,r15,rfl,H⟩
   have emax:Max.max bits 1=bits:=by omega
   have hslot:hashOf bits p<2 ^ bits:=hashOf_lt hb0 hbits
   have hcache:(rowK .u32 (cacheF bits (px.take i)) (2 ^ bits))[hashOf bits p]?=some (.int .u32 ((cached bits (px.take i) (hashOf bits p):Nat):Int)):=by rw [rowK_get hslot];unfold cacheF;rw [if_neg (by omega)]
   rw [emax]
   by_cases hl0:l=0
   case neg =>
    refine VC.drawTail 20 mixedP (by kernel_rfl) ?_
    intro w hsame
    replace H:=H.same hsame
    refine So O (YI r2) (So O (Y.gtrD (b:=true) O O (decide_eq_true (by omega))) (So O (Y.movB O) (VS.opG O O O O (Y.fa fa_110_3 r14) (VS.opG O O O O (Y.ld ld_3 O (H.cell 0 (v:=.int .i64 (l:Nat)) O O)) (VS.opG O O O O (Y.eqlD (b:=false) O O (decide_eq_false (by omega))) (So O (Y.pick O O) (So O (Y.movB O) (VS.skipG O O O O O (VS.skipG O O O O O (VS.skipG O O O O O (VS.skipG O O O O O (VS.skipG O O O O O (VS.skipG O O O O O (VS.skipG O O O O O (VS.skipG O O O O O (VS.skipG O O O O O (So O (Y.pick O O) (So O (Y.movB O) (VS.skipG O O O O O ?_)))))))))))))))))))
    refine Sn (VL.skipG O O O O O (VL.skipG O O O O O (Lo O (Y.pick O O) (Lt ?_))))
    exact ⟨false,k2,rfl,by simp,by omega,by omega,r0,r1,r2,r3,r4,r11,r12,r13,r14,r15,rfl,H⟩
   by_cases hcp:cached bits (px.take i) (hashOf bits p)=p
   case neg =>
    refine VC.drawTail 20 mixedP (by kernel_rfl) ?_
    intro w hsame
    replace H:=H.same hsame
    refine So O (YI r2) (So O (Y.gtrD (b:=true) O O (decide_eq_true (by omega))) (So O (Y.movB O) (VS.opG O O O O (Y.fa fa_110_3 r14) (VS.opG O O O O (Y.ld ld_3 O (H.cell 0 (v:=.int .i64 (l:Nat)) O O)) (VS.opG O O O O (Y.eqlD (b:=true) O O (decide_eq_true (by omega))) (So O (Y.pick O O) (So O (Y.movB O) (VS.opG O O O O (YS r11) (VS.opG O O O O (YI O) (VS.opG O O O O (Y.ixS0 (hashOf bits p) sl_22 O (by rw [← emax];rfl) O hslot) (VS.opG O O O O (Y.ld ld_36 O (H.cell 2 O hcache)) (VS.opG O O O O (YS r0) (VS.opG O O O O (YI r13) (VS.opG O O O O (Y.ixS1 i sl_22 O O O hlt) (VS.opG O O O O (Y.ld ld_36 O (H.old hcell hS)) (VS.opG O O O O (Y.eqlD (b:=false) O O (decide_eq_false (by omega))) (So O (Y.pick O O) (So O (Y.movB O) (VS.skipG O O O O O ?_)))))))))))))))))))
    refine Sn (VL.skipG O O O O O (VL.skipG O O O O O (Lo O (Y.pick O O) (Lt ?_))))
    exact ⟨false,k2,rfl,by simp,by omega,by omega,r0,r1,r2,r3,r4,r11,r12,r13,r14,r15,rfl,H⟩
   refine VC.drawTail 20 mixedP (by kernel_rfl) ?_
   intro w hsame
   replace H:=H.same hsame
   refine So O (YI r2) (So O (Y.gtrD (b:=true) O O (decide_eq_true (by omega))) (So O (Y.movB O) (VS.opG O O O O (Y.fa fa_110_3 r14) (VS.opG O O O O (Y.ld ld_3 O (H.cell 0 (v:=.int .i64 (l:Nat)) O O)) (VS.opG O O O O (Y.eqlD (b:=true) O O (decide_eq_true (by omega))) (So O (Y.pick O O) (So O (Y.movB O) (VS.opG O O O O (YS r11) (VS.opG O O O O (YI O) (VS.opG O O O O (Y.ixS0 (hashOf bits p) sl_22 O (by rw [← emax];rfl) O hslot) (VS.opG O O O O (Y.ld ld_36 O (H.cell 2 O hcache)) (VS.opG O O O O (YS r0) (VS.opG O O O O (YI r13) (VS.opG O O O O (Y.ixS1 i sl_22 O O O hlt) (VS.opG O O O O (Y.ld ld_36 O (H.old hcell hS)) (VS.opG O O O O (Y.eqlD (b:=true) O O (decide_eq_true (by omega))) (So O (Y.pick O O) (So O (Y.movB O) (VS.opG O O O O (YP r4) ?_)))))))))))))))))))
   refine Sn (VL.nextG H 3 O hw hcbB hB 4 (by omega) (by omega) (by omega) O O O O O O ?_)
   intro w rq hrq H
   simp only [List.set] at H
   refine LG O O O O (Y.gtr O O) (Lo O (Y.pick O O) (Lt ?_))
   exact ⟨_,k2+1,rfl,fun _ => ⟨hb0,hl0,hcp⟩,by omega,by omega,r0,r1,r2,r3,r4,r11,r12,r13,r14,r15,rfl,H⟩
  case refine_2 =>
  clear H r0 r1 r2 r3 r4 r11 r12 r13 r14 r15
  rintro ρ w8 ⟨T2,k3,r133,hT2,hk7,hk8,r0,r1,r2,r3,r4,r11,r12,r13,r14,r15,r18,H⟩
  refine VC.join (fun ρ w' => ∃ (s:Int) (t:Tk),t.cells (G i)=tkC p s f l (G i)∧t.Ok wide bits px i∧t.fits∧t.len=m∧ρ 0=.slice (some ⟨pb,po,none⟩) px.length pc∧ρ 1=.int .i64 (wide:Nat)∧ρ 2=.int .i64 (bits:Nat)∧ρ 3=gv∧ρ 4=.pointer (some ⟨cb,0,none⟩)∧ρ 11=.slice (some ⟨ab,0,none⟩) (2 ^ bits:Nat) (2 ^ bits:Nat)∧ρ 12=.slice a ts.length cap∧ρ 13=.int .i64 (i:Nat)∧ρ 14=.pointer (some ⟨b14,0,none⟩)∧ρ 15=.int .i64 (m:Nat) ∧
   St W [cb] [blkR b14 (tkC p s f l (G i)) 110,vecR a cap 110 5 ts.length (tksCells ts),blkR ab (rowK .u32 (cacheF bits (px.take i)) (2 ^ bits)) 36,blkR cb (chL v k3) 53] w') ?_ ?_
  case refine_1 =>
   cases T2
   case false =>
    refine CB r133 (fun h => nomatch h) (fun _ => (Ck (tn ?_)))
    rcases hfl with ⟨rfl,rfl,rfl⟩ | ⟨rfl,hok⟩
    ·exact ⟨-1,.lit p,rfl,hpg,hp32,rfl,r0,r1,r2,r3,r4,r11,r12,r13,r14,r15,H⟩
    ·obtain ⟨_,q1,q2,_,q3,q4,_⟩:=id hok
     exact ⟨-1,.cp p f l,rfl,hok,⟨hp32,q1,q2,q3,q4⟩,rfl,r0,r1,r2,r3,r4,r11,r12,r13,r14,r15,H⟩
   obtain ⟨hb0,hl0,hcp⟩:=hT2 rfl
   have hslot:hashOf bits p<2 ^ bits:=hashOf_lt hb0 hbits
   rw [show Max.max bits 1=bits by omega] at r18
   refine CB r133 (fun _ => ?_) (fun h => nomatch h)
   refine Cr (Lo O (YI r18) (Lo O (Y.fa fa_110_1 r14) (VL.putI (m:=((hashOf bits p:Nat):Int)) H 0 st_3 O O O O ?_)))
   intro w H
   simp only [List.set] at H
   refine Lt ?_
   rcases hfl with ⟨rfl,rfl,rfl⟩ | ⟨rfl,hok⟩
   ·exact ⟨(hashOf bits p:Nat),.hit p (hashOf bits p),rfl,⟨hpg,hb0,hslot,hcp⟩,⟨hp32,by omega⟩,rfl,r0,r1,r2,r3,r4,r11,r12,r13,r14,r15,H⟩
   ·obtain ⟨_,q1,_⟩:=id hok
    omega
  case refine_2 =>
  clear H r0 r1 r2 r3 r4 r11 r12 r13 r14 r15 r18 hfl
  rintro ρ w9 ⟨s,t,htc,hok,hfit,hlen,r0,r1,r2,r3,r4,r11,r12,r13,r14,r15,H⟩
  have hpos:=hok.pos
  rw [hlen] at hpos
  have hpci:i<pc:=by omega
  refine Cs (Cy (Lo O (YS r0) (Lo O (YI r13) (Lo O (YI r13) (Lo O (YI r15) (Lo O (Y.add O O (n64 (by omega))) (Lo O (Y.sliceLH i (i+m) sl_22 O O O O O (by omega) (by omega) hpci) (Lo O (Y.len (l:=i+m - i) sl_22 O) (Lo O (YI O) (Lt ?_))))))))))
  refine VC.join (fun ρ w' => ρ 0=.slice (some ⟨pb,po,none⟩) px.length pc∧ρ 1=.int .i64 (wide:Nat)∧ρ 2=.int .i64 (bits:Nat)∧ρ 3=gv∧ρ 4=.pointer (some ⟨cb,0,none⟩)∧ρ 11=.slice (some ⟨ab,0,none⟩) (2 ^ bits:Nat) (2 ^ bits:Nat)∧ρ 12=.slice a ts.length cap∧ρ 13=.int .i64 (i:Nat)∧ρ 14=.pointer (some ⟨b14,0,none⟩)∧ρ 15=.int .i64 (m:Nat) ∧
   St W [cb] [blkR b14 (tkC p s f l (G i)) 110,vecR a cap 110 5 ts.length (tksCells ts),blkR ab (rowK .u32 (cacheF bits (px.take (i+m))) (2 ^ bits)) 36,blkR cb (chL v k3) 53] w') ?_ ?_
  case refine_1 =>
   refine Cb ?_
   refine Cl (fun mm ρ w' => ∃ j,mm=m - j∧j≤m∧ρ 0=.slice (some ⟨pb,po,none⟩) px.length pc∧ρ 1=.int .i64 (wide:Nat)∧ρ 2=.int .i64 (bits:Nat)∧ρ 3=gv∧ρ 4=.pointer (some ⟨cb,0,none⟩)∧ρ 11=.slice (some ⟨ab,0,none⟩) (2 ^ bits:Nat) (2 ^ bits:Nat)∧ρ 12=.slice a ts.length cap∧ρ 13=.int .i64 (i:Nat)∧ρ 14=.pointer (some ⟨b14,0,none⟩)∧ρ 15=.int .i64 (m:Nat)∧ρ 141=.slice (some ⟨pb,po+i * 1,none⟩) (i+m - i) (pc - i)∧ρ 142=.int .i64 (m:Nat)∧ρ 143=.int .i64 (j:Nat) ∧
    St W [cb] [blkR b14 (tkC p s f l (G i)) 110,vecR a cap 110 5 ts.length (tksCells ts),blkR ab (rowK .u32 (cacheF bits (px.take (i+j))) (2 ^ bits)) 36,blkR cb (chL v k3) 53] w') m
    ⟨0,rfl,by omega,r0,r1,r2,r3,r4,r11,r12,r13,r14,r15,rfl,by show Value.int .i64 ((i+m - i:Nat):Int)=_;rw [Nat.add_sub_cancel_left],rfl,H⟩ ?_
   clear H r0 r1 r2 r3 r4 r11 r12 r13 r14 r15
   rintro mm ρ w10 ⟨j,hmm3,hjm,r0,r1,r2,r3,r4,r11,r12,r13,r14,r15,r141,r142,r143,H⟩
   refine Cy (Lo O (Y.lss r143 r142) (Lt ?_))
   by_cases hjlt:j<m
   case neg =>
    obtain rfl:j=m:=by omega
    refine Cs (CF O (by omega) (Cx (thn_x (thn_x (blk_x (tn ?_))))))
    exact ⟨r0,r1,r2,r3,r4,r11,r12,r13,r14,r15,H⟩
   have hij:i+j<px.length:=by omega
   have hx1:=hr (i+j) hij
   obtain ⟨x1,e1⟩:∃ x,x=px[i+j]:=⟨_,rfl⟩
   have hx32:x1<2 ^ 32:=by rw [e1];exact h32 _ (List.getElem_mem hij)
   have hxg:px.getD (i+j) 0=x1:=by simp [hij,e1]
   rw [← e1,show po+(i+j)=po+i * 1+j by omega] at hx1
   have hstep:∀ q,cacheF bits (px.take (i+(j+1))) q=if bits=0 then 0 else if q=hashOf bits x1 then x1 else cached bits (px.take (i+j)) q:=fun q => by
    unfold cacheF
    split
    ·rfl
    ·rw [show i+(j+1)=i+j+1 by omega,cached_take hij,hxg]
   refine Cs (CT O (by omega) (Ck (tn (Cs (Cb (Cy (Lo O (Y.ixS1 j sl_22 r141 r143 O (by omega)) (Lo O (Y.ld ld_36 O (H.old hx1 hS)) (Lo O (AI O) (Lt (Cy (Lo O (YI r2) (Lo O (Y.gtr O O) (Lt ?_))))))))))))))
   refine VC.joinB (fun ρ w' => ρ 0=.slice (some ⟨pb,po,none⟩) px.length pc∧ρ 1=.int .i64 (wide:Nat)∧ρ 2=.int .i64 (bits:Nat)∧ρ 3=gv∧ρ 4=.pointer (some ⟨cb,0,none⟩)∧ρ 11=.slice (some ⟨ab,0,none⟩) (2 ^ bits:Nat) (2 ^ bits:Nat)∧ρ 12=.slice a ts.length cap∧ρ 13=.int .i64 (i:Nat)∧ρ 14=.pointer (some ⟨b14,0,none⟩)∧ρ 15=.int .i64 (m:Nat)∧ρ 141=.slice (some ⟨pb,po+i * 1,none⟩) (i+m - i) (pc - i)∧ρ 142=.int .i64 (m:Nat)∧ρ 143=.int .i64 (j:Nat) ∧
    St W [cb] [blkR b14 (tkC p s f l (G i)) 110,vecR a cap 110 5 ts.length (tksCells ts),blkR ab (rowK .u32 (cacheF bits (px.take (i+(j+1)))) (2 ^ bits)) 36,blkR cb (chL v k3) 53] w') ?_ ?_
   case refine_1 =>
    by_cases hb0:bits > 0
    case neg =>
     refine CF O (by omega) (Ck (blk_n (tn ?_)))
     refine ⟨r0,r1,r2,r3,r4,r11,r12,r13,r14,r15,r141,r142,r143,?_⟩
     rw [rowK_congr (g:=cacheF bits (px.take (i+j)))]
     ·exact H
     ·intro q _
      rw [hstep q]
      unfold cacheF
      rw [if_pos (by omega),if_pos (by omega)]
    have hslot:hashOf bits x1<2 ^ bits:=hashOf_lt hb0 hbits
    refine CT O (by omega) (Cr (Lo O (YS r11) (Lo O (YI O) (Lo O (YI r2) (VL.callP O ent_61 (place_any _ x1 bits hx32 hb0 hbits) O (Lo O (YI O) (Lo O (Y.ixS0 (hashOf bits x1) sl_22 O O O hslot) (VL.putR (v:=x1) H 2 st_36 O O O hslot ?_))))))))
    intro w H
    simp only [List.set] at H
    refine Ln (blk_n (tn ?_))
    refine ⟨r0,r1,r2,r3,r4,r11,r12,r13,r14,r15,r141,r142,r143,?_⟩
    rw [rowK_congr (g:=fun q => if q=hashOf bits x1 then x1 else cacheF bits (px.take (i+j)) q)]
    ·exact H
    ·intro q _
     show (if q=hashOf bits x1 then x1 else cacheF bits (px.take (i+j)) q)=_
     rw [hstep q,if_neg (show ¬ bits=0 by omega)]
     unfold cacheF
     rw [if_neg (show ¬ bits=0 by omega)]
   case refine_2 =>
   clear H r0 r1 r2 r3 r4 r11 r12 r13 r14 r15 r141 r142 r143
   rintro ρ w11 ⟨r0,r1,r2,r3,r4,r11,r12,r13,r14,r15,r141,r142,r143,H⟩
   refine Cr (Lo O (Y.add r143 O (n64 (b:=1) (by omega))) (Lo O (YI O) (Lt ?_)))
   exact ⟨m - (j+1),by omega,j+1,rfl,by omega,r0,r1,r2,r3,r4,r11,r12,r13,r14,r15,r141,r142,rfl,H⟩
  case refine_2 =>
  clear H r0 r1 r2 r3 r4 r11 r12 r13 r14 r15
  rintro ρ w10 ⟨r0,r1,r2,r3,r4,r11,r12,r13,r14,r15,H⟩
  refine Cy (Lo O (YS r12) (Lo O (Y.ldn (cs:=tkC p s f l (G i)) ldn_110 r14 O (fun j hj => by rw [Nat.zero_add];exact (H.blk (i:=0) O).cell j)) (VL.bslice H mk_104 (tkC p s f l (G i)) O O (by decide) (by decide) (by kernel_rfl) ?_)))
  intro w b158 hn158 hb158 H
  refine VL.append H 2 mk_104 (by decide) O O O O (news:=tkC p s f l (G i)) O (fun j u hj => by rw [Nat.zero_add];exact H.cell 0 O hj) (tkC_one _ _ _ _ _) (by simp only [maxLen];omega) (by omega) ?_
  intro a' c' w hfa H
  simp only [List.set] at H
  refine Lo O (AS O) (Lt (Cr (Lo O (YI r13) (Lo O (YI r15) (Lo O (Y.add O O (n64 (by omega))) (Lo O (AI O) (Ln (blk_n (tn ?_)))))))))
  have hT':=hT.snoc hlt hok hfit
  rw [hlen] at hT'
  refine ⟨px.length - (i+m),by omega,i+m,ts++[(t,G i)],a',c',k3,by omega,rfl,hT',by omega,by omega,r0,r1,r2,r3,r4,r11,?_,rfl,?_⟩
  ·rw [List.length_append];rfl
  ·rw [tksCells_snoc,List.length_append,htc]
   exact H.sub [2,3,4] O (by simp)
 case refine_2 =>
 clear H
 rintro ρ w5 ⟨ts,a,cap,kk,r12,hT,hk1,hk2,H⟩
 refine Cy (Lo O (YS r12) (Lo O (AS O) (Lt (Ct ?_))))
 exact Done.ret1 O O ⟨ts,a,cap,kk,rfl,hT,H,hk1,hk2⟩
end Go.Proofs.YtinkhckpckfajaaDoor
set_option maxHeartbeats 2000000
namespace Go.Proofs.YtinkhckpckfajaaDoor
open Go
theorem scode_lt (ls:List Nat) (h15:∀ x ∈ ls,x≤15) (hn:ls.length≤65536) (s:Nat):scode ls s<2 ^ 62:=by
 have h:ls.getD s 0≤16:=by
  rw [List.getD_eq_getElem?_getD]
  cases e:ls[s]? with
  | none => simp
  | some y => have:=h15 y (List.mem_of_getElem? e);simp;omega
 have h1:=us_bound ls hn h
 have h2:(ls.take s).count (ls.getD s 0)≤ls.length:=Nat.le_trans (take_count_le ls s _) List.count_le_length
 unfold scode
 omega
theorem runCells_get:∀ (rs:List Run) (q j:Nat) (r:Run),rs[q]?=some r→j<3→(runCells rs)[q * 3+j]?=(runCell r)[j]?
 | [],q,j,r,h,_ => by simp at h
 | x :: rs,0,j,r,h,hj => by
  simp only [List.getElem?_cons_zero,Option.some.injEq] at h
  subst h
  rw [Nat.zero_mul,Nat.zero_add]
  exact List.getElem?_append_left (by show j<3;exact hj)
 | x :: rs,q+1,j,r,h,hj => by
  have:=runCells_get rs q j r (by simpa using h) hj
  rw [show (q+1) * 3+j=(q * 3+j)+3 by omega]
  exact (List.getElem?_append_right (by show 3≤_;omega)).trans (by rw [← this];rfl)
theorem runVec_cell {w:World} {g cap e:Nat} {rs:List Run} {q:Nat} {r:Run} (h:VecOk w (some ⟨g,0,none⟩) cap e 3 rs.length (runCells rs)) (hq:rs[q]?=some r):∀ j,j<3→w.cell? ⟨g,0+q * 3+j,none⟩=(runCell r)[j]?:=fun j hj => by
 have:=runCells_get rs q j r hq hj
 rw [Nat.zero_add]
 cases e2:(runCell r)[j]? with
 | none =>
  have:=List.getElem?_eq_none_iff.1 e2
  simp only [runCell,List.length_cons,List.length_nil] at this
  omega
 | some u => exact VecOk.cellS h (this.trans e2)
theorem any_take_succ (rs:List Run) (q s:Nat) (r:Run) (h:rs[q]?=some r):(rs.take (q+1)).any (fun x => x.1 == s)=(decide (s=r.1) || (rs.take q).any (fun x => x.1 == s)):=by
 obtain ⟨h1,h2⟩:=List.getElem?_eq_some_iff.1 h
 rw [List.take_succ_eq_append_getElem h1,List.any_append,h2]
 simp only [List.any_cons,List.any_nil,Bool.or_false]
 rw [Bool.or_comm]
 congr 1
 by_cases e:r.1=s
 ·subst e;simp
 ·rw [decide_eq_false (fun h => e h.symm)]
  simpa using e
theorem flat3_len (f:Nat→Nat):∀ n,((List.range n).flatMap fun q => bitsN (f q) 3).length=3 * n
 | 0 => rfl
 | n+1 => by rw [List.range_succ,List.flatMap_append,List.length_append,flat3_len f n];simp [bnl];omega
theorem decNormal_reads {A n:Nat} {ccl ls:List Nat} {M:Bits} (hc:ccl.length=19) (h7:∀ x ∈ ccl,x≤7) (hn4:4≤n) (hn:n≤19) (hz:∀ i,n≤i→i<19→ccl.getD (ord i) 0=0) (hd:Rds (decCL A ccl) M ls) {t:T} (ht:buildT ls=some t) :
  Rds (decNormal A) (bitsN (n - 4) 4++(((List.range n).flatMap fun q => bitsN (ccl.getD (ord q) 0) 3)++M)) t:=by
 obtain ⟨f,hf,hfl⟩:=ccl_reads ccl hc h7 n hn hz
 refine (rds_bits (show n - 4<2 ^ 4 by omega)).pb ?_
 rw [if_neg (by omega),show n - 4+4=n by omega]
 refine hf.pb ?_
 rw [hfl]
 refine Rds.last hd ?_
 rw [ht]
 exact Rds.ret t
structure RowsTold (ls:List Nat) (rs rs':List Run) (M:Bits):Prop where
 reads:∀ (ccl:List Nat) (t:T) (cd:Nat→Bits),buildT ccl=some t→(∀ r ∈ rs,RunOk r∧Rds t.walk (cd r.1) r.1)→Rds (decCL ls.length ccl) (M++runBits cd rs') ls
 pre:∃ e,rs'=rs.take e
 len:M.length≤30
theorem normal_any (W:World) (wb c0:Nat) (a0:Option Addr) (X:Bits) (cb B k:Nat) (v:Value) (H:St W (wb :: cb :: footA a0) [wrR wb a0 c0 X,blkR cb (chL v k) 53] W) (lb lo lc:Nat) (ls:List Nat) (hr:Row W .i64 lb lo ls) (hlb:lb ∉ wb :: cb :: footA a0) (h15:∀ x ∈ ls,x≤15) (h1:1≤ls.length) (hn:ls.length≤4096)
  (hw:WayAt B v W) (hB:∀ b ∈ wb :: cb :: footA a0,B≠b) (hk:k≤4611686018427200000) (hX:X.length≤1099511000000) :
  Calls Tryd.prog 64 #[.pointer (some ⟨wb,0,none⟩),.slice (some ⟨lb,lo,none⟩) ls.length lc,.pointer (some ⟨cb,0,none⟩)] W fun e w' => ∃ a c Z k',e=.returned (.tuple #[])∧St W (wb :: cb :: footA a0) [wrR wb a c (X++Z),blkR cb (chL v k') 53] w' ∧
   (∀ t,buildT ls=some t→Rds (decNormal ls.length) Z t)∧Z.length≤60000∧k≤k'∧k'≤k+3 * ls.length+2:=by
 have hcbB:B≠cb:=hB cb (by simp)
 have hB0:B<W.heap.size:=hw.1
 have hlc2:lb≠cb:=fun e => hlb (by simp [e])
 obtain ⟨S,hS⟩:∃ S,S=wb :: cb :: footA a0:=⟨_,rfl⟩
 rw [← hS] at hlb hB H ⊢
 refine enter (m:=173) Tryd.func64 O Tryd.ntmps64 O (Cy (Lo O (YS O) (Lo O (YP O) (VL.runs H 1 O hw hcbB (by omega) hr hlc2 h15 hn O O O ?_))))
 intro w rs a cap k1 hR hk1 hk2 H
 simp only [List.set] at H
 refine Lo O (AS O) (Lt ?_)
 have hrl:=hR.len
 have hrs:1≤rs.length:=by
  refine Nat.pos_of_ne_zero fun h0 => ?_
  have e:rs=[]:=List.length_eq_zero_iff.1 h0
  have ho:=hR.out
  rw [e,List.take_length] at ho
  rw [← ho] at h1
  simp [runOut] at h1
 obtain ⟨g,rfl,_⟩:=(H.get (i:=0) rfl:VecOk _ _ _ _ _ _ _).cell (by omega)
 have hrow:∀ q,q<rs.length→∃ r,rs[q]?=some r∧r.1≤18∧r.2.2≤7∧r.2.1<128:=fun q hq => ⟨rs[q],List.getElem?_eq_getElem hq,(hR.ok _ (List.getElem_mem hq)).bits⟩
 refine Cy (VL.make H mk_107 19 19 O O O O (by omega) (by omega) (by omega) O ?_)
 intro w ob hn7 hob H
 rw [mkCells_one,rowB_false] at H
 refine Lo O (AS O) (Lt (Cs (Cy (Lo O (YS O) (Lo O (Y.len sl_159 O) (Lo O (YI O) (Lt ?_)))))))
 refine VC.join (fun ρ w' => ρ 0=.pointer (some ⟨wb,0,none⟩)∧ρ 2=.pointer (some ⟨cb,0,none⟩)∧ρ 6=.slice (some ⟨g,0,none⟩) rs.length cap∧ρ 7=.slice (some ⟨ob,0,none⟩) 19 19 ∧
  St W S [blkR ob (rowB (fun s => rs.any (fun x => x.1 == s)) 19) 4,vecR (some ⟨g,0,none⟩) cap 162 3 rs.length (runCells rs),wrR wb a0 c0 X,blkR cb (chL v k1) 53] w') ?_ ?_
 case refine_1 =>
  refine Cb ?_
  refine Cl (fun mm ρ w' => ∃ q,q≤rs.length∧mm=rs.length - q∧ρ 0=.pointer (some ⟨wb,0,none⟩)∧ρ 2=.pointer (some ⟨cb,0,none⟩)∧ρ 6=.slice (some ⟨g,0,none⟩) rs.length cap∧ρ 7=.slice (some ⟨ob,0,none⟩) 19 19∧ρ 26=.slice (some ⟨g,0,none⟩) rs.length cap∧ρ 27=.int .i64 (rs.length:Nat)∧ρ 28=.int .i64 (q:Nat) ∧
   St W S [blkR ob (rowB (fun s => (rs.take q).any (fun x => x.1 == s)) 19) 4,vecR (some ⟨g,0,none⟩) cap 162 3 rs.length (runCells rs),wrR wb a0 c0 X,blkR cb (chL v k1) 53] w') rs.length
   ⟨0,by omega,rfl,rfl,rfl,rfl,rfl,rfl,rfl,rfl,H⟩ ?_
  clear H
  rintro mm ρ w5 ⟨q,hq,hmm,r0,r2,r6,r7,r26,r27,r28,H⟩
  refine Cy (Lo O (Y.lss r28 r27) (Lt ?_))
  by_cases hlt:q<rs.length
  case neg =>
   obtain rfl:q=rs.length:=by omega
   refine Cs (CF O (by omega) (Cx (thn_x (thn_x (blk_x (tn ?_))))))
   rw [List.take_length] at H
   exact ⟨r0,r2,r6,r7,H⟩
  obtain ⟨r,hrq,hr18,_,_⟩:=hrow q hlt
  have hcell:=runVec_cell (H.get (i:=1) rfl) hrq
  refine Cs (CT O (by omega) (Ck (tn (Cs (Cb (Cy (Lo O (Y.ixS q sl_159 r26 r28 O hlt) (Lo O (Y.ldn (cs:=runCell r) ldn_162 O O hcell) (VL.alloc H zer_162 O ?_)))))))))
  intro w b9 hn9 hb9 H
  refine VL.putW (vs:=runCell r) H 0 stn_162 O O O O O (runCell_one _) ?_
  intro w H
  simp only [List.set] at H
  refine Lt (Cr (Lo O (YS r7) (Lo O (Y.fa fa_162_0 O) (Lo O (Y.ld ld_3 O (H.cell 0 (v:=.int .i64 (r.1:Nat)) O O)) (Lo O (Y.ixS0 r.1 sl_107 O O O (by omega)) (VL.putB H 1 st_4 O O O (rowB_get (by omega)) ?_))))))
  intro w H
  simp only [List.set] at H
  rw [rowB_set (v:=fun s => (rs.take (q+1)).any (fun x => x.1 == s)) (fun s _ => any_take_succ rs q s r hrq)] at H
  refine Ln (blk_n (tn (Cr (Lo O (Y.add r28 O (n64 (b:=1) (by omega))) (Lo O (YI O) (Lt ?_))))))
  exact ⟨rs.length - (q+1),by omega,q+1,by omega,rfl,r0,r2,r6,r7,r26,r27,rfl,H.sub [1,2,3,4] O (by decide)⟩
 case refine_2 =>
 clear H
 rintro ρ w5 ⟨r0,r2,r6,r7,H⟩
 obtain ⟨u,hu⟩:∃ u:Nat→Bool,u=fun s => rs.any (fun x => x.1 == s):=⟨_,rfl⟩
 rw [← hu] at H
 have hus:∀ r ∈ rs,r.1<19∧u r.1=true:=fun r hr => ⟨by have:=(hR.ok r hr).bits;omega,by rw [hu];exact List.any_eq_true.2 ⟨r,hr,by simp⟩⟩
 have hune:usedL u 19≠[]:=fun e => by
  have:=hus _ (List.getElem_mem hrs)
  have hm:=(usedL_mem u 19 _).2 this
  rw [e] at hm
  cases hm
 refine Cy (Lo O (YS r7) (Lo O (Y.zeroS bz_53) (VL.box H (cs:=chL (.slice none 0 0) 0) O O O ?_)))
 intro w nb hn39 hnb H
 refine VL.lengthsOf (B:=B) (u:=u) H 0 O ⟨Nat.lt_of_lt_of_le hw.1 H.frm.size,none,0,0,rfl,by omega,.inl rfl⟩ (by have:=hw.1;omega) (by omega) (fun j hj => by rw [Nat.zero_add];exact (H.blk (i:=1) O).cellv (rowB_get hj)) (by have:=apart_disj H.apart (i:=0) (j:=1) O O (by decide) nb (by simp [blkR]);simpa [blkR,eq_comm] using this) (by omega) (.inr ⟨rfl,by omega⟩) O O O O ?_
 intro w l gl k2 hL _ _ _ H
 simp only [List.set] at H
 refine Lo O (AS O) (Lt ?_)
 replace H:St W S [blkR gl (nums .i64 l) 3,blkR ob (rowB u 19) 4,vecR (some ⟨g,0,none⟩) cap 162 3 rs.length (runCells rs),wrR wb a0 c0 X,blkR cb (chL v k1) 53] w:=H.sub [0,2,3,4,5] rfl (by decide)
 have hl19:=hL.len
 have hl7:=hL.most
 have hl7':∀ s,l.getD s 0≤7:=fun s => by
  rw [List.getD_eq_getElem?_getD]
  cases e:l[s]? with
  | none => simp
  | some y => exact hl7 y (List.mem_of_getElem? e)
 refine Cy (Lo O (AI O) (Lt (Cs ?_)))
 refine VC.join (fun ρ w' => ∃ n,4≤n∧n≤19∧(∀ i,n≤i→i<19→l.getD (ord i) 0=0)∧ρ 0=.pointer (some ⟨wb,0,none⟩)∧ρ 2=.pointer (some ⟨cb,0,none⟩)∧ρ 6=.slice (some ⟨g,0,none⟩) rs.length cap∧ρ 7=.slice (some ⟨ob,0,none⟩) 19 19∧ρ 10=.slice (some ⟨gl,0,none⟩) 19 19∧ρ 11=.int .i64 (n:Nat) ∧
  St W S [blkR gl (nums .i64 l) 3,blkR ob (rowB u 19) 4,vecR (some ⟨g,0,none⟩) cap 162 3 rs.length (runCells rs),wrR wb a0 c0 X,blkR cb (chL v k1) 53] w') ?_ ?_
 case refine_1 =>
  refine Cb ?_
  refine Cl (fun mm ρ w' => ∃ n,mm=n∧4≤n∧n≤19∧(∀ i,n≤i→i<19→l.getD (ord i) 0=0)∧ρ 0=.pointer (some ⟨wb,0,none⟩)∧ρ 2=.pointer (some ⟨cb,0,none⟩)∧ρ 6=.slice (some ⟨g,0,none⟩) rs.length cap∧ρ 7=.slice (some ⟨ob,0,none⟩) 19 19∧ρ 10=.slice (some ⟨gl,0,none⟩) 19 19∧ρ 11=.int .i64 (n:Nat) ∧
   St W S [blkR gl (nums .i64 l) 3,blkR ob (rowB u 19) 4,vecR (some ⟨g,0,none⟩) cap 162 3 rs.length (runCells rs),wrR wb a0 c0 X,blkR cb (chL v k1) 53] w') 19
   ⟨19,rfl,by omega,by omega,fun i h1 h2 => by omega,r0,r2,r6,r7,rfl,rfl,H⟩ ?_
  clear H r0 r2 r6 r7
  rintro mm ρ w6 ⟨n,hmm,hn4,hn19,hz,r0,r2,r6,r7,r10,r11,H⟩
  by_cases hn5:4<n
  case neg =>
   refine Cs (Cy (Lo O (YI r11) (Lo O (Y.gtrD (b:=false) O O (decide_eq_false (by omega))) (Lo O (Y.movB O) (VL.skipG O O O O O (VL.skipG O O O O O (VL.skipG O O O O O (VL.skipG O O O O O (VL.skipG O O O O O (VL.skipG O O O O O (VL.skipG O O O O O (VL.skipG O O O O O (VL.skipG O O O O O (Lo O (Y.pick O O) (Lt (CB O (fun h => nomatch h) (fun _ => (Cx (thn_x (thn_x (blk_x (tn ?_))))))))))))))))))))))
   exact ⟨n,hn4,hn19,hz,r0,r2,r6,r7,r10,r11,H⟩
  have ho:=ord_lt (n - 1) (by omega)
  by_cases hzn:l.getD (ord (n - 1)) 0=0
  case neg =>
   refine Cs (Cy (Lo O (YI r11) (Lo O (Y.gtrD (b:=true) O O (decide_eq_true (by omega))) (Lo O (Y.movB O) (LG O O O O (YS r10) (VL.orderG H O O O O ?_))))))
   intro w og hog H
   refine LG O O O O (YI r11) (LG O O O O (Y.sub O O (s64 (b:=1) (by omega))) (LG O O O O (Y.ixS0 (n - 1) sl_23 O O O (by omega)) (LG O O O O (Y.ld ld_3 O (H.cell 0 O (order_get (by omega)))) (LG O O O O (Y.ixS0 (ord (n - 1)) sl_23 O O O ho) (LG O O O O (Y.ld ld_3 O (H.cell 1 O (nums_get (by omega)))) (LG O O O O (Y.eqlD (b:=false) O O (decide_eq_false (by omega))) (Lo O (Y.pick O O) (Lt (CB O (fun h => nomatch h) (fun _ => (Cx (thn_x (thn_x (blk_x (tn ?_)))))))))))))))
   exact ⟨n,hn4,hn19,hz,r0,r2,r6,r7,r10,r11,H.sub [1,2,3,4,5] O (by decide)⟩
  refine Cs (Cy (Lo O (YI r11) (Lo O (Y.gtrD (b:=true) O O (decide_eq_true (by omega))) (Lo O (Y.movB O) (LG O O O O (YS r10) (VL.orderG H O O O O ?_))))))
  intro w og hog H
  refine LG O O O O (YI r11) (LG O O O O (Y.sub O O (s64 (b:=1) (by omega))) (LG O O O O (Y.ixS0 (n - 1) sl_23 O O O (by omega)) (LG O O O O (Y.ld ld_3 O (H.cell 0 O (order_get (by omega)))) (LG O O O O (Y.ixS0 (ord (n - 1)) sl_23 O O O ho) (LG O O O O (Y.ld ld_3 O (H.cell 1 O (nums_get (by omega)))) (LG O O O O (Y.eqlD (b:=true) O O (decide_eq_true (by omega))) (Lo O (Y.pick O O) (Lt ?_))))))))
  refine CB O (fun _ => ?_) (fun h => nomatch h)
  refine Ck (tn (Cb (Cr (Lo O (YI r11) (Lo O (Y.sub O O (s64 (b:=1) (by omega))) (Lo O (AI O) (Ln (blk_n (tn ?_)))))))))
  refine ⟨n - 1,by omega,n - 1,rfl,by omega,by omega,fun i h1 h2 => ?_,r0,r2,r6,r7,r10,rfl,H.sub [1,2,3,4,5] O (by decide)⟩
  by_cases hi:i=n - 1
  ·rw [hi];exact hzn
  ·exact hz i (by omega) h2
 case refine_2 =>
 clear H r0 r2 r6 r7
 rintro ρ w6 ⟨n,hn4,hn19,hz,r0,r2,r6,r7,r10,r11,H⟩
 refine Cy (Lo O (YP r0) (Lo O (YI r11) (Lo O (Y.sub O O (s64 (b:=4) (by omega))) (VL.bits H 3 O (n - 4) 4 (by omega) (by omega) (by omega) O O O O ?_))))
 intro w a1 c1 H
 simp only [List.set] at H
 refine Lt (Cs (Cy (VL.order H O ?_)))
 intro w og hog H
 refine Lo O (YI r11) (Lo O (Y.sliceHi n sl_23 O O O (by omega)) (Lo O (Y.len sl_23 O) (Lo O (YI O) (Lt ?_))))
 refine VC.join (fun ρ w' => ∃ a c,ρ 0=.pointer (some ⟨wb,0,none⟩)∧ρ 2=.pointer (some ⟨cb,0,none⟩)∧ρ 6=.slice (some ⟨g,0,none⟩) rs.length cap∧ρ 7=.slice (some ⟨ob,0,none⟩) 19 19∧ρ 10=.slice (some ⟨gl,0,none⟩) 19 19 ∧
  St W S [blkR gl (nums .i64 l) 3,blkR ob (rowB u 19) 4,vecR (some ⟨g,0,none⟩) cap 162 3 rs.length (runCells rs),wrR wb a c (X++bitsN (n - 4) 4++((List.range n).flatMap fun q => bitsN (l.getD (ord q) 0) 3)),blkR cb (chL v k1) 53] w') ?_ ?_
 case refine_1 =>
  refine Cb ?_
  refine Cl (fun mm ρ w' => ∃ q a c,q≤n∧mm=n - q∧ρ 0=.pointer (some ⟨wb,0,none⟩)∧ρ 2=.pointer (some ⟨cb,0,none⟩)∧ρ 6=.slice (some ⟨g,0,none⟩) rs.length cap∧ρ 7=.slice (some ⟨ob,0,none⟩) 19 19∧ρ 10=.slice (some ⟨gl,0,none⟩) 19 19 ∧
   ρ 62=.slice (some ⟨og,0,none⟩) n 19∧ρ 63=.int .i64 (n:Nat)∧ρ 64=.int .i64 (q:Nat) ∧
   St W S [blkR og (nums .i64 tab_codeLengthCodeOrder) 3,blkR gl (nums .i64 l) 3,blkR ob (rowB u 19) 4,vecR (some ⟨g,0,none⟩) cap 162 3 rs.length (runCells rs),wrR wb a c (X++bitsN (n - 4) 4++((List.range q).flatMap fun q => bitsN (l.getD (ord q) 0) 3)),blkR cb (chL v k1) 53] w') n
   ⟨0,a1,c1,by omega,rfl,r0,r2,r6,r7,r10,rfl,rfl,rfl,by simpa using H⟩ ?_
  clear H r0 r2 r6 r7 r10
  rintro mm ρ w7 ⟨q,a2,c2,hq,hmm,r0,r2,r6,r7,r10,r62,r63,r64,H⟩
  refine Cy (Lo O (Y.lss r64 r63) (Lt ?_))
  by_cases hlt:q<n
  case neg =>
   obtain rfl:q=n:=by omega
   refine Cs (CF O (by omega) (Cx (thn_x (thn_x (blk_x (tn ?_))))))
   exact ⟨a2,c2,r0,r2,r6,r7,r10,H.sub [1,2,3,4,5] O (by decide)⟩
  have ho:=ord_lt q (by omega)
  have hl8:=hl7' (ord q)
  have hZl:((List.range q).flatMap fun q => bitsN (l.getD (ord q) 0) 3).length=3 * q:=flat3_len _ q
  refine Cs (CT O (by omega) (Ck (tn (Cs (Cb (Cy (Lo O (Y.ixS0 q sl_23 r62 r64 O hlt) (Lo O (Y.ld ld_3 O (H.cell 0 O (order_get (by omega)))) (Lo O (AI O) (Lt (Cr (Lo O (YP r0) (Lo O (YS r10) (Lo O (YI O) (Lo O (Y.ixS0 (ord q) sl_23 O O O ho) (Lo O (Y.ld ld_3 O (H.cell 1 O (nums_get (by omega)))) (VL.bits H 4 O (l.getD (ord q) 0) 3 (by omega) (by omega) (by simp only [List.length_append,bnl,hZl];omega) O O O O ?_)))))))))))))))))
  intro w a3 c3 H
  simp only [List.set] at H
  refine Ln (blk_n (tn (Cr (Lo O (Y.add r64 O (n64 (b:=1) (by omega))) (Lo O (YI O) (Lt ?_))))))
  refine ⟨n - (q+1),by omega,q+1,a3,c3,by omega,rfl,r0,r2,r6,r7,r10,r62,r63,rfl,?_⟩
  rw [List.range_succ,List.flatMap_append,← List.append_assoc]
  simpa using H
 case refine_2 =>
 clear H r0 r2 r6 r7 r10
 rintro ρ w7 ⟨a2,c2,r0,r2,r6,r7,r10,H⟩
 obtain ⟨Zl,hZl⟩:∃ Zl,Zl=(List.range n).flatMap fun q => bitsN (l.getD (ord q) 0) 3:=⟨_,rfl⟩
 have hZll:Zl.length=3 * n:=by rw [hZl];exact flat3_len _ n
 rw [← hZl] at H
 have hXl:(X++bitsN (n - 4) 4++Zl).length≤X.length+61:=by simp only [List.length_append,bnl];omega
 obtain ⟨X1,hX1⟩:∃ X1,X1=X++bitsN (n - 4) 4++Zl:=⟨_,rfl⟩
 rw [← hX1] at H hXl
 refine Cy (Lo O (YS r6) (Lo O (Y.len sl_159 O) (Lo O (AI O) (Lt (Cs ?_)))))
 refine VC.join (fun ρ w' => ∃ e,e≤rs.length∧(∀ r ∈ rs.drop e,ZeroRun r)∧ρ 0=.pointer (some ⟨wb,0,none⟩)∧ρ 2=.pointer (some ⟨cb,0,none⟩)∧ρ 6=.slice (some ⟨g,0,none⟩) rs.length cap∧ρ 7=.slice (some ⟨ob,0,none⟩) 19 19∧ρ 10=.slice (some ⟨gl,0,none⟩) 19 19∧ρ 14=.int .i64 (e:Nat) ∧
  St W S [blkR gl (nums .i64 l) 3,blkR ob (rowB u 19) 4,vecR (some ⟨g,0,none⟩) cap 162 3 rs.length (runCells rs),wrR wb a2 c2 X1,blkR cb (chL v k1) 53] w') ?_ ?_
 case refine_1 =>
  refine Cb ?_
  refine Cl (fun mm ρ w' => ∃ e,mm=e∧e≤rs.length∧(∀ r ∈ rs.drop e,ZeroRun r)∧ρ 0=.pointer (some ⟨wb,0,none⟩)∧ρ 2=.pointer (some ⟨cb,0,none⟩)∧ρ 6=.slice (some ⟨g,0,none⟩) rs.length cap∧ρ 7=.slice (some ⟨ob,0,none⟩) 19 19∧ρ 10=.slice (some ⟨gl,0,none⟩) 19 19∧ρ 14=.int .i64 (e:Nat) ∧
   St W S [blkR gl (nums .i64 l) 3,blkR ob (rowB u 19) 4,vecR (some ⟨g,0,none⟩) cap 162 3 rs.length (runCells rs),wrR wb a2 c2 X1,blkR cb (chL v k1) 53] w') rs.length
   ⟨rs.length,rfl,by omega,by simp,r0,r2,r6,r7,r10,rfl,H⟩ ?_
  clear H r0 r2 r6 r7 r10
  rintro mm ρ w8 ⟨e,hmm,he,hze,r0,r2,r6,r7,r10,r14,H⟩
  by_cases he0:0<e
  case neg =>
   refine Cs (Cy (Lo O (YI r14) (Lo O (Y.gtrD (b:=false) O O (decide_eq_false (by omega))) (Lo O (Y.movB O) (VL.skipG O O O O O (VL.skipG O O O O O (VL.skipG O O O O O (VL.skipG O O O O O (VL.skipG O O O O O (VL.skipG O O O O O (VL.skipG O O O O O (VL.skipG O O O O O (VL.skipU O O O O (VL.skipU O O O O (VL.skipU O O O O (VL.skipU O O O O (VL.skipU O O O O (VL.skipU O O O O (VL.skipU O O O O ?_)))))))))))))))))))
   refine VL.skipG O O O O O (Lo O (Y.pick O O) (Lt (CB O (fun h => nomatch h) (fun _ => (Cx (thn_x (thn_x (blk_x (tn ?_)))))))))
   exact ⟨e,he,hze,r0,r2,r6,r7,r10,r14,H⟩
  obtain ⟨r,hrq,hr18,_,_⟩:=hrow (e - 1) (by omega)
  have hcell:w8.cell? ⟨g,0+(e - 1) * 3+0,none⟩=some (.int .i64 (r.1:Nat)):=runVec_cell (H.get (i:=2) rfl) hrq 0 (by omega)
  by_cases hr0:r.1=0
  case pos =>
   refine Cs (Cy (Lo O (YI r14) (Lo O (Y.gtrD (b:=true) O O (decide_eq_true (by omega))) (Lo O (Y.movB O) (LG O O O O (YS r6) (LG O O O O (YI r14) (LG O O O O (Y.sub O O (s64 (b:=1) (by omega))) (LG O O O O (Y.ixS (e - 1) sl_159 O O O (by omega)) (LG O O O O (Y.fa fa_162_0 O) (LG O O O O (Y.ld ld_3 O hcell) (LG O O O O (Y.eqlD (b:=true) O O (decide_eq_true (by omega))) (LG O O O O (Y.movB O) (VL.skipG O O O O O (VL.skipG O O O O O (VL.skipG O O O O O (VL.skipG O O O O O (VL.skipG O O O O O (VL.skipG O O O O O (VL.skipG O O O O O ?_)))))))))))))))))))
   refine LG O O O O (Y.pick O O) (Lo O (Y.pick O O) (Lt ?_))
   refine CB O (fun _ => ?_) (fun h => nomatch h)
   refine Ck (tn (Cb (Cr (Lo O (YI r14) (Lo O (Y.sub O O (s64 (b:=1) (by omega))) (Lo O (AI O) (Ln (blk_n (tn ?_)))))))))
   refine ⟨e - 1,by omega,e - 1,rfl,by omega,fun q hq => ?_,r0,r2,r6,r7,r10,rfl,H⟩
   obtain ⟨h1,h2⟩:=List.getElem?_eq_some_iff.1 hrq
   rw [List.drop_eq_getElem_cons h1,h2,show e - 1+1=e by omega] at hq
   rcases List.mem_cons.1 hq with rfl | hq
   ·exact .inl hr0
   ·exact hze q hq
  by_cases hr16:16<r.1
  case neg =>
   refine Cs (Cy (Lo O (YI (by assumption)) (Lo O (Y.gtrD (b:=true) O O (decide_eq_true (by omega))) (Lo O (Y.movB O) (LG O O O O (YS r6) (LG O O O O (YI (by assumption)) (LG O O O O (Y.sub O O (s64 (b:=1) (by omega))) (LG O O O O (Y.ixS (e - 1) sl_159 O O O (by omega)) (LG O O O O (Y.fa fa_162_0 O) (LG O O O O (Y.ld ld_3 O hcell) (LG O O O O (Y.eqlD (b:=false) O O (decide_eq_false (by omega))) (LG O O O O (Y.movB O) (LG O O O O (YS r6) (LG O O O O (YI (by assumption)) (LG O O O O (Y.sub O O (s64 (b:=1) (by omega))) (LG O O O O (Y.ixS (e - 1) sl_159 O O O (by omega)) (LG O O O O (Y.fa fa_162_0 O) (LG O O O O (Y.ld ld_3 O hcell) (LG O O O O (Y.gtrD (b:=false) O O (decide_eq_false (by omega))) ?_)))))))))))))))))))
   refine LG O O O O (Y.pick O O) (Lo O (Y.pick O O) (Lt (CB O (fun h => nomatch h) (fun _ => (Cx (thn_x (thn_x (blk_x (tn ?_)))))))))
   exact ⟨e,he,hze,r0,r2,r6,r7,r10,r14,H⟩
  refine Cs (Cy (Lo O (YI (by assumption)) (Lo O (Y.gtrD (b:=true) O O (decide_eq_true (by omega))) (Lo O (Y.movB O) (LG O O O O (YS r6) (LG O O O O (YI (by assumption)) (LG O O O O (Y.sub O O (s64 (b:=1) (by omega))) (LG O O O O (Y.ixS (e - 1) sl_159 O O O (by omega)) (LG O O O O (Y.fa fa_162_0 O) (LG O O O O (Y.ld ld_3 O hcell) (LG O O O O (Y.eqlD (b:=false) O O (decide_eq_false (by omega))) (LG O O O O (Y.movB O) (LG O O O O (YS r6) (LG O O O O (YI (by assumption)) (LG O O O O (Y.sub O O (s64 (b:=1) (by omega))) (LG O O O O (Y.ixS (e - 1) sl_159 O O O (by omega)) (LG O O O O (Y.fa fa_162_0 O) (LG O O O O (Y.ld ld_3 O hcell) (LG O O O O (Y.gtrD (b:=true) O O (decide_eq_true (by omega))) ?_)))))))))))))))))))
  refine LG O O O O (Y.pick O O) (Lo O (Y.pick O O) (Lt ?_))
  refine CB O (fun _ => ?_) (fun h => nomatch h)
  refine Ck (tn (Cb (Cr (Lo O (YI (by assumption)) (Lo O (Y.sub O O (s64 (b:=1) (by omega))) (Lo O (AI O) (Ln (blk_n (tn ?_)))))))))
  refine ⟨e - 1,by omega,e - 1,rfl,by omega,fun q hq => ?_,r0,r2,r6,r7,r10,rfl,H⟩
  obtain ⟨h1,h2⟩:=List.getElem?_eq_some_iff.1 hrq
  rw [List.drop_eq_getElem_cons h1,h2,show e - 1+1=e by omega] at hq
  rcases List.mem_cons.1 hq with rfl | hq
  ·exact .inr hr16
  ·exact hze q hq
 case refine_2 =>
 clear H r0 r2 r6 r7 r10
 rintro ρ w8 ⟨e,he,hze,r0,r2,r6,r7,r10,r14,H⟩
 have hout:=hR.out
 rw [List.take_length] at hout
 refine Cs (Cs ?_)
 refine VC.join (fun ρ w' => ∃ (T:Bool) (k2:Nat),ρ 105=.bool T∧(T=true→2≤e)∧k1≤k2∧k2≤k1+1∧ρ 0=.pointer (some ⟨wb,0,none⟩)∧ρ 2=.pointer (some ⟨cb,0,none⟩)∧ρ 6=.slice (some ⟨g,0,none⟩) rs.length cap∧ρ 7=.slice (some ⟨ob,0,none⟩) 19 19∧ρ 10=.slice (some ⟨gl,0,none⟩) 19 19∧ρ 14=.int .i64 (e:Nat) ∧
  St W S [blkR gl (nums .i64 l) 3,blkR ob (rowB u 19) 4,vecR (some ⟨g,0,none⟩) cap 162 3 rs.length (runCells rs),wrR wb a2 c2 X1,blkR cb (chL v k2) 53] w') ?_ ?_
 case refine_1 =>
  by_cases he2:2≤e
  case neg =>
   refine Cr (Lo O (YI r14) (Lo O (Y.geqD (b:=false) O O (decide_eq_false (by omega))) (Lo O (Y.movB O) (VL.skipG O O O O O (VL.skipG O O O O O (VL.skipG O O O O O (Lo O (Y.pick O O) (Lt ?_))))))))
   exact ⟨false,k1,rfl,by simp,by omega,by omega,r0,r2,r6,r7,r10,r14,H⟩
  refine Cr (Lo O (YI r14) (Lo O (Y.geqD (b:=true) O O (decide_eq_true (by omega))) (Lo O (Y.movB O) (LG O O O O (YP r2) (VL.nextG H 4 O hw hB hcbB 2 (by omega) (by omega) (by omega) O O O O O O ?_)))))
  intro w rc hrc H
  simp only [List.set] at H
  refine LG O O O O (Y.eql O O) (Lo O (Y.pick O O) (Lt ?_))
  exact ⟨_,k1+1,rfl,fun _ => he2,by omega,by omega,r0,r2,r6,r7,r10,r14,H⟩
 case refine_2 =>
 clear H r0 r2 r6 r7 r10 r14
 rintro ρ w8 ⟨T,kq,r105,hT2,hkq1,hkq2,r0,r2,r6,r7,r10,r14,H⟩
 refine VC.join (fun ρ w' => ∃ e' M a c k',RowsTold ls rs (rs.take e') M∧e'≤rs.length∧k1≤k'∧k'≤k1+2∧ρ 0=.pointer (some ⟨wb,0,none⟩)∧ρ 6=.slice (some ⟨g,0,none⟩) e' cap∧ρ 7=.slice (some ⟨ob,0,none⟩) 19 19∧ρ 10=.slice (some ⟨gl,0,none⟩) 19 19 ∧
  St W S [blkR gl (nums .i64 l) 3,blkR ob (rowB u 19) 4,vecR (some ⟨g,0,none⟩) cap 162 3 rs.length (runCells rs),wrR wb a c (X1++M),blkR cb (chL v k') 53] w') ?_ ?_
 case refine_1 =>
  cases T
  case false =>
   refine CB r105 (fun h => nomatch h) (fun _ => (Cr (Lo O (YP r0) (VL.bits H 3 O 0 1 (by omega) (by omega) (by omega) O O O O ?_))))
   intro w a3 c3 H
   simp only [List.set] at H
   refine Lt ?_
   exact ⟨rs.length,_,a3,c3,kq,⟨fun ccl t cd hb hr => by
    rw [List.take_length]
    exact decCL_all hb hr hout rfl,⟨_,rfl⟩,by rw [bnl];omega⟩,by omega,by omega,by omega,r0,r6,r7,r10,H⟩
  have he2:=hT2 rfl
  refine CB r105 (fun _ => ?_) (fun h => nomatch h)
  have hcap:rs.length≤cap:=by
   rcases (H.get (i:=2) rfl:VecOk _ _ _ _ _ _ _) with ⟨h0,_⟩ | ⟨g',cur,h0,h1,h2,_⟩
   ·cases h0
   ·exact h2
  refine Cy (Lo O (YS r6) (Lo O (YI r14) (Lo O (Y.sliceHi e sl_159 O O O (by omega)) (Lo O (AS O) (Lt (Cy (Lo O (YP r2) (VL.next H 4 O hw hB hcbB 3 (by omega) (by omega) (by omega) O O O ?_))))))))
  intro w long0 hlong0 H
  simp only [List.set] at H
  refine Lo O (AI O) (Lt (Cs ?_))
  refine VC.join (fun ρ w' => ∃ long,long≤5∧e - 2<1 * 2 ^ (2+2 * long)∧ρ 0=.pointer (some ⟨wb,0,none⟩)∧ρ 6=.slice (some ⟨g,0,none⟩) e cap∧ρ 7=.slice (some ⟨ob,0,none⟩) 19 19∧ρ 10=.slice (some ⟨gl,0,none⟩) 19 19∧ρ 14=.int .i64 (e:Nat)∧ρ 15=.int .i64 (long:Nat) ∧
   St W S [blkR gl (nums .i64 l) 3,blkR ob (rowB u 19) 4,vecR (some ⟨g,0,none⟩) cap 162 3 rs.length (runCells rs),wrR wb a2 c2 X1,blkR cb (chL v (kq+1)) 53] w') ?_ ?_
  case refine_1 =>
   refine Cb ?_
   refine Cl (fun mm ρ w' => ∃ long,mm=5 - long∧long≤5∧ρ 0=.pointer (some ⟨wb,0,none⟩)∧ρ 6=.slice (some ⟨g,0,none⟩) e cap∧ρ 7=.slice (some ⟨ob,0,none⟩) 19 19∧ρ 10=.slice (some ⟨gl,0,none⟩) 19 19∧ρ 14=.int .i64 (e:Nat)∧ρ 15=.int .i64 (long:Nat) ∧
    St W S [blkR gl (nums .i64 l) 3,blkR ob (rowB u 19) 4,vecR (some ⟨g,0,none⟩) cap 162 3 rs.length (runCells rs),wrR wb a2 c2 X1,blkR cb (chL v (kq+1)) 53] w') (5 - long0)
    ⟨long0,rfl,by omega,r0,rfl,r7,r10,r14,rfl,H⟩ ?_
   clear H r0 r2 r6 r7 r10 r14
   rintro mm ρ w9 ⟨long,hmm,hl5,r0,r6,r7,r10,r14,r15,H⟩
   have hp:2 ^ (2+2 * long)≤2 ^ 12:=Nat.pow_le_pow_right (by omega) (by omega)
   refine Cs (Cy (Lo O (YI r14) (Lo O (Y.sub O O (s64 (b:=2) (by omega))) (Lo O (YI r15) (Lo O (Y.mul O O (m64 (a:=2) (by omega))) (Lo O (Y.add O O (n64 (a:=2) (by omega))) (Lo O (Y.shl O O (by omega) (l64 (a:=1) (by omega))) (Lo O (Y.geq O O) (Lt ?_)))))))))
   by_cases hge:e - 2 ≥ 1 * 2 ^ (2+2 * long)
   case neg =>
    refine CF O (by omega) (Cx (thn_x (thn_x (blk_x (tn ?_)))))
    exact ⟨long,hl5,by omega,r0,r6,r7,r10,r14,r15,H⟩
   have hl4:long<5:=Nat.lt_of_not_le fun hle => by
    obtain rfl:long=5:=by omega
    simp at hge
    omega
   refine CT O (by omega) (Ck (tn (Cb (Cr (Lo O (YI r15) (Lo O (Y.add O O (n64 (b:=1) (by omega))) (Lo O (AI O) (Ln (blk_n (tn ?_))))))))))
   exact ⟨5 - (long+1),by omega,long+1,rfl,by omega,r0,r6,r7,r10,r14,rfl,H⟩
  case refine_2 =>
  clear H r0 r2 r6 r7 r10 r14
  rintro ρ w9 ⟨long,hl5,hlong,r0,r6,r7,r10,r14,r15,H⟩
  refine Cy (Lo O (YP r0) (VL.bits H 3 O 1 1 (by omega) (by omega) (by omega) O O O O ?_))
  intro w a3 c3 H
  simp only [List.set] at H
  refine Lt (Cy (Lo O (YP r0) (Lo O (YI r15) (VL.bits H 3 O long 3 (by omega) (by omega) (by simp only [List.length_append,bnl];omega) O O O O ?_))))
  intro w a4 c4 H
  simp only [List.set] at H
  refine Lt (Cr (Lo O (YP r0) (Lo O (YI r14) (Lo O (Y.sub O O (s64 (b:=2) (by omega))) (Lo O (YI r15) (Lo O (Y.mul O O (m64 (a:=2) (by omega))) (Lo O (Y.add O O (n64 (a:=2) (by omega))) (VL.bits H 3 O (e - 2) (2+2 * long) (by omega) (by omega) (by simp only [List.length_append,bnl];omega) O O O O ?_))))))))
  intro w a5 c5 H
  simp only [List.set,List.append_assoc] at H
  refine Lt ?_
  have hte:(rs.take e).length=e:=by rw [List.length_take];omega
  refine ⟨e,bitsN 1 1++(bitsN long 3++bitsN (e - 2) (2+2 * long)),a5,c5,kq+1,⟨fun ccl t cd hb hr => ?_,⟨e,rfl⟩,by simp only [List.length_append,bnl];omega⟩,he,by omega,by omega,r0,r6,r7,r10,H⟩
  have:=decCL_some (A:=ls.length) (long:=long) (ls:=ls) (rs:=rs.take e) (zs:=rs.drop e) hb (fun r h => hr r (List.mem_of_mem_take h)) (fun r h => ⟨hR.ok r (List.mem_of_mem_drop h),hze r h⟩) (by rw [List.take_append_drop];exact hout) rfl (by rw [hte];exact he2) (by omega) (by rw [hte];omega)
  rw [hte] at this
  exact this
 case refine_2 =>
 clear H r0 r2 r6 r7 r10 r14
 rintro ρ w9 ⟨e',M,a3,c3,k3,hT,he',hk3,hk4,r0,r6,r7,r10,H⟩
 obtain ⟨X2,hX2⟩:∃ X2,X2=X1++M:=⟨_,rfl⟩
 have hX2l:X2.length≤X.length+91:=by rw [hX2,List.length_append];have:=hT.len;omega
 rw [← hX2] at H
 have hone:1≤(usedL u 19).length:=List.length_pos_iff.2 hune
 have hle:rs.length≤4096:=by omega
 have hlrow:Row w9 .i64 gl 0 l:=nums_row (H.blk (i:=0) rfl)
 have hcdl:∀ s,(symBits u 19 l s).length≤7:=fun s => by
  unfold symBits
  split
  ·simp
  ·rw [bitsM_length];exact hl7' s
 refine Cy (Lo O (YS r10) (VL.scodes H hlrow (fun x hx => by have:=hl7 x hx;omega) (by omega) O (by rw [hl19];rfl) ?_))
 intro w gn hgn H
 refine Lo O (AS O) (Lt (Cy (Lo O (AI O) (Lt (Cs (Cy (Lo O (YS r7) (Lo O (Y.len sl_107 O) (Lo O (YI O) (Lt ?_))))))))))
 refine VC.join (fun ρ w' => ρ 0=.pointer (some ⟨wb,0,none⟩)∧ρ 6=.slice (some ⟨g,0,none⟩) e' cap∧ρ 10=.slice (some ⟨gl,0,none⟩) 19 19∧ρ 16=.slice (some ⟨gn,0,none⟩) l.length l.length∧ρ 17=.int .i64 ((usedL u 19).length:Nat) ∧
  St W S [blkR gn (rowK .i64 (fun s => if l.getD s 0=0 then 0 else scode l s) l.length) 3,blkR gl (nums .i64 l) 3,vecR (some ⟨g,0,none⟩) cap 162 3 rs.length (runCells rs),wrR wb a3 c3 X2,blkR cb (chL v k3) 53] w') ?_ ?_
 case refine_1 =>
  refine Cb ?_
  refine Cl (fun mm ρ w' => ∃ q,mm=19 - q∧q≤19∧ρ 0=.pointer (some ⟨wb,0,none⟩)∧ρ 6=.slice (some ⟨g,0,none⟩) e' cap∧ρ 10=.slice (some ⟨gl,0,none⟩) 19 19∧ρ 16=.slice (some ⟨gn,0,none⟩) l.length l.length∧ρ 17=.int .i64 ((usedL u q).length:Nat) ∧
   ρ 136=.slice (some ⟨ob,0,none⟩) 19 19∧ρ 137=.int .i64 (19:Nat)∧ρ 138=.int .i64 (q:Nat) ∧
   St W S [blkR gn (rowK .i64 (fun s => if l.getD s 0=0 then 0 else scode l s) l.length) 3,blkR gl (nums .i64 l) 3,blkR ob (rowB u 19) 4,vecR (some ⟨g,0,none⟩) cap 162 3 rs.length (runCells rs),wrR wb a3 c3 X2,blkR cb (chL v k3) 53] w') 19
   ⟨0,rfl,by omega,r0,r6,r10,rfl,rfl,rfl,rfl,rfl,H⟩ ?_
  clear H r0 r6 r7 r10
  rintro mm ρ w10 ⟨q,hmm,hq,r0,r6,r10,r16,r17,r136,r137,r138,H⟩
  refine Cy (Lo O (Y.lss r138 r137) (Lt ?_))
  by_cases hlt:q<19
  case neg =>
   obtain rfl:q=19:=by omega
   refine Cs (CF O (by omega) (Cx (thn_x (thn_x (blk_x (tn ?_))))))
   exact ⟨r0,r6,r10,r16,r17,H.sub [0,1,3,4,5] O (by decide)⟩
  have hul:=usedL_le u q
  refine Cs (CT O (by omega) (Ck (tn (Cs (Cb (Cy (Lo O (Y.ixS0 q sl_107 r136 r138 O hlt) (Lo O (Y.ld ld_4 O (H.cell 2 O (rowB_get hlt))) (Lo O (Y.asgB O) (Lt (Cy (Lo O (Y.movB O) (Lt ?_)))))))))))))
  have hsucc:=usedL_succ u q
  refine VC.joinB (fun ρ w' => ρ 0=.pointer (some ⟨wb,0,none⟩)∧ρ 6=.slice (some ⟨g,0,none⟩) e' cap∧ρ 10=.slice (some ⟨gl,0,none⟩) 19 19∧ρ 16=.slice (some ⟨gn,0,none⟩) l.length l.length∧ρ 17=.int .i64 ((usedL u (q+1)).length:Nat) ∧
   ρ 136=.slice (some ⟨ob,0,none⟩) 19 19∧ρ 137=.int .i64 (19:Nat)∧ρ 138=.int .i64 (q:Nat) ∧
   St W S [blkR gn (rowK .i64 (fun s => if l.getD s 0=0 then 0 else scode l s) l.length) 3,blkR gl (nums .i64 l) 3,blkR ob (rowB u 19) 4,vecR (some ⟨g,0,none⟩) cap 162 3 rs.length (runCells rs),wrR wb a3 c3 X2,blkR cb (chL v k3) 53] w') ?_ ?_
  case refine_1 =>
   cases huq:u q
   case false =>
    rw [huq,if_neg (by simp)] at hsucc
    refine CB O (fun h => nomatch h) (fun _ => (Ck (blk_n (tn ?_))))
    exact ⟨r0,r6,r10,r16,by rw [hsucc];exact r17,r136,r137,r138,H⟩
   rw [huq,if_pos rfl] at hsucc
   refine CB O (fun _ => ?_) (fun h => nomatch h)
   refine Cr (Lo O (YI r17) (Lo O (Y.add O O (n64 (b:=1) (by omega))) (Lo O (AI O) (Ln (blk_n (tn ?_))))))
   exact ⟨r0,r6,r10,r16,by rw [hsucc,List.length_append];rfl,r136,r137,r138,H⟩
  case refine_2 =>
  clear H r0 r6 r10 r16 r17 r136 r137 r138
  rintro ρ w11 ⟨r0,r6,r10,r16,r17,r136,r137,r138,H⟩
  refine Cr (Lo O (Y.add r138 O (n64 (b:=1) (by omega))) (Lo O (YI O) (Lt ?_)))
  exact ⟨19 - (q+1),by omega,q+1,rfl,by omega,r0,r6,r10,r16,r17,r136,r137,rfl,H⟩
 case refine_2 =>
 clear H r0 r6 r7 r10 hlrow
 rintro ρ w10 ⟨r0,r6,r10,r16,r17,H⟩
 refine Cy (Lo O (YS r6) (Lo O (Y.len sl_159 O) (Lo O (YI O) (Lt (Cb ?_)))))
 refine Cl (fun mm ρ w' => ∃ q a c,mm=e' - q∧q≤e'∧ρ 0=.pointer (some ⟨wb,0,none⟩)∧ρ 10=.slice (some ⟨gl,0,none⟩) 19 19∧ρ 16=.slice (some ⟨gn,0,none⟩) l.length l.length∧ρ 17=.int .i64 ((usedL u 19).length:Nat) ∧
  ρ 146=.slice (some ⟨g,0,none⟩) e' cap∧ρ 147=.int .i64 (e':Nat)∧ρ 148=.int .i64 (q:Nat) ∧
  St W S [blkR gn (rowK .i64 (fun s => if l.getD s 0=0 then 0 else scode l s) l.length) 3,blkR gl (nums .i64 l) 3,vecR (some ⟨g,0,none⟩) cap 162 3 rs.length (runCells rs),wrR wb a c (X2++runBits (symBits u 19 l) (rs.take q)),blkR cb (chL v k3) 53] w') e'
  ⟨0,a3,c3,rfl,by omega,r0,r10,r16,r17,rfl,rfl,rfl,by simpa [runBits] using H⟩ ?_
 clear H r0 r6 r10 r16 r17
 rintro mm ρ w11 ⟨q,a4,c4,hmm,hq,r0,r10,r16,r17,r146,r147,r148,H⟩
 have hrbl:(runBits (symBits u 19 l) (rs.take q)).length≤14 * 4096:=by
  refine Nat.le_trans (runBits_len (symBits u 19 l) 7 _ fun r hr => ⟨hR.ok r (List.mem_of_mem_take hr),hcdl _⟩) ?_
  have:(rs.take q).length≤4096:=by rw [List.length_take];omega
  omega
 refine Cy (Lo O (Y.lss r148 r147) (Lt ?_))
 by_cases hlt:q<e'
 case neg =>
  obtain rfl:q=e':=by omega
  refine Cs (CF O (by omega) (Cx (thn_x (thn_x (blk_x ?_)))))
  obtain ⟨t',ht',hrd⟩:=hL.reads (by omega) hune
  have hread:=hT.reads l t' (symBits u 19 l) ht' (fun r hr => ⟨hR.ok r hr,hrd r.1 (hus r hr).1 (hus r hr).2⟩)
  refine Done.end0 O ⟨a4,c4,bitsN (n - 4) 4++(Zl++(M++runBits (symBits u 19 l) (rs.take q))),k3,rfl,?_,fun t ht => ?_,?_,by omega,by omega⟩
  ·have:=H.sub [3,4] (l':=[wrR wb a4 c4 (X2++runBits (symBits u 19 l) (rs.take q)),blkR cb (chL v k3) 53]) rfl (by decide)
   rw [hX2,hX1] at this
   simpa only [List.append_assoc] using this
  ·rw [hZl]
   exact decNormal_reads hl19 hl7 hn4 hn19 hz hread ht
  ·have:=hT.len
   simp only [List.length_append,bnl]
   omega
 obtain ⟨r,hrq,hr18,hr7,hr128⟩:=hrow q (by omega)
 have hcell:=runVec_cell (H.get (i:=2) rfl) hrq
 have hur:=hus r (List.mem_of_getElem? hrq)
 have hl0:l.getD r.1 0≠0:=(hL.used r.1 hur.1).2 hur.2
 have hsnoc:rs.take (q+1)=rs.take q++[r]:=by
  obtain ⟨h1,h2⟩:=List.getElem?_eq_some_iff.1 hrq
  rw [List.take_succ_eq_append_getElem h1,h2]
 refine Cs (CT O (by omega) (Ck (tn (Cs (Cb (Cy (Lo O (Y.ixS q sl_159 r146 r148 O hlt) (Lo O (Y.ldn (cs:=runCell r) ldn_162 O O hcell) (VL.alloc H zer_162 O ?_)))))))))
 intro w b21 hn21 hb21 H
 refine VL.putW (vs:=runCell r) H 0 stn_162 O O O O O (runCell_one _) ?_
 intro w H
 simp only [List.set] at H
 refine Lt (Cs (Cy (Lo O (YI r17) (Lo O (Y.gtr O O) (Lt ?_)))))
 refine VC.join (fun ρ w' => ∃ a c,ρ 0=.pointer (some ⟨wb,0,none⟩)∧ρ 10=.slice (some ⟨gl,0,none⟩) 19 19∧ρ 16=.slice (some ⟨gn,0,none⟩) l.length l.length∧ρ 17=.int .i64 ((usedL u 19).length:Nat) ∧
  ρ 21=.pointer (some ⟨b21,0,none⟩)∧ρ 146=.slice (some ⟨g,0,none⟩) e' cap∧ρ 147=.int .i64 (e':Nat)∧ρ 148=.int .i64 (q:Nat) ∧
  St W S [blkR b21 (runCell r) 162,blkR gn (rowK .i64 (fun s => if l.getD s 0=0 then 0 else scode l s) l.length) 3,blkR gl (nums .i64 l) 3,vecR (some ⟨g,0,none⟩) cap 162 3 rs.length (runCells rs),wrR wb a c (X2++runBits (symBits u 19 l) (rs.take q)++symBits u 19 l r.1),blkR cb (chL v k3) 53] w') ?_ ?_
 case refine_1 =>
  by_cases hsg:(usedL u 19).length > 1
  case neg =>
   refine CF O (by omega) (Ck (tn ?_))
   have e0:symBits u 19 l r.1=[]:=by unfold symBits;rw [if_pos (by omega)]
   rw [e0,List.append_nil]
   exact ⟨a4,c4,r0,r10,r16,r17,rfl,r146,r147,r148,H⟩
  have e0:symBits u 19 l r.1=bitsM (scode l r.1) (l.getD r.1 0):=by unfold symBits;rw [if_neg (by omega)]
  rw [e0]
  have hl8:=hl7' r.1
  have hcell2:(nums .i64 l)[r.1]?=some (.int .i64 ((l.getD r.1 0:Nat):Int)):=nums_get (by omega)
  have hcell3:(rowK .i64 (fun s => if l.getD s 0=0 then 0 else scode l s) l.length)[r.1]?=some (.int .i64 (scode l r.1:Nat)):=by rw [rowK_get (by omega),if_neg hl0]
  refine CT O (by omega) (VC.drawTail 11 mixedP (by kernel_rfl) ?_)
  intro w hsame
  replace H:=H.same hsame
  refine So O (YP r0) (So O (YS r16) (So O (Y.fa fa_162_0 O) (So O (Y.ld ld_3 O (H.cell 0 (v:=.int .i64 (r.1:Nat)) O O)) (So O (Y.ixS0 r.1 sl_23 O O O (by omega)) (So O (Y.ld ld_3 O (H.cell 1 O hcell3)) (So O (YS r10) (So O (Y.fa fa_162_0 O) (So O (Y.ld ld_3 O (H.cell 0 (v:=.int .i64 (r.1:Nat)) O O)) (So O (Y.ixS0 r.1 sl_23 O O O (by omega)) (So O (Y.ld ld_3 O (H.cell 2 O hcell2)) (Sn (VL.code H 4 O (scode l r.1) (l.getD r.1 0) (by omega) (scode_lt l (fun x hx => by have:=hl7 x hx;omega) (by omega) r.1) (by rw [List.length_append];omega) O O O O ?_))))))))))))
  intro w a5 c5 H
  simp only [List.set] at H
  refine Lt ?_
  exact ⟨a5,c5,r0,r10,r16,r17,rfl,r146,r147,r148,H⟩
 case refine_2 =>
 clear H r0 r10 r16 r17 r146 r147 r148
 rintro ρ w12 ⟨a5,c5,r0,r10,r16,r17,r21,r146,r147,r148,H⟩
 have hcd8:=hcdl r.1
 refine Cr (Lo O (YP r0) (Lo O (Y.fa fa_162_1 r21) (Lo O (Y.ld ld_3 O (H.cell 0 (v:=.int .i64 (r.2.1:Nat)) O O)) (Lo O (Y.fa fa_162_2 r21) (Lo O (Y.ld ld_3 O (H.cell 0 (v:=.int .i64 (r.2.2:Nat)) O O)) (VL.bits H 4 O r.2.1 r.2.2 (by omega) (by omega) (by rw [List.length_append,List.length_append];omega) O O O O ?_))))))
 intro w a6 c6 H
 simp only [List.set] at H
 refine Ln (blk_n (tn (Cr (Lo O (Y.add r148 O (n64 (b:=1) (by omega))) (Lo O (YI O) (Lt ?_))))))
 refine ⟨e' - (q+1),by omega,q+1,a6,c6,rfl,by omega,r0,r10,r16,r17,r146,r147,rfl,?_⟩
 rw [hsnoc,runBits_append,show runBits (symBits u 19 l) [r]=symBits u 19 l r.1++bitsN r.2.1 r.2.2 by simp [runBits],← List.append_assoc,← List.append_assoc]
 exact H.sub [1,2,3,4,5] O (by decide)
theorem wr_ch_foot {wb c cb k:Nat} {a:Option Addr} {X:Bits} {v:Value}:∀ r ∈ [wrR wb a c X,blkR cb (chL v k) 53],∀ b ∈ r.foot,b ∈ wb :: cb :: footA a:=by
 intro r hr b hb
 simp only [List.mem_cons,List.not_mem_nil,or_false] at hr
 rcases hr with rfl | rfl
 ·simp only [wrR,List.mem_cons] at hb ⊢
  rcases hb with h | h
  ·exact .inl h
  ·exact .inr (.inr h)
 ·simp only [blkR,List.mem_singleton] at hb
  simp [hb]
theorem wr_ch_foot2 {wb c cb k:Nat} {a:Option Addr} {X:Bits} {v:Value}:∀ b ∈ wb :: cb :: footA a,∃ r ∈ [wrR wb a c X,blkR cb (chL v k) 53],b ∈ r.foot:=by
 intro b hb
 simp only [List.mem_cons] at hb
 rcases hb with h | h | h
 ·exact ⟨_,List.mem_cons_self ..,by simp [wrR,h]⟩
 ·exact ⟨_,List.mem_cons_of_mem _ (List.mem_singleton.2 O),by simp [blkR,h]⟩
 ·exact ⟨_,List.mem_cons_self ..,by simp [wrR,h]⟩
section
variable {w0 w:World} {S:List Nat} {others:List Res} {wb c cb B k:Nat} {a:Option Addr} {v:Value} {X:Bits}
variable {nn:Nat} {ops:Array Oper} {lo:List Oper} {Q:Post} {rest:List Oper} {ρ:Env} {ty:TypeId} {pos:String} {after:Array Edge} {x y z:Operand} {d:Nat} {ts:Array TypeId}
theorem VL.normal (H:St w0 S ([wrR wb a c X,blkR cb (chL v k) 53]++others) w) (hw:WayAt B v w0) (hS:∀ b ∈ S,B≠b) (hB0:B<w0.heap.size) {lb lo lc:Nat} {ls:List Nat} (hr:Row w .i64 lb lo ls) (hlb:∀ r ∈ [wrR wb a c X,blkR cb (chL v k) 53],lb ∉ r.foot) (h15:∀ x ∈ ls,x≤15) (h1:1≤ls.length) (hn:ls.length≤4096)
  (hk:k≤4611686018427200000) (hX:X.length≤1099511000000) (hd:Nat.blt d nn=true) (hx:ev ρ x=.pointer (some ⟨wb,0,none⟩)) (hy:ev ρ y=.slice (some ⟨lb,lo,none⟩) ls.length lc) (hz:ev ρ z=.pointer (some ⟨cb,0,none⟩))
  (h:∀ w' a' c' Z k',(∀ t,buildT ls=some t→Rds (decNormal ls.length) Z t)→Z.length≤60000→k≤k'→k'≤k+3 * ls.length+2→St w0 S ([wrR wb a' c' (X++Z),blkR cb (chL v k') 53]++others) w'→VL Tryd.prog nn ops Q rest (upd ρ d (.tuple #[])) w') :
  VL Tryd.prog nn ops Q (⟨some d,.call ⟨.value (.func 64),#[x,y,z],ts⟩,ty,pos,after,none⟩ :: rest) ρ w:=by
 have hab:=H.above hS hB0
 have hT:∀ b ∈ wb :: cb :: footA a,B≠b:=fun b hb => by
  obtain ⟨r,hr,hbr⟩:=wr_ch_foot2 (c:=c) (X:=X) (k:=k) (v:=v) b hb
  exact hab r (List.mem_append_left _ hr) b hbr
 refine VL.call hd ent_64 (normal_any w wb c a X cb B k v (H.part _ wr_ch_foot) lb lo lc ls hr (fun hm => ?_) h15 h1 hn (hw.keep H.frm hS) hT hk hX) (by simp [hx,hy,hz]) fun e w' ⟨a',c',Z,k',he,H',h1,h2,h3,h4⟩ => ⟨_,he,h _ a' c' Z k' h1 h2 h3 h4 (H.callee H' wr_ch_foot2)⟩
 obtain ⟨r,hr,hbr⟩:=wr_ch_foot2 (c:=c) (X:=X) (k:=k) (v:=v) lb hm
 exact hlb r hr hbr
end
theorem usedL_last (u:Nat→Bool) (n:Nat):∀ s ∈ usedL u n,s≤(usedL u n).getD ((usedL u n).length - 1) 0:=by
 have hs:(usedL u n).Pairwise (·<·):=List.Pairwise.filter _ List.pairwise_lt_range
 intro s hm
 obtain ⟨i,hi,rfl⟩:=List.mem_iff_getElem.1 hm
 have hl:(usedL u n).length - 1<(usedL u n).length:=by omega
 have e:(usedL u n).getD ((usedL u n).length - 1) 0=(usedL u n)[(usedL u n).length - 1]:=by simp [hl]
 rw [e]
 rcases Nat.lt_or_ge i ((usedL u n).length - 1) with h | h
 ·exact Nat.le_of_lt (List.pairwise_iff_getElem.1 hs i _ hi hl h)
 ·have:i=(usedL u n).length - 1:=by omega
  subst this
  exact Nat.le_refl _
def orOne (u:Nat→Bool) (n:Nat):Nat→Bool:=if (usedL u n).length=0 then fun s => decide (s=0) else u
theorem orOne_used {u:Nat→Bool} {n s:Nat} (hs:s<n) (h:u s=true):orOne u n s=true:=by
 unfold orOne
 rw [if_neg]
 ·exact h
 ·intro h0
  have:=(usedL_mem u n s).2 ⟨hs,h⟩
  rw [List.length_eq_zero_iff.1 h0] at this
  cases this
theorem usedL_zero {n:Nat} (h:1≤n):usedL (fun s => decide (s=0)) n=[0]:=by
 obtain ⟨m,rfl⟩:∃ m,n=m+1:=⟨n - 1,by omega⟩
 unfold usedL
 rw [List.range_succ_eq_map,List.filter_cons_of_pos (by rfl)]
 congr 1
 rw [List.filter_eq_nil_iff]
 intro x hx
 obtain ⟨y,_,rfl⟩:=List.mem_map.1 hx
 simp
theorem orOne_ne {u:Nat→Bool} {n:Nat} (h:1≤n):usedL (orOne u n) n≠[]:=by
 unfold orOne
 split
 ·rw [usedL_zero h];simp
 ·intro e;rename_i h0;rw [e] at h0;exact h0 rfl
structure CodeOk (u:Nat→Bool) (n:Nat) (ls ns:List Nat) (t:T):Prop where
 lens:ls.length=n
 nums:ns.length=n
 reads:∀ s,s<n→u s=true→Rds t.walk (bitsM (ns.getD s 0) (ls.getD s 0)) s
 most:∀ s,ls.getD s 0≤15
 small:∀ s,ns.getD s 0<2 ^ 62
theorem codeOk_of {u:Nat→Bool} {n:Nat} {ls:List Nat} {t:T} (h1:1≤n) (hn:n≤4096) (hL:LenOk (orOne u n) n 15 ls) (ht:∀ s,s<n→orOne u n s=true→Rds t.walk (symBits (orOne u n) n ls s) s) :
  CodeOk u n (if (usedL (orOne u n) n).length=1 then ls.set ((usedL (orOne u n) n).getD 0 0) 0 else ls) ((List.range n).map fun s => if ls.getD s 0=0 then 0 else scode ls s) t:=by
 have hget:∀ s,s<n→((List.range n).map fun s => if ls.getD s 0=0 then 0 else scode ls s).getD s 0=if ls.getD s 0=0 then 0 else scode ls s:=fun s hs => by simp [hs]
 have hmost:∀ s,ls.getD s 0≤15:=fun s => by
  rw [List.getD_eq_getElem?_getD]
  cases e:ls[s]? with
  | none => simp
  | some y => exact hL.most y (List.mem_of_getElem? e)
 refine ⟨by split <;> simp [hL.len],by simp,fun s hs hus => ?_,fun s => ?_,fun s => ?_⟩
 ·have hu1:=orOne_used hs hus
  have h0:=(hL.used s hs).2 hu1
  have hw:=ht s hs hu1
  rw [hget s hs,if_neg h0]
  unfold symBits at hw
  by_cases hone:(usedL (orOne u n) n).length=1
  ·rw [if_pos hone] at hw ⊢
   obtain ⟨x,hx⟩:=List.length_eq_one_iff.1 hone
   have hm:=(usedL_mem (orOne u n) n s).2 ⟨hs,hu1⟩
   rw [hx,List.mem_singleton] at hm
   subst hm
   rw [hx,List.getD_cons_zero,getD_set _ _ _ _ (by rw [hL.len];exact hs),if_pos rfl]
   exact hw
  ·rw [if_neg hone] at hw ⊢
   exact hw
 ·split
  ·rename_i hone
   obtain ⟨x,hx⟩:=List.length_eq_one_iff.1 hone
   have hm:=(usedL_mem (orOne u n) n x).1 (by rw [hx];simp)
   rw [hx,List.getD_cons_zero,getD_set _ _ _ _ (by rw [hL.len];exact hm.1)]
   split
   ·omega
   ·exact hmost s
  ·exact hmost s
 ·rcases Nat.lt_or_ge s n with hs | hs
  ·rw [hget s hs]
   split
   ·decide
   ·exact scode_lt ls hL.most (by rw [hL.len];omega) s
  ·rw [List.getD_eq_getElem?_getD,List.getElem?_eq_none (by simpa using hs)]
   decide
theorem tree_any (W:World) (wb c0:Nat) (a0:Option Addr) (X:Bits) (cb B k:Nat) (v:Value) (ub uc n:Nat) (u:Nat→Bool) (H:St W (ub :: wb :: cb :: footA a0) [blkR ub (rowB u n) 4,wrR wb a0 c0 X,blkR cb (chL v k) 53] W) (h1:1≤n) (hn:n≤4096)
  (hw:WayAt B v W) (hB:∀ b ∈ ub :: wb :: cb :: footA a0,B≠b) (hk:k≤4611686018427000000) (hX:X.length≤1099510000000) :
  Calls Tryd.prog 47 #[.pointer (some ⟨wb,0,none⟩),.slice (some ⟨ub,0,none⟩) n uc,.pointer (some ⟨cb,0,none⟩)] W fun e w' => ∃ gl gn ls ns t a c Z k',e=.returned (.tuple #[.slice (some ⟨gl,0,none⟩) n n,.slice (some ⟨gn,0,none⟩) n n]) ∧
   St W (ub :: wb :: cb :: footA a0) [blkR gl (nums .i64 ls) 3,blkR gn (nums .i64 ns) 3,wrR wb a c (X++Z),blkR cb (chL v k') 53] w' ∧
   CodeOk u n ls ns t∧Rds (decHT n) Z t∧Z.length≤60100∧k≤k'∧k'≤k+3 * n+20:=by
 have hcbB:B≠cb:=hB cb (by simp)
 have hB0:B<W.heap.size:=hw.1
 obtain ⟨S,hS⟩:∃ S,S=ub :: wb :: cb :: footA a0:=⟨_,rfl⟩
 rw [← hS] at hB H ⊢
 refine enter (m:=106) Tryd.func47 O Tryd.ntmps47 O (Cy (Lo O (Y.asg O) (Lo O (Y.asg O) (Lt (Cy (Lo O (Y.asg O) (Lt (Cs (Cy (Lo O (YS O) (Lo O (Y.len sl_107 O) (Lo O (YI O) (Lt ?_)))))))))))))
 replace H:=H.vec0 3 1
 refine VC.join (fun ρ w' => ∃ a c,ρ 0=.pointer (some ⟨wb,0,none⟩)∧ρ 1=.slice (some ⟨ub,0,none⟩) n uc∧ρ 2=.pointer (some ⟨cb,0,none⟩)∧ρ 8=.slice a (usedL u n).length c ∧
  St W S [vecR a c 3 1 (usedL u n).length (nums .i64 (usedL u n)),blkR ub (rowB u n) 4,wrR wb a0 c0 X,blkR cb (chL v k) 53] w') ?_ ?_
 case refine_1 =>
  refine Cb ?_
  refine Cl (fun mm ρ w' => ∃ i a c,i≤n∧mm=n - i∧ρ 0=.pointer (some ⟨wb,0,none⟩)∧ρ 1=.slice (some ⟨ub,0,none⟩) n uc∧ρ 2=.pointer (some ⟨cb,0,none⟩)∧ρ 8=.slice a (usedL u i).length c∧ρ 11=.slice (some ⟨ub,0,none⟩) n uc∧ρ 12=.int .i64 (n:Nat)∧ρ 13=.int .i64 (i:Nat) ∧
   St W S [vecR a c 3 1 (usedL u i).length (nums .i64 (usedL u i)),blkR ub (rowB u n) 4,wrR wb a0 c0 X,blkR cb (chL v k) 53] w') n
   ⟨0,none,0,by omega,rfl,rfl,rfl,rfl,rfl,rfl,rfl,rfl,H⟩ ?_
  clear H
  rintro mm ρ w5 ⟨i,a,c,hi,hmm,r0,r1,r2,r8,r11,r12,r13,H⟩
  refine Cy (Lo O (Y.lss r13 r12) (Lt ?_))
  by_cases hlt:i<n
  case neg =>
   obtain rfl:i=n:=by omega
   refine Cs (CF O (by omega) (Cx (thn_x (thn_x (blk_x (tn ?_))))))
   exact ⟨a,c,r0,r1,r2,r8,H⟩
  have hul:=usedL_le u i
  refine Cs (CT O (by omega) (Ck (tn (Cs (Cb (Cy (Lo O (YI r13) (Lo O (Y.ixS0 i sl_107 r11 r13 O hlt) (Lo O (Y.ld ld_4 O (H.cell 1 O (rowB_get hlt))) (Lo O (AI O) (Lo O (Y.asgB O) (Lt (Cy (Lo O (Y.movB O) (Lt ?_)))))))))))))))
  have hsucc:=usedL_succ u i
  cases hui:u i
  case false =>
   rw [hui,if_neg (by simp)] at hsucc
   refine CB O (fun h => nomatch h) (fun _ => (Ck (blk_n (tn (Cr (Lo O (Y.add r13 O (n64 (b:=1) (by omega))) (Lo O (YI O) (Lt ?_))))))))
   exact ⟨n - (i+1),by omega,i+1,a,c,by omega,rfl,r0,r1,r2,by rw [hsucc];exact r8,r11,r12,rfl,by rw [hsucc];exact H⟩
  rw [hui,if_pos rfl] at hsucc
  refine CB O (fun _ => ?_) (fun h => nomatch h)
  refine Cr (Lo O (YS r8) (Lo O (YI O) (VL.bslice H mk_23 (nums .i64 [i]) O O (by decide) (by decide) (by kernel_rfl) ?_)))
  intro w b21 hn21 hb21 H
  refine VL.append H 1 mk_23 (by decide) O O O O (news:=nums .i64 [i]) O (fun j u hj => by rw [Nat.zero_add];exact H.cell 0 O hj) (nums_one _ _) (by simp only [maxLen];omega) (by omega) ?_
  intro a' c' w hfa H
  have hl1:(usedL u (i+1)).length=(usedL u i).length+1:=by rw [hsucc];simp
  replace H:St W S [vecR a' c' 3 1 (usedL u (i+1)).length (nums .i64 (usedL u (i+1))),blkR ub (rowB u n) 4,wrR wb a0 c0 X,blkR cb (chL v k) 53] w:=by rw [hl1,hsucc,nums_append];exact H.sub [1,2,3,4] rfl (by decide)
  refine Lo O (AS O) (Ln (blk_n (tn (Cr (Lo O (Y.add (by assumption) O (n64 (b:=1) (by omega))) (Lo O (YI O) (Lt ?_)))))))
  exact ⟨n - (i+1),by omega,i+1,a',c',by omega,rfl,r0,r1,r2,by rw [hl1];rfl,r11,r12,rfl,H⟩
 case refine_2 =>
 clear H
 rintro ρ w5 ⟨a,c,r0,r1,r2,r8,H⟩
 obtain ⟨U,hU⟩:∃ U,U=orOne u n:=⟨_,rfl⟩
 refine Cs (Cy (Lo O (YS r8) (Lo O (Y.len sl_23 O) (Lo O (Y.eql O O) (Lt ?_)))))
 refine VC.join (fun ρ w' => ∃ a c,ρ 0=.pointer (some ⟨wb,0,none⟩)∧ρ 1=.slice (some ⟨ub,0,none⟩) n uc∧ρ 2=.pointer (some ⟨cb,0,none⟩)∧ρ 8=.slice a (usedL U n).length c ∧
  St W S [vecR a c 3 1 (usedL U n).length (nums .i64 (usedL U n)),blkR ub (rowB U n) 4,wrR wb a0 c0 X,blkR cb (chL v k) 53] w') ?_ ?_
 case refine_1 =>
  by_cases h0:(usedL u n).length=0
  case neg =>
   have e:U=u:=by rw [hU];unfold orOne;rw [if_neg h0]
   rw [e]
   refine CF O (by omega) (Ck (tn ?_))
   exact ⟨a,c,r0,r1,r2,r8,H⟩
  have e:U=fun s => decide (s=0):=by rw [hU];unfold orOne;rw [if_pos h0]
  have hall:∀ s,s<n→u s=false:=fun s hs => by
   cases hus:u s with
   | false => rfl
   | true =>
    have:=(usedL_mem u n s).2 ⟨hs,hus⟩
    rw [List.length_eq_zero_iff.1 h0] at this
    cases this
  refine CT O (by omega) (Cy (Lo O (YS r1) (Lo O (Y.ixS0 0 sl_107 O O O (by omega)) (VL.putB H 1 st_4 O O O (rowB_get (by omega)) ?_))))
  intro w H
  simp only [List.set] at H
  rw [rowB_set (v:=U) (fun s hs => by rw [e,hall s hs];simp)] at H
  refine Lt (Cr (VL.bslice H mk_23 (nums .i64 [0]) O O (by decide) (by decide) (by kernel_rfl) ?_))
  intro w b29 hn29 hb29 H
  refine Lo O (AS O) (Lt ?_)
  have hz:usedL U n=[0]:=by rw [e];exact usedL_zero h1
  rw [hz]
  refine ⟨_,1,r0,r1,r2,rfl,?_⟩
  have hV:VecOk w (some ⟨b29,0,none⟩) 1 3 1 1 (nums .i64 [0]):=.inr ⟨b29,nums .i64 [0],rfl,H.blk (i:=0) rfl,by omega,by decide,by decide,rfl⟩
  have H2:=H.turn (i:=0) (r':=vecR (some ⟨b29,0,none⟩) 1 3 1 1 (nums .i64 [0])) rfl (Frm.refl _ _) hV (vecR_local _ _ _ _ _ _) (fun b hb => .inl hb)
  exact H2.sub [0,2,3,4] O (by decide)
 case refine_2 =>
 clear H r0 r1 r2 r8
 rintro ρ w6 ⟨a,c,r0,r1,r2,r8,H⟩
 have hne:usedL U n≠[]:=by rw [hU];exact orOne_ne h1
 have hpos:0<(usedL U n).length:=List.length_pos_iff.2 hne
 obtain ⟨q,rfl,_⟩:=(H.get (i:=0) rfl:VecOk _ _ _ _ _ _ _).cell hpos
 obtain ⟨l,hl⟩:∃ l,l=usedL U n:=⟨_,rfl⟩
 rw [← hl] at H hne hpos r8
 have hln:l.length≤n:=by rw [hl];exact usedL_le U n
 have hlast:∀ s ∈ l,s≤l.getD (l.length - 1) 0:=by rw [hl];exact usedL_last U n
 have hmem:∀ s ∈ l,s<n:=fun s hs => by rw [hl] at hs;exact ((usedL_mem U n s).1 hs).1
 have hgetm:∀ i,i<l.length→l.getD i 0 ∈ l:=fun i hi => by
  have e:l.getD i 0=l[i]:=by simp [hi]
  rw [e];exact List.getElem_mem hi
 refine Cy (Lo O (YS r1) (Lo O (YP r2) (VL.lengthsOf (u:=U) H 3 O (hw.keep H.frm hB) hcbB (by omega) (fun j hj => by rw [Nat.zero_add];exact (H.blk (i:=1) O).cellv (rowB_get hj)) (by have:=apart_disj H.apart (i:=1) (j:=3) O O (by decide) ub (by simp [blkR]);simpa [blkR] using this) (by omega) (.inl O) O O O O ?_)))
 intro w ls gl k1 hL hk1 hk2 hgl H
 simp only [List.set] at H
 refine Lo O (AS O) (Lt ?_)
 have hlsn:=hL.len
 have hrow:Row w .i64 gl 0 ls:=nums_row (H.blk (i:=0) rfl)
 refine Cy (Lo O (YS O) (VL.scodes H hrow hL.most (by omega) O (by rw [hlsn];rfl) ?_))
 intro w gn hgn H
 rw [rowK_nums,hlsn] at H
 refine Lo O (AS O) (Lt ?_)
 replace H:St W S [blkR gl (nums .i64 ls) 3,blkR gn (nums .i64 ((List.range n).map fun s => if ls.getD s 0=0 then 0 else scode ls s)) 3,vecR (some ⟨q,0,none⟩) c 3 1 l.length (nums .i64 l),wrR wb a0 c0 X,blkR cb (chL v k1) 53] w:=H.sub [1,0,2,4,5] rfl (by decide)
 obtain ⟨ns,hns⟩:∃ ns,ns=(List.range n).map fun s => if ls.getD s 0=0 then 0 else scode ls s:=⟨_,rfl⟩
 rw [← hns] at H
 have hcap:l.length≤c:=by
  rcases (H.get (i:=2) rfl:VecOk _ _ _ _ _ _ _) with ⟨h0,_⟩ | ⟨g',cur,h0,h1,h2,_⟩
  ·cases h0
  ·exact h2
 refine Cs (Cs ?_)
 refine VC.join (fun ρ w' => ∃ (T:Bool) (k2:Nat),ρ 51=.bool T∧(T=true→l.length≤2∧∀ s ∈ l,s<256)∧k1≤k2∧k2≤k1+1∧ρ 0=.pointer (some ⟨wb,0,none⟩)∧ρ 2=.pointer (some ⟨cb,0,none⟩)∧ρ 6=.slice (some ⟨gl,0,none⟩) n n∧ρ 7=.slice (some ⟨gn,0,none⟩) n n∧ρ 8=.slice (some ⟨q,0,none⟩) l.length c ∧
  St W S [blkR gl (nums .i64 ls) 3,blkR gn (nums .i64 ns) 3,vecR (some ⟨q,0,none⟩) c 3 1 l.length (nums .i64 l),wrR wb a0 c0 X,blkR cb (chL v k2) 53] w') ?_ ?_
 case refine_1 =>
  by_cases hl2:l.length≤2
  case neg =>
   refine Cr (Lo O (YS r8) (Lo O (Y.len sl_23 O) (Lo O (Y.leqD (b:=false) O O (decide_eq_false (by omega))) (Lo O (Y.movB O) (VL.skipG O O O O O (VL.skipG O O O O O (VL.skipG O O O O O (VL.skipG O O O O O (VL.skipG O O O O O (VL.skipG O O O O O (VL.skipG O O O O O (Lo O (Y.pick O O) (Lo O (Y.movB O) (VL.skipG O O O O O (VL.skipG O O O O O (VL.skipG O O O O O (Lo O (Y.pick O O) (Lt ?_))))))))))))))))))
   exact ⟨false,k1,rfl,by simp,by omega,by omega,r0,r2,rfl,by rw [← hlsn];rfl,r8,H⟩
  by_cases h256:l.getD (l.length - 1) 0<256
  case neg =>
   refine Cr (Lo O (YS r8) (Lo O (Y.len sl_23 O) (Lo O (Y.leqD (b:=true) O O (decide_eq_true (by omega))) (Lo O (Y.movB O) (LG O O O O (YS r8) (LG O O O O (YS r8) (LG O O O O (Y.len sl_23 O) (LG O O O O (Y.sub O O (s64 (b:=1) (by omega))) (LG O O O O (Y.ixS0 (l.length - 1) sl_23 O O O (by omega)) (LG O O O O (Y.ld ld_3 O (VecOk.cellS (H.get (i:=2) O) (nums_get (by omega)))) (LG O O O O (Y.lssD (b:=false) O O (decide_eq_false (by omega))) (Lo O (Y.pick O O) (Lo O (Y.movB O) (VL.skipG O O O O O (VL.skipG O O O O O (VL.skipG O O O O O (Lo O (Y.pick O O) (Lt ?_))))))))))))))))))
   exact ⟨false,k1,rfl,by simp,by omega,by omega,r0,r2,rfl,by rw [← hlsn];rfl,r8,H⟩
  refine Cr (Lo O (YS r8) (Lo O (Y.len sl_23 O) (Lo O (Y.leqD (b:=true) O O (decide_eq_true (by omega))) (Lo O (Y.movB O) (LG O O O O (YS r8) (LG O O O O (YS r8) (LG O O O O (Y.len sl_23 O) (LG O O O O (Y.sub O O (s64 (b:=1) (by omega))) (LG O O O O (Y.ixS0 (l.length - 1) sl_23 O O O (by omega)) (LG O O O O (Y.ld ld_3 O (VecOk.cellS (H.get (i:=2) O) (nums_get (by omega)))) (LG O O O O (Y.lssD (b:=true) O O (decide_eq_true (by omega))) (Lo O (Y.pick O O) (Lo O (Y.movB O) (LG O O O O (YP r2) (VL.nextG H 4 O hw hB hcbB 2 (by omega) (by omega) (by omega) O O O O O O ?_)))))))))))))))
  intro w rc hrc H
  simp only [List.set] at H
  refine LG O O O O (Y.eql O O) (Lo O (Y.pick O O) (Lt ?_))
  exact ⟨_,k1+1,rfl,fun _ => ⟨hl2,fun s hs => by have:=hlast s hs;omega⟩,by omega,by omega,r0,r2,rfl,by rw [← hlsn];rfl,r8,H⟩
 case refine_2 =>
 clear H r0 r1 r2 r8 hrow
 rintro ρ w7 ⟨T,k2,r51,hT,hk3,hk4,r0,r2,r6,r7,r8,H⟩
 have hcell:∀ {w':World} {i:Nat},VecOk w' (some ⟨q,0,none⟩) c 3 1 l.length (nums .i64 l)→i<l.length→w'.cell? ⟨q,i,none⟩=some (.int .i64 ((l.getD i 0:Nat):Int)):=fun hV hi => VecOk.cellS hV (nums_get hi)
 refine VC.join (fun ρ w' => ∃ Z t a c' k',Rds (decHT n) Z t∧(∀ s,s<n→U s=true→Rds t.walk (symBits U n ls s) s)∧Z.length≤60100∧k2≤k'∧k'≤k2+3 * n+5∧ρ 6=.slice (some ⟨gl,0,none⟩) n n∧ρ 7=.slice (some ⟨gn,0,none⟩) n n∧ρ 8=.slice (some ⟨q,0,none⟩) l.length c ∧
  St W S [blkR gl (nums .i64 ls) 3,blkR gn (nums .i64 ns) 3,vecR (some ⟨q,0,none⟩) c 3 1 l.length (nums .i64 l),wrR wb a c' (X++Z),blkR cb (chL v k') 53] w') ?_ ?_
 case refine_1 =>
  cases T
  case false =>
   refine CB r51 (fun h => nomatch h) (fun _ => (Cy (Lo O (YP r0) (VL.bits H 3 O 0 1 (by omega) (by omega) (by omega) O O O O ?_))))
   intro w a3 c3 H
   simp only [List.set] at H
   refine Lt ?_
   obtain ⟨t,ht,hrd⟩:=hL.reads (by omega) (hl ▸ hne)
   have Hn:St W S ([wrR wb a3 c3 (X++bitsN 0 1),blkR cb (chL v k2) 53]++[blkR gl (nums .i64 ls) 3,blkR gn (nums .i64 ns) 3,vecR (some ⟨q,0,none⟩) c 3 1 l.length (nums .i64 l)]) w:=H.sub [3,4,0,1,2] rfl (by decide)
   refine Cr (Lo O (YP r0) (Lo O (YS r6) (Lo O (YP r2) ?_)))
   refine VL.normal (ls:=ls) Hn hw hB hB0 (nums_row (H.blk (i:=0) O)) ?_ hL.most (by omega) (by omega) (by omega) (by rw [List.length_append,bnl];omega) O O (by rw [hlsn];rfl) O ?_
   ·intro r hr
    simp only [List.mem_cons,List.not_mem_nil,or_false] at hr
    rcases hr with rfl | rfl
    ·exact apart_disj H.apart (i:=0) (j:=3) O O (by decide) gl (by simp [blkR])
    ·exact apart_disj H.apart (i:=0) (j:=4) O O (by decide) gl (by simp [blkR])
   intro w a4 c4 Z k3 hZ hZl hk5 hk6 H
   refine Lt ?_
   refine ⟨bitsN 0 1++Z,t,a4,c4,k3,?_,hrd,by rw [List.length_append,bnl];omega,by omega,by omega,r6,r7,r8,?_⟩
   ·refine (rds_bits (n:=0) (k:=1) (by decide)).pb ?_
    rw [if_pos rfl,← hlsn]
    exact hZ t ht
   ·rw [← List.append_assoc]
    exact H.sub [2,3,4,0,1] O (by decide)
  obtain ⟨hl2,h256⟩:=hT rfl
  refine CB r51 (fun _ => ?_) (fun h => nomatch h)
  refine Cy (Lo O (YP r0) (VL.bits H 3 O 1 1 (by omega) (by omega) (by omega) O O O O ?_))
  intro w a3 c3 H
  simp only [List.set] at H
  refine Lt (Cy (Lo O (YP r0) (Lo O (YS r8) (Lo O (Y.len sl_23 O) (Lo O (Y.sub O O (s64 (b:=1) (by omega))) (VL.bits H 3 O (l.length - 1) 1 (by omega) (by omega) (by rw [List.length_append,bnl];omega) O O O O ?_))))))
  intro w a4 c4 H
  simp only [List.set] at H
  refine Lt ?_
  obtain ⟨X1,hX1⟩:∃ X1,X1=X++bitsN 1 1++bitsN (l.length - 1) 1:=⟨_,rfl⟩
  have hX1l:X1.length=X.length+2:=by rw [hX1];simp only [List.length_append,bnl]
  rw [← hX1] at H
  have h0m:=h256 _ (hgetm 0 hpos)
  refine Cs (Cs ?_)
  refine VC.join (fun ρ w' => ∃ (T:Bool) (k3:Nat),ρ 67=.bool T∧(T=true→l.getD 0 0<2)∧k2≤k3∧k3≤k2+1∧ρ 0=.pointer (some ⟨wb,0,none⟩)∧ρ 2=.pointer (some ⟨cb,0,none⟩)∧ρ 6=.slice (some ⟨gl,0,none⟩) n n∧ρ 7=.slice (some ⟨gn,0,none⟩) n n∧ρ 8=.slice (some ⟨q,0,none⟩) l.length c ∧
   St W S [blkR gl (nums .i64 ls) 3,blkR gn (nums .i64 ns) 3,vecR (some ⟨q,0,none⟩) c 3 1 l.length (nums .i64 l),wrR wb a4 c4 X1,blkR cb (chL v k3) 53] w') ?_ ?_
  case refine_1 =>
   by_cases hs2:l.getD 0 0<2
   case neg =>
    refine Cr (Lo O (YS r8) (Lo O (Y.ixS0 0 sl_23 O O O (by omega)) (Lo O (Y.ld ld_3 O (hcell (H.get (i:=2) O) hpos)) (Lo O (Y.lssD (b:=false) O O (decide_eq_false (by omega))) (Lo O (Y.movB O) (VL.skipG O O O O O (VL.skipG O O O O O (VL.skipG O O O O O (Lo O (Y.pick O O) (Lt ?_))))))))))
    exact ⟨false,k2,rfl,by simp,by omega,by omega,r0,r2,r6,r7,r8,H⟩
   refine Cr (Lo O (YS r8) (Lo O (Y.ixS0 0 sl_23 O O O (by omega)) (Lo O (Y.ld ld_3 O (hcell (H.get (i:=2) O) hpos)) (Lo O (Y.lssD (b:=true) O O (decide_eq_true (by omega))) (Lo O (Y.movB O) (LG O O O O (YP r2) (VL.nextG H 4 O hw hB hcbB 2 (by omega) (by omega) (by omega) O O O O O O ?_)))))))
   intro w rc hrc H
   simp only [List.set] at H
   refine LG O O O O (Y.eql O O) (Lo O (Y.pick O O) (Lt ?_))
   exact ⟨_,k2+1,rfl,fun _ => hs2,by omega,by omega,r0,r2,r6,r7,r8,H⟩
  case refine_2 =>
  clear H r0 r2 r6 r7 r8
  rintro ρ w8 ⟨sh,k3,r67,hsh,hk5,hk6,r0,r2,r6,r7,r8,H⟩
  refine VC.join (fun ρ w' => ∃ a c',ρ 0=.pointer (some ⟨wb,0,none⟩)∧ρ 6=.slice (some ⟨gl,0,none⟩) n n∧ρ 7=.slice (some ⟨gn,0,none⟩) n n∧ρ 8=.slice (some ⟨q,0,none⟩) l.length c ∧
   St W S [blkR gl (nums .i64 ls) 3,blkR gn (nums .i64 ns) 3,vecR (some ⟨q,0,none⟩) c 3 1 l.length (nums .i64 l),wrR wb a c' (X1++fstBits sh (l.getD 0 0)),blkR cb (chL v k3) 53] w') ?_ ?_
  case refine_1 =>
   cases sh
   case false =>
    refine CB r67 (fun h => nomatch h) (fun _ => (Cy (Lo O (YP r0) (VL.bits H 3 O 1 1 (by omega) (by omega) (by omega) O O O O ?_))))
    intro w a5 c5 H
    simp only [List.set] at H
    refine Lt (Cr (Lo O (YP r0) (Lo O (YS r8) (Lo O (Y.ixS0 0 sl_23 O O O (by omega)) (Lo O (Y.ld ld_3 O (hcell (H.get (i:=2) O) hpos)) (VL.bits H 3 O (l.getD 0 0) 8 (by omega) (by omega) (by rw [List.length_append,bnl];omega) O O O O ?_))))))
    intro w a6 c6 H
    simp only [List.set] at H
    refine Lt ?_
    exact ⟨a6,c6,r0,r6,r7,r8,by rw [List.append_assoc] at H;exact H⟩
   have hs2:=hsh rfl
   refine CB r67 (fun _ => ?_) (fun h => nomatch h)
   refine Cy (Lo O (YP r0) (VL.bits H 3 O 0 1 (by omega) (by omega) (by omega) O O O O ?_))
   intro w a5 c5 H
   simp only [List.set] at H
   refine Lt (Cr (Lo O (YP r0) (Lo O (YS r8) (Lo O (Y.ixS0 0 sl_23 O O O (by omega)) (Lo O (Y.ld ld_3 O (hcell (H.get (i:=2) O) hpos)) (VL.bits H 3 O (l.getD 0 0) 1 (by omega) (by omega) (by rw [List.length_append,bnl];omega) O O O O ?_))))))
   intro w a6 c6 H
   simp only [List.set] at H
   refine Lt ?_
   exact ⟨a6,c6,r0,r6,r7,r8,by rw [List.append_assoc] at H;exact H⟩
  case refine_2 =>
  clear H r0 r2 r6 r7 r8
  rintro ρ w9 ⟨a5,c5,r0,r6,r7,r8,H⟩
  have hfl:(fstBits sh (l.getD 0 0)).length≤9:=by
   unfold fstBits
   split <;> simp only [List.length_append,bnl] <;> omega
  have hsim:=simple_reads (sh:=sh) hL hl.symm hne hl2 h256 hsh
  obtain ⟨t,ht,hrd⟩:=hsim
  have hfin:Rds (decHT n) (bitsN 1 1++(bitsN (l.length - 1) 1++(fstBits sh (l.getD 0 0)++(if l.length=2 then bitsN (l.getD 1 0) 8 else [])))) t:=by
   refine (rds_bits (n:=1) (k:=1) (by decide)).pb ?_
   rw [if_neg (by decide)]
   exact ht
  have hfin2:(bitsN 1 1++(bitsN (l.length - 1) 1++(fstBits sh (l.getD 0 0)++(if l.length=2 then bitsN (l.getD 1 0) 8 else [])))).length≤60100:=by
   have h8:(if l.length=2 then bitsN (l.getD 1 0) 8 else []).length≤8:=by split <;> simp [bnl]
   simp only [List.length_append,bnl]
   omega
  refine Cy (Lo O (YS r8) (Lo O (Y.len sl_23 O) (Lo O (Y.eql O O) (Lt ?_))))
  by_cases hl22:l.length=2
  case neg =>
   rw [if_neg hl22,List.append_nil] at hfin hfin2
   refine CF O (by omega) (Ck (tn ?_))
   refine ⟨_,t,a5,c5,k3,hfin,hrd,hfin2,by omega,by omega,r6,r7,r8,?_⟩
   rw [← List.append_assoc,← List.append_assoc,← hX1]
   exact H
  rw [if_pos hl22] at hfin hfin2
  have h1m:=h256 _ (hgetm 1 (by omega))
  refine CT O (by omega) (Cr (Lo O (YP r0) (Lo O (YS r8) (Lo O (Y.ixS0 1 sl_23 O O O (by omega)) (Lo O (Y.ld ld_3 O (hcell (H.get (i:=2) O) (by omega))) (VL.bits H 3 O (l.getD 1 0) 8 (by omega) (by omega) (by rw [List.length_append];omega) O O O O ?_))))))
  intro w a6 c6 H
  simp only [List.set] at H
  refine Lt ?_
  refine ⟨_,t,a6,c6,k3,hfin,hrd,hfin2,by omega,by omega,r6,r7,r8,?_⟩
  rw [← List.append_assoc,← List.append_assoc,← hX1,← List.append_assoc]
  exact H
 case refine_2 =>
 clear H r0 r2 r6 r7 r8
 rintro ρ w8 ⟨Z,t,a6,c6,k3,hZ,hrd,hZl,hk5,hk6,r6,r7,r8,H⟩
 have hcode:=codeOk_of (u:=u) h1 hn (hU ▸ hL) (hU ▸ hrd)
 rw [← hU,← hl,← hns] at hcode
 refine Cs (Cy (Lo O (YS r8) (Lo O (Y.len sl_23 O) (Lo O (Y.eql O O) (Lt ?_)))))
 by_cases hone:l.length=1
 case neg =>
  rw [if_neg hone] at hcode
  refine CF O (by omega) (Ck (tn (Cy (Lo O (YS r6) (Lo O (YS r7) (Lo O (AS O) (Lo O (AS O) (Lt (Ct ?_)))))))))
  exact Done.ret2 O O O ⟨gl,gn,ls,ns,t,a6,c6,Z,k3,rfl,H.sub [0,1,3,4] O (by decide),hcode,hZ,hZl,by omega,by omega⟩
 rw [if_pos hone] at hcode
 have h0m:=hmem _ (hgetm 0 hpos)
 refine CT O (by omega) (Cr (Lo O (YS (by assumption)) (Lo O (YS r8) (Lo O (Y.ixS0 0 sl_23 O O O (by omega)) (Lo O (Y.ld ld_3 O (hcell (H.get (i:=2) O) hpos)) (Lo O (Y.ixS0 (l.getD 0 0) sl_23 O O O h0m) (VL.putI (m:=((0:Nat):Int)) H 0 st_3 O O O (nums_get (by omega)) ?_)))))))
 intro w H
 simp only [List.set,nums_set] at H
 refine Lt (Cy (Lo O (YS (by assumption)) (Lo O (YS (by assumption)) (Lo O (AS O) (Lo O (AS O) (Lt (Ct ?_)))))))
 exact Done.ret2 O O O ⟨gl,gn,_,ns,t,a6,c6,Z,k3,rfl,H.sub [0,1,3,4] O (by decide),hcode,hZ,hZl,by omega,by omega⟩
end Go.Proofs.YtinkhckpckfajaaDoor
