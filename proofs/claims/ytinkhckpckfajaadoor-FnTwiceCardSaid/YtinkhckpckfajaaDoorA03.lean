/-
  A picture is written and read: part 3 of 13 (Insert, Codes, Full, Build, Simple, CL, Par, HTP).
-/
import Derived.Test.YtinkhckpckfajaaDoorA02
set_option linter.unusedVariables false
set_option linter.unusedSimpArgs false
set_option maxRecDepth 100000
namespace Go.Proofs.YtinkhckpckfajaaDoor
open Go
theorem or_comm32 (a b:Int):orI .u32 a b=orI .u32 b a:=by unfold orI;rw [BitVec.or_comm]
theorem shl64 {n:Nat} (hn:n≤31):IntKind.i64.wrap ((1:Int) * 2 ^ min (n:Int).toNat IntKind.i64.bits)=((2 ^ n:Nat):Int):=by
 have h:min (n:Int).toNat IntKind.i64.bits=n:=by
  simp only [Int.toNat_natCast]
  exact Nat.min_eq_left (by show n≤64;omega)
 have hp:2 ^ n≤2 ^ 31:=Nat.pow_le_pow_right (by omega) hn
 have e:(1:Int) * 2 ^ n=((2 ^ n:Nat):Int):=by simp
 rw [h,e]
 generalize 2 ^ n=v at hp
 exact w64 (by omega)
theorem rev_small:∀ c,c<256→∀ l,l<9→tab_reverseBits.getD c 0 / 2 ^ (8 - l)=val (codePath c l):=by decide +kernel
theorem rev_lt:∀ c,c<256→tab_reverseBits.getD c 0<256:=by decide +kernel
theorem rev_code (code l:Nat) (hl:l≤8):tab_reverseBits.getD (code % 2 ^ 8) 0 / 2 ^ (8 - l)=val (codePath code l):=by
 rw [rev_small _ (Nat.mod_lt _ (by decide)) l (by omega),codePath_mod code 8 l hl]
structure HC (cs:List Value) (off bn len cap:Nat) (lut:Nat→Nat):Prop where
 nodes:cs[off]?=some (.slice (some ⟨bn,0,none⟩) len cap)
 look:∀ x,x<128→cs[off+1+x]?=some (.int .u32 (lut x:Nat))
def SameOut (cs cs':List Value) (off:Nat):Prop:=cs'.length=cs.length∧∀ k,(k<off∨off+129≤k)→cs'[k]?=cs[k]?
theorem SameOut.refl (cs:List Value) (off:Nat):SameOut cs cs off:=⟨rfl,fun _ _ => rfl⟩
theorem SameOut.trans {a b c:List Value} {off:Nat} (h:SameOut a b off) (k:SameOut b c off):SameOut a c off:=⟨k.1.trans h.1,fun i hi => (k.2 i hi).trans (h.2 i hi)⟩
theorem SameOut.set (cs:List Value) (off i:Nat) (v:Value) (h1:off≤i) (h2:i<off+129):SameOut cs (cs.set i v) off :=
 ⟨by simp,fun k hk => List.getElem?_set_ne (by omega)⟩
theorem HC.setLut {cs:List Value} {off bn len cap:Nat} {lut:Nat→Nat} (h:HC cs off bn len cap lut) {x:Nat} (hx:x<128) (v:Nat) :
  HC (cs.set (off+1+x) (.int .u32 (v:Nat))) off bn len cap (fun y => if y=x then v else lut y):=by
 have hl:off+1+x<cs.length:=(List.getElem?_eq_some_iff.1 (h.look x hx)).1
 refine ⟨by rw [List.getElem?_set_ne (by omega)];exact h.nodes,fun y hy => ?_⟩
 by_cases e:y=x
 ·subst e;rw [if_pos rfl];simp [hl]
 ·rw [if_neg e,List.getElem?_set_ne (by omega)];exact h.look y hy
theorem HC.setNodes {cs:List Value} {off bn len cap:Nat} {lut:Nat→Nat} (h:HC cs off bn len cap lut) (len':Nat) :
  HC (cs.set off (.slice (some ⟨bn,0,none⟩) len' cap)) off bn len' cap lut:=by
 have hl:off<cs.length:=(List.getElem?_eq_some_iff.1 h.nodes).1
 exact ⟨by simp [hl],fun x hx => by rw [List.getElem?_set_ne (by omega)];exact h.look x hx⟩
theorem HC.congr {cs:List Value} {off bn len cap:Nat} {lut lut':Nat→Nat} (h:HC cs off bn len cap lut) (hl:∀ x,x<128→lut' x=lut x):HC cs off bn len cap lut' :=
 ⟨h.nodes,fun x hx => by rw [hl x hx];exact h.look x hx⟩
def InsPost (bg off bn cap:Nat) (cs:List Value) (tG tN:TypeId) (t:PT) (path:Bits) (s:Nat) (w:World) (e:Ending) (w':World):Prop :=
 (∃ t' cs' ns' len' lut',t.ins path s=some t'∧2 * t'.inner+1≤cap∧e=.returned .nilIface∧Blk w' bg cs' tG∧Blk w' bn (nodeCells ns') tN∧HC cs' off bn len' cap lut' ∧
  Bld ns' len' t' lut'∧ns'.length=cap∧SameOut cs cs' off∧Frm [bg,bn] w w') ∨
 ((∀ t',t.ins path s=some t'→cap<2 * t'.inner+1)∧(∃ a,e=.returned (.iface 132 (.pointer (some a))))∧Frm [bg,bn] w w')
def DownI (w:World) (bg off bn cap:Nat) (cs:List Value) (tG tN:TypeId) (ns:List (Nat × Int)) (lut:Nat→Nat) (t:PT) (s code l base k:Nat) (q p:Bits) (cs1:List Value) (ns1:List (Nat × Int)) (len1 n:Nat) (lut1:Nat→Nat) (X:PT) (ρ:Env) (w':World):Prop :=
 ∃ A C K,ρ 0=.pointer (some ⟨bg,off,none⟩)∧ρ 1=.int .u32 (s:Nat)∧ρ 2=.int .u32 (code:Nat)∧ρ 3=.int .u32 (k:Nat)∧ρ 8=.nilIface∧ρ 9=.int .u32 (base:Nat)∧ρ 11=.int .u32 (n:Nat) ∧
  ρ 12=.int .i64 (7 - (q.length:Int))∧St w [bg,bn] [blkR bg cs1 tG,blkR bn (nodeCells ns1) tN] w'∧HC cs1 off bn len1 cap lut1∧SameOut cs cs1 off ∧
  Zip ns t s (codePath code l) q p ns1 len1 n X A C K ∧
  (∀ x,x<128→lut1 x=if l≤7 then (if x % 2 ^ l=val (codePath code l) then s * 256+l+1 else lut x)
   else if 7≤q.length∧x=base then (if lut x=0 then idxP ns1 0 ((codePath code l).take 7) * 256 else lut x) else lut x)
theorem insert_any (w:World) (bg off bn len cap:Nat) (cs:List Value) (tG tN:TypeId) (ns:List (Nat × Int)) (lut:Nat→Nat) (t:PT) (s code l:Nat) (gl:Gl w)
  (hbg:Blk w bg cs tG) (hbn:Blk w bn (nodeCells ns) tN) (hc:HC cs off bn len cap lut) (hb:Bld ns len t lut) (hns:ns.length=cap) (hodd:cap % 2=1) (hcap:cap≤65536)
  (hs:s<65536) (hl:l≤15) (hcode:code<2 ^ 32) (hne:bg≠bn) (hg1:nG≤bg) (hg2:nG≤bn) :
  Calls Tryd.prog 82 #[.pointer (some ⟨bg,off,none⟩),.int .u32 (s:Nat),.int .u32 (code:Nat),.int .u32 (l:Nat)] w (InsPost bg off bn cap cs tG tN t (codePath code l) s w):=by
 have H:St w [bg,bn] [blkR bg cs tG,blkR bn (nodeCells ns) tN] w:=by
  refine St.cons (St.one hbn ⟨blkR_local _ _ _,blkR_in _ _ _⟩ (by simp [blkR])) hbg ⟨blkR_local _ _ _,blkR_in _ _ _⟩ (by simp [blkR]) ?_
  intro r hr b hb
  simp only [List.mem_singleton] at hr
  subst hr
  simp only [blkR,List.mem_singleton] at hb ⊢
  subst hb
  exact hne
 have hS:HighS [bg,bn]:=fun b hb => by simp at hb;rcases hb with rfl | rfl <;> assumption
 obtain ⟨ae,hae⟩:=gl.badTree
 have hpl:=codePath_length code l
 refine enter (m:=188) Tryd.func82 O Tryd.ntmps82 O (Cy (Lo O (Y.asg O) (Lt (Cs (Cy (Lo O (YI O) (Lo O (Y.gtrD O O (decide_eq_false (by omega))) (Lo O (Y.movB O) (LG O O O O (YI O) (LG O O O O (Y.gtrD O O (decide_eq_false (by omega))) (Lo O (Y.pick O O) (Lt (CB O (fun h => nomatch h) (fun _ => (Ck (tn (Cs ?_)))))))))))))))))
 refine Cr (Lo O (AI O) (Lt (Cs (Cy (Lo O (YI O) (Lo O (Y.gtr O O) (Lt ?_)))))))
 refine VC.join (fun ρ w' => ∃ cs1 lut1 base,ρ 0=.pointer (some ⟨bg,off,none⟩)∧ρ 1=.int .u32 (s:Nat)∧ρ 2=.int .u32 (code:Nat)∧ρ 3=.int .u32 (l:Nat)∧ρ 8=.nilIface∧ρ 9=.int .u32 (base:Nat) ∧
  St w [bg,bn] [blkR bg cs1 tG,blkR bn (nodeCells ns) tN] w'∧HC cs1 off bn len cap lut1∧SameOut cs cs1 off ∧
  base<128∧(7<l→base=val ((codePath code l).take 7)) ∧
  (∀ x,x<128→lut1 x=if l≤7 then (if x % 2 ^ l=val (codePath code l) then s * 256+l+1 else lut x) else lut x)∧(l=7→lut1 base≠0)) ?_ ?_
 case refine_1 =>
  have e8:=and32 (a:=code) (n:=8)
  by_cases h7:7<l
  case pos =>
   refine CT O (by omega) ?_
   have hj:codePath code l=codePath (code >>> (l - 7)) 7++codePath code (l - 7):=by rw [← codePath_append];congr 1;omega
   have ht:(codePath code l).take 7=codePath (code >>> (l - 7)) 7:=by rw [hj,List.take_left' (codePath_length _ _)]
   have hr:=rev_code (code / 2 ^ (l - 7)) 7 (by omega)
   rw [Nat.shiftRight_eq_div_pow] at ht
   rw [← ht] at hr
   have hq:code / 2 ^ (l - 7)≤code:=Nat.div_le_self _ _
   obtain ⟨z,hz⟩:∃ z,z=code / 2 ^ (l - 7):=⟨_,rfl⟩
   have e1:=shr32 (a:=code) (n:=l - 7) (by omega)
   rw [← hz] at hr hq e1
   have e2:=and32 (a:=z) (n:=8) (by omega) (by omega)
   obtain ⟨y,hy⟩:∃ y,y=z % 2 ^ 8:=⟨_,rfl⟩
   have hyl:y<256:=by rw [hy];exact Nat.mod_lt _ (by decide)
   rw [← hy] at hr e2
   have hrl:=rev_lt y hyl
   obtain ⟨rv,hrv⟩:∃ rv,rv=tab_reverseBits.getD y 0:=⟨_,rfl⟩
   have hcell:=gl.rev y hyl
   rw [← hrv] at hr hrl hcell
   have e3:=shr32 (a:=rv) (n:=1) (by omega)
   refine Cr (Lo O (YI O) (Lo O (YI O) (Lo O (Y.sub (r:=((l - 7:Nat):Int)) O O (by rw [wu32 (by omega)];omega)) (Lo O (Y.shr O O (by omega) e1) (Lo O (Y.and O O e2) (Lo O (Y.ixA1 y ar_181 O O O hyl) (Lo O (Y.ld ld_5 O (H.old hcell (hS.g 10 O))) (Lo O (Y.cv int_5_36 O (wu32 (by omega))) (Lo O (Y.shr O O (by omega) e3) (Lo O (AI O) (Lt ?_)))))))))))
   refine ⟨cs,lut,rv / 2 ^ 1,rfl,rfl,rfl,rfl,rfl,rfl,H,hc,SameOut.refl _ _,by omega,fun _ => hr,fun x hx => by rw [if_neg (by omega)],fun h => by omega⟩
  case neg =>
   refine CF O (by omega) ?_
   have hr:=rev_code code l (by omega)
   have hpv:=val_lt (codePath code l)
   rw [hpl] at hpv
   have e2:=and32 (a:=code) (n:=8) (by omega) (by omega)
   obtain ⟨y,hy⟩:∃ y,y=code % 2 ^ 8:=⟨_,rfl⟩
   have hyl:y<256:=by rw [hy];exact Nat.mod_lt _ (by decide)
   rw [← hy] at hr e2
   have hrl:=rev_lt y hyl
   obtain ⟨rv,hrv⟩:∃ rv,rv=tab_reverseBits.getD y 0:=⟨_,rfl⟩
   have hcell:=gl.rev y hyl
   rw [← hrv] at hr hrl hcell
   have e3:=shr32 (a:=rv) (n:=8 - l) (by omega)
   rw [hr] at e3
   obtain ⟨base,hbase⟩:∃ base,base=val (codePath code l):=⟨_,rfl⟩
   rw [← hbase] at e3 hpv
   have hl7:2 ^ l≤2 ^ 7:=Nat.pow_le_pow_right (by omega) (by omega)
   refine Cy (Lo O (YI O) (Lo O (Y.and O O e2) (Lo O (Y.ixA1 y ar_181 O O O hyl) (Lo O (Y.ld ld_5 O (H.old hcell (hS.g 10 O))) (Lo O (Y.cv int_5_36 O (wu32 (by omega))) (Lo O (YI O) (Lo O (Y.sub (r:=((8 - l:Nat):Int)) O O (by rw [wu32 (by omega)];omega)) (Lo O (Y.shr O O (by omega) e3) (Lo O (AI O) (Lt (Cy (Lo O (AI O) (Lt (Cb ?_))))))))))))))
   refine Cl (fun m ρ w' => ∃ i cs1 lut1,m=2 ^ (7 - l) - i∧ρ 0=.pointer (some ⟨bg,off,none⟩)∧ρ 1=.int .u32 (s:Nat)∧ρ 2=.int .u32 (code:Nat)∧ρ 3=.int .u32 (l:Nat)∧ρ 8=.nilIface ∧
    ρ 9=.int .u32 (base:Nat)∧ρ 10=.int .i64 (i:Nat)∧i≤2 ^ (7 - l)∧St w [bg,bn] [blkR bg cs1 tG,blkR bn (nodeCells ns) tN] w'∧HC cs1 off bn len cap lut1∧SameOut cs cs1 off ∧
    ∀ x,x<128→lut1 x=if x % 2 ^ l=base∧x / 2 ^ l<i then s * 256+l+1 else lut x) (2 ^ (7 - l) - 0)
    ⟨0,cs,lut,rfl,rfl,rfl,rfl,rfl,rfl,rfl,rfl,Nat.zero_le _,H,hc,SameOut.refl _ _,fun x hx => by rw [if_neg (fun h => Nat.not_lt_zero _ h.2)]⟩ ?_
   clear H hc
   rintro m ρ w1 ⟨i,cs1,lut1,rfl,h0,h1,h2,h3,h8,h9,h10,hi,H,hc,hso,hlut⟩
   have e4:=shl64 (n:=7 - l) (by omega)
   have hi7:2 ^ (7 - l)≤2 ^ 7:=Nat.pow_le_pow_right (by omega) (by omega)
   have hpp:2 ^ l * 2 ^ (7 - l)=128:=by rw [← Nat.pow_add,show l+(7 - l)=7 by omega]
   refine Cs (Cy (Lo O (YI h10) (Lo O (YI h3) (Lo O (Y.sub (r:=((7 - l:Nat):Int)) O O (by rw [wu32 (by omega)];omega)) (Lo O (Y.shl O O (by omega) e4) (Lo O (Y.lss O O) (Lt ?_)))))))
   by_cases hlt:i<2 ^ (7 - l)
   case pos =>
    have hx:base+i * 2 ^ l<128:=by
     have h1:(i+1) * 2 ^ l≤2 ^ (7 - l) * 2 ^ l:=Nat.mul_le_mul_right _ hlt
     rw [Nat.mul_comm (2 ^ (7 - l)),hpp,Nat.succ_mul] at h1
     omega
    have e5:=shl32 (a:=i) (n:=l) (by omega) (by omega)
    have e6:=or32 (a:=base) (b:=i) (n:=l) (by omega) (by omega)
    have e7:=shl32 (a:=s) (n:=8) (by omega) (by omega)
    have e8:orI .u32 ((s * 2 ^ 8:Nat):Int) ((l+1:Nat):Int)=((s * 256+l+1:Nat):Int):=by
     rw [or_comm32,or32 (by omega) (by omega)]
     omega
    refine CT O (by omega) (Ck (tn (Cs (Cb (Cr (Lo O (YP h0) (Lo O (YI h9) (Lo O (YI h10) (Lo O (Y.cv int_3_36 O (wu32 (by omega))) (Lo O (YI h3) (Lo O (Y.shl O O (by omega) e5) (Lo O (Y.or O O e6) (Lo O (YI h1) (Lo O (Y.shl O O (by omega) e7) (Lo O (YI h3) (Lo O (Y.add (r:=((l+1:Nat):Int)) O O (by rw [wu32 (by omega)];omega)) (Lo O (Y.or O O e8) (Lo O (Y.nilP O) (Lo O (Y.fa fa_142_1 O) (Lo O (Y.ixA1 (base+i * 2 ^ l) ar_140 O O O hx) ?_))))))))))))))))))))
    refine VL.putI H 0 st_36 O O O (hc.look _ hx) ?_
    intro w H
    refine Ln (blk_n (tn (Cr (Lo O (YI h10) (Lo O (Y.add O O (w64 (by omega))) (Lo O (AI O) (Lt ?_)))))))
    refine ⟨2 ^ (7 - l) - (i+1),by omega,i+1,_,_,rfl,h0,h1,h2,h3,h8,h9,rfl,by omega,H,hc.setLut hx _,hso.trans (SameOut.set _ _ _ _ (by omega) (by omega)),fun x hx' => ?_⟩
    have hmd:(base+i * 2 ^ l) % 2 ^ l=base:=by rw [Nat.add_mul_mod_self_right,Nat.mod_eq_of_lt hpv]
    have hdv:(base+i * 2 ^ l) / 2 ^ l=i:=by rw [Nat.add_mul_div_right _ _ (Nat.two_pow_pos l),Nat.div_eq_of_lt hpv,Nat.zero_add]
    by_cases hxe:x=base+i * 2 ^ l
    ·rw [if_pos hxe,if_pos]
     rw [hxe,hmd,hdv]
     exact ⟨rfl,Nat.lt_succ_self i⟩
    ·rw [if_neg hxe,hlut x hx']
     by_cases hm:x % 2 ^ l=base
     ·have hne:x / 2 ^ l≠i:=fun h => hxe (by
       have:=Nat.mod_add_div x (2 ^ l)
       rw [hm,h,Nat.mul_comm] at this
       exact this.symm)
      by_cases hd:x / 2 ^ l<i
      ·rw [if_pos ⟨hm,hd⟩,if_pos ⟨hm,by omega⟩]
      ·rw [if_neg (fun h => hd h.2),if_neg (fun h => by have:=h.2;omega)]
     ·rw [if_neg (fun h => hm h.1),if_neg (fun h => hm h.1)]
   case neg =>
    refine CF O (by omega) (Cx (thn_x (thn_x (blk_x (tn ?_)))))
    have hi2:i=2 ^ (7 - l):=by omega
    have hb2:base<128:=by omega
    have hall:∀ x,x<128→x / 2 ^ l<i:=fun x hx => by
     rw [hi2,Nat.div_lt_iff_lt_mul (Nat.two_pow_pos l),Nat.mul_comm,hpp];exact hx
    refine ⟨cs1,lut1,base,h0,h1,h2,h3,h8,h9,H,hc,hso,hb2,fun h => by omega,fun x hx => ?_,fun h => ?_⟩
    ·rw [if_pos (by omega),hlut x hx,← hbase]
     by_cases hm:x % 2 ^ l=base
     ·rw [if_pos ⟨hm,hall x hx⟩,if_pos hm]
     ·rw [if_neg (fun h => hm h.1),if_neg hm]
    ·rw [hlut base hb2,if_pos ⟨Nat.mod_eq_of_lt hpv,hall base hb2⟩]
     omega
 case refine_2 =>
  clear H hc
  rintro ρ w1 ⟨cs1,lut1,base,h0,h1,h2,h3,h8,h9,H,hc,hso,hbase,hb7,hlut,hnz⟩
  refine Cy (Lo O (AI O) (Lt (Cs (Cy (Lo O (AI O) (Lt (Cb ?_)))))))
  have hbld:=hb
  obtain ⟨A0,hr0,hnd0,hbe0,hct0⟩:=hb.rep
  refine Cl (fun m ρ w' => ∃ q p cs1 ns1 len1 n lut1 X,p=codePath code m∧m≤l∧DownI w bg off bn cap cs tG tN ns lut t s code l base m q p cs1 ns1 len1 n lut1 X ρ w') l
   ⟨[],codePath code l,cs1,ns,len,0,lut1,t,rfl,Nat.le_refl _,A0,fun X => X,[],h0,h1,h2,h3,h8,h9,rfl,rfl,H,hc,hso,Zip.start hr0 hnd0 hbe0 hct0 hb.zero hb.len_le,fun x hx => by
    rw [hlut x hx]
    by_cases h7:l≤7
    ·rw [if_pos h7,if_pos h7]
    ·rw [if_neg h7,if_neg h7,if_neg (by simp)]⟩ ?_
  have hnz2:l=7→(if base % 2 ^ l=val (codePath code l) then s * 256+l+1 else lut base)≠0:=fun h => by
   have:=hnz h
   rw [hlut base hbase,if_pos (by omega)] at this
   exact this
  clear H hc hso hlut h0 h1 h2 h3 h8 h9 hnz
  rintro m ρ w1 ⟨q,p,cs1,ns1,len1,n,lut1,X,rfl,hm,A,C,K,h0,h1,h2,h3,h8,h9,h11,h12,H,hc,hso,z,hlut⟩
  have hlz:=z.here
  have hcap1:len1≤cap:=by have:=z.len_le;rw [z.size,hns] at this;exact this
  have hns1:ns1.length=cap:=by rw [z.size,hns]
  have hql:q.length=l - m:=by
   have:=congrArg List.length z.way
   rw [List.length_append,codePath_length,codePath_length] at this
   omega
  refine Cs (Cy (Lo O (YI h3) (Lo O (Y.gtr O O) (Lt ?_))))
  by_cases hm0:m=0
  case pos =>
   subst hm0
   refine CF O (by omega) (Cx (thn_x (thn_x (blk_x (tn ?_)))))
   have hq:q=codePath code l:=by have:=z.way;simp only [codePath,List.append_nil] at this;exact this.symm
   subst hq
   rw [hpl] at hlut
   have hchi:∃ (sy:Nat) (cv:Int),ns1[n]?=some (sy,cv):=by
    have:n<ns1.length:=by omega
    exact ⟨_,_,by rw [List.getElem?_eq_getElem this]⟩
   obtain ⟨sy,cv,hsn⟩:=hchi
   have hfin:∀ x,x<128→lutIns lut s (codePath code l) (idxP ns1 0 ((codePath code l).take 7)) x=lut1 x:=fun x hx => by
    rw [hlut x hx]
    unfold lutIns
    rw [hpl]
    by_cases h7:l≤7
    ·rw [if_pos h7,if_pos h7]
    ·rw [if_neg h7,if_neg h7,← hb7 (by omega)]
     by_cases hxb:x=base
     ·rw [if_pos hxb,if_pos (show 7≤l∧x=base from ⟨by omega,hxb⟩)]
     ·rw [if_neg hxb,if_neg (fun h => hxb h.2)]
   refine Cs (Cy (Lo O (YP h0) (Lo O (Y.nilP O) (Lo O (Y.fa fa_142_0 O) (Lo O (Y.ld ld_139 O (H.cell 0 O hc.nodes)) (Lo O (YI h11) (Lo O (Y.ixS n sl_139 O O O hlz) (Lo O (Y.fa fa_157_1 O) (Lo O (Y.ld ld_21 O (H.cell 1 O (by rw [Nat.zero_add];exact nodeCells_chi ns1 n _ hsn))) (Lt ?_))))))))))
   cases X with
   | n a b =>
    have hst:=z.stuck_end
    obtain ⟨sy',c,B,D,hn',hc0,_⟩:=z.rep
    rw [hsn] at hn'
    simp only [Option.some.injEq,Prod.mk.injEq] at hn'
    obtain ⟨rfl,rfl⟩:=hn'
    refine Cb (Cy (Lo O (Y.eql O O) (Lo O (Y.asgB O) (Lt (CF O (by omega) (Cy (Lo O (Y.eql O O) (Lo O (Y.asgB O) (Lt (CF O (by omega) (Cy (Lo O (Y.ld ld_47 O (H.old hae (hS.g 5 O))) (Lo O (Y.asg O) (Ln ?_))))))))))))))
    refine tn (Ct (blk_r (thn_r ?_)))
    exact Done.ret1 O O (.inr ⟨fun t' ht' => (by rw [hst] at ht';cases ht'),⟨_,rfl⟩,H.frm⟩)
   | l s0 =>
    obtain ⟨t',hins,hb'⟩:=z.finish (fun _ _ h => nomatch h) hs ⟨len,hb⟩
    have hn':=z.rep.2
    rw [hsn] at hn'
    simp only [Option.some.injEq,Prod.mk.injEq] at hn'
    obtain ⟨rfl,rfl⟩:=hn'
    refine Cb (Cy (Lo O (Y.eql O O) (Lo O (Y.asgB O) (Lt (CT O O (Ck (blk_n (tn (Cy (Lo O (YP h0) (Lo O (Y.nilP O) (Lo O (Y.fa fa_142_0 O) (Lo O (Y.ld ld_139 O (H.cell 0 O hc.nodes)) (Lo O (YI h11) (Lo O (YI h1) (Lo O (Y.ixS n sl_139 O O O hlz) (Lo O (Y.fa fa_157_0 O) ?_)))))))))))))))))
    refine VL.putI H 1 st_36 O O O (by rw [Nat.zero_add];exact nodeCells_sym ns1 n _ hsn) ?_
    intro w H
    refine Lt (Cy (Lo O (Y.asg O) (Lt (Ct ?_))))
    have H2:=H.blk (i:=1) rfl
    rw [show 0+n * 2+0=n * 2 by omega,nodeCells_setSym ns1 n _ s hsn] at H2
    obtain ⟨Az,hrz,_,_,hcz⟩:=hb'.rep
    have:=hrz.count
    exact Done.ret1 O O (.inl ⟨t',cs1,_,len1,_,hins,by omega,rfl,H.blk (i:=0) rfl,H2,hc.congr hfin,hb',by rw [List.length_set];exact hns1,hso,H.frm⟩)
   | e =>
    obtain ⟨t',hins,hb'⟩:=z.finish (fun _ _ h => nomatch h) hs ⟨len,hb⟩
    obtain ⟨_,sy',hn'⟩:=z.rep
    rw [hsn] at hn'
    simp only [Option.some.injEq,Prod.mk.injEq] at hn'
    obtain ⟨rfl,rfl⟩:=hn'
    refine Cb (Cy (Lo O (Y.eql O O) (Lo O (Y.asgB O) (Lt (CF O (by omega) (Cy (Lo O (Y.eql O O) (Lo O (Y.asgB O) (Lt (CT O O (Cr (Lo O (YP h0) (Lo O (Y.nilP O) (Lo O (Y.fa fa_142_0 O) (Lo O (Y.ld ld_139 O (H.cell 0 O hc.nodes)) ?_)))))))))))))))
    refine Lo O (YI h11) (Lo O (Y.ixS n sl_139 O O O hlz) (Lo O (Y.fa fa_157_1 O) (VL.putI H 1 st_21 O O O (by rw [Nat.zero_add];exact nodeCells_chi ns1 n _ hsn) ?_)))
    intro w H
    refine Ln (blk_n (tn ?_))
    have hsn2:(ns1.set n (sy,-1))[n]?=some (sy,-1):=by simp [(by omega:n<ns1.length)]
    have hcc:(nodeCells ns1).set (0+n * 2+1) (.int .i32 (-1))=nodeCells (ns1.set n (sy,-1)):=by
     rw [Nat.zero_add,nodeCells_setChi ns1 n _ (-1) hsn]
    rw [hcc] at H
    refine Cy (Lo O (YP h0) (Lo O (Y.nilP O) (Lo O (Y.fa fa_142_0 O) (Lo O (Y.ld ld_139 O (H.cell 0 O hc.nodes)) (Lo O (YI h11) (Lo O (YI h1) (Lo O (Y.ixS n sl_139 O O O hlz) (Lo O (Y.fa fa_157_0 O) (VL.putI H 1 st_36 O O O (by rw [Nat.zero_add];exact nodeCells_sym _ n _ hsn2) ?_)))))))))
    intro w H
    refine Lt (Cy (Lo O (Y.asg O) (Lt (Ct ?_))))
    have H2:=H.blk (i:=1) rfl
    rw [show 0+n * 2+0=n * 2 by omega,nodeCells_setSym _ n _ s hsn2,List.set_set] at H2
    obtain ⟨Az,hrz,_,_,hcz⟩:=hb'.rep
    have:=hrz.count
    exact Done.ret1 O O (.inl ⟨t',cs1,_,len1,_,hins,by omega,rfl,H.blk (i:=0) rfl,H2,hc.congr hfin,hb',by rw [List.length_set];exact hns1,hso,H.frm⟩)
  case neg =>
   obtain ⟨k,rfl⟩:∃ k,m=k+1:=⟨m - 1,by omega⟩
   refine CT O (by omega) (Ck (tn (Cb (Cy (Lo O (YI h3) (Lo O (Y.sub (r:=(k:Nat)) O O (by rw [wu32 (by omega)];omega)) (Lo O (AI O) (Lt (Cs (Cy (Lo O (YI h11) (Lo O (Y.cv int_36_3 O (w64 (by omega))) (Lo O (YP h0) (Lo O (Y.nilP O) (Lo O (Y.fa fa_142_0 O) (Lo O (Y.ld ld_139 O (H.cell 0 O hc.nodes)) (Lo O (Y.len sl_139 O) (Lo O (Y.gtr O O) ?_))))))))))))))))))
   refine Lt (CF O (by omega) (Ck (tn ?_)))
   have hchi:∃ (sy:Nat) (cv:Int),ns1[n]?=some (sy,cv):=by
    have:n<ns1.length:=by omega
    exact ⟨_,_,by rw [List.getElem?_eq_getElem this]⟩
   obtain ⟨sy,cv,hsn⟩:=hchi
   refine Cs (Cy (Lo O (YP h0) (Lo O (Y.nilP O) (Lo O (Y.fa fa_142_0 O) (Lo O (Y.ld ld_139 O (H.cell 0 O hc.nodes)) (Lo O (YI h11) (Lo O (Y.ixS n sl_139 O O O hlz) (Lo O (Y.fa fa_157_1 O) (Lo O (Y.ld ld_21 O (H.cell 1 O (by rw [Nat.zero_add];exact nodeCells_chi ns1 n _ hsn))) (Lt ?_))))))))))
   refine VC.join (fun ρ w' => ∃ cs1 ns1 len1 lut1 a b,DownI w bg off bn cap cs tG tN ns lut t s code l base k q (codePath code (k+1)) cs1 ns1 len1 n lut1 (.n a b) ρ w') ?_ ?_
   case refine_1 =>
    refine Cb ?_
    cases X with
    | n a b =>
     obtain ⟨sy',c,B,D,hn',hc0,_⟩:=z.rep
     rw [hsn] at hn'
     simp only [Option.some.injEq,Prod.mk.injEq] at hn'
     obtain ⟨rfl,rfl⟩:=hn'
     refine Cy (Lo O (Y.eql O O) (Lo O (Y.asgB O) (Lt (CF O (by omega) (Cy (Lo O (Y.eql O O) (Lo O (Y.asgB O) (Lt (CF O (by omega) (Ck (blk_n (tn ?_))))))))))))
     exact ⟨cs1,ns1,len1,lut1,a,b,A,C,K,h0,h1,h2,rfl,h8,h9,h11,h12,H,hc,hso,z,hlut⟩
    | l s0 =>
     have hst:=z.stuck_leaf
     have hn':=z.rep.2
     rw [hsn] at hn'
     simp only [Option.some.injEq,Prod.mk.injEq] at hn'
     obtain ⟨rfl,rfl⟩:=hn'
     refine Cy (Lo O (Y.eql O O) (Lo O (Y.asgB O) (Lt (CT O O (Cy (Lo O (Y.ld ld_47 O (H.old hae (hS.g 5 O))) (Lo O (Y.asg O) (Lt (Ct (blk_r (thn_r (blk_r (thn_r (blk_r (thn_r ?_)))))))))))))))
     exact Done.ret1 O O (.inr ⟨fun t' ht' => (by rw [hst] at ht';cases ht'),⟨_,rfl⟩,H.frm⟩)
    | e =>
     have hroom:=z.stuck_room
     have hodd2:=z.odd
     obtain ⟨_,sy',hn'⟩:=z.rep
     rw [hsn] at hn'
     simp only [Option.some.injEq,Prod.mk.injEq] at hn'
     obtain ⟨rfl,rfl⟩:=hn'
     refine Cy (Lo O (Y.eql O O) (Lo O (Y.asgB O) (Lt (CF O (by omega) (Cy (Lo O (Y.eql O O) (Lo O (Y.asgB O) (Lt (CT O O (Cs (Cs (Cd mixedP (by kernel_rfl) ?_))))))))))))
     intro w hsame
     replace H:=H.same hsame
     refine So O (YP h0) (So O (Y.nilP O) (So O (Y.fa fa_142_0 O) (So O (Y.ld ld_139 O (H.cell 0 O hc.nodes)) (So O (Y.len sl_139 O) (So O (YP h0) (So O (Y.nilP O) (So O (Y.fa fa_142_0 O) (So O (Y.ld ld_139 O (H.cell 0 O hc.nodes)) (So O (Y.cap sl_139 O) (So O (Y.eql O O) (Sn (tn ?_))))))))))))
     by_cases hfull:len1=cap
     case pos =>
      refine CT O (by omega) (Cy (Lo O (Y.ld ld_47 O (H.old hae (hS.g 5 O))) (Lo O (Y.asg O) (Lt (Ct (thn_r (blk_r (thn_r (blk_r (thn_r (blk_r (thn_r ?_))))))))))))
      exact Done.ret1 O O (.inr ⟨fun t' ht' => (by have:=hroom t' ht';omega),⟨_,rfl⟩,H.frm⟩)
     case neg =>
      refine CF O (by omega) (Ck (tn ?_))
      obtain ⟨sy2,hsn2,z2⟩:=z.open_ (by omega)
      rw [hsn] at hsn2
      simp only [Option.some.injEq,Prod.mk.injEq,and_true] at hsn2
      subst hsn2
      have hcc:(nodeCells ns1).set (0+n * 2+1) (.int .i32 (len1:Int))=nodeCells (ns1.set n (sy,(len1:Int))):=by
       rw [Nat.zero_add,nodeCells_setChi ns1 n _ _ hsn]
      refine Cs (VC.drawTail 13 mixedP (by kernel_rfl) ?_)
      intro w hsame
      replace H:=H.same hsame
      refine So O (YP h0) (So O (Y.nilP O) (So O (Y.fa fa_142_0 O) (So O (Y.ld ld_139 O (H.cell 0 O hc.nodes)) (So O (YI h11) (So O (YP h0) (So O (Y.nilP O) (So O (Y.fa fa_142_0 O) (So O (Y.ld ld_139 O (H.cell 0 O hc.nodes)) (So O (Y.len sl_139 O) (So O (Y.cv int_3_21 O (w32 (by omega))) (So O (Y.ixS n sl_139 O O O hlz) (So O (Y.fa fa_157_1 O) (Sn (VL.putI H 1 st_21 O O O (by rw [Nat.zero_add];exact nodeCells_chi ns1 n _ hsn) ?_))))))))))))))
      intro w H
      refine Lt ?_
      rw [hcc] at H
      refine VC.drawTail 14 mixedP (by kernel_rfl) ?_
      intro w hsame
      replace H:=H.same hsame
      refine So O (YP h0) (So O (YP h0) (So O (Y.nilP O) (So O (Y.fa fa_142_0 O) (So O (Y.ld ld_139 O (H.cell 0 O hc.nodes)) (So O (YP h0) (So O (Y.nilP O) (So O (Y.fa fa_142_0 O) (So O (Y.ld ld_139 O (H.cell 0 O hc.nodes)) (So O (Y.len sl_139 O) (So O (Y.add (r:=((len1+2:Nat):Int)) O O (by rw [w64 (by omega)];omega)) (So O (Y.sliceHi (len1+2) sl_139 O O O (by omega)) (So O (Y.nilP O) (So O (Y.fa fa_142_0 O) (Sn (VL.putS H 0 st_139 O O O hc.nodes ?_)))))))))))))))
      intro w H
      refine Ln (blk_n (tn ?_))
      refine ⟨_,_,len1+2,lut1,.e,.e,_,C,K,h0,h1,h2,rfl,h8,h9,h11,h12,H,hc.setNodes (len1+2),hso.trans (SameOut.set _ _ _ _ (by omega) (by omega)),z2,fun x hx => ?_⟩
      rw [hlut x hx]
      by_cases h7:l≤7
      ·rw [if_pos h7,if_pos h7]
      ·rw [if_neg h7,if_neg h7]
       by_cases hxb:7≤q.length∧x=base
       ·rw [if_pos hxb,if_pos hxb]
        have hpre:(codePath code l).take 7 <+: q:=by
         rw [z.way,List.take_append_of_le_length hxb.1]
         exact List.take_prefix 7 q
        rw [z.stable _ hpre]
       ·rw [if_neg hxb,if_neg hxb]
   case refine_2 =>
    clear H hc hso z hlut h0 h1 h2 h3 h8 h9 h11 h12 hlz hcap1 hns1 hsn
    rintro ρ w2 ⟨cs1,ns1,len1,lut1,a,b,A,C,K,h0,h1,h2,h3,h8,h9,h11,h12,H,hc,hso,z,hlut⟩
    have hcap1:len1≤cap:=by have:=z.len_le;rw [z.size,hns] at this;exact this
    have hlz:=z.here
    obtain ⟨bit,hbit⟩:∃ bit,bit=code.testBit k:=⟨_,rfl⟩
    have hb01:=Bool.toNat_le bit
    have key:∃ (sy c:Nat) (X':PT) (A':List Nat) (C':PT→PT) (K':List Nat),ns1[n]?=some (sy,(c:Int))∧c+1<len1∧Zip ns t s (codePath code l) (q++[bit]) (codePath code k) ns1 len1 (c+bit.toNat) X' A' C' K':=by
     have z':=z
     simp only [codePath,← hbit] at z'
     cases bit with
     | true =>
      obtain ⟨c,B,D,hm,_,hc2,z2⟩:=z'.right
      obtain ⟨⟨sy,cv⟩,e1,e2⟩:=Option.map_eq_some_iff.1 hm
      simp only at e2;subst e2
      exact ⟨sy,c,_,_,_,_,e1,hc2,z2⟩
     | false =>
      obtain ⟨c,B,D,hm,_,hc2,z2⟩:=z'.left
      obtain ⟨⟨sy,cv⟩,e1,e2⟩:=Option.map_eq_some_iff.1 hm
      simp only at e2;subst e2
      exact ⟨sy,c,_,_,_,_,e1,hc2,z2⟩
    obtain ⟨sy,c,X',A',C',K',hsn,hc2,z'⟩:=key
    have e1:=shr32 (a:=code) (n:=k) (by omega)
    have hq2:code / 2 ^ k≤code:=Nat.div_le_self _ _
    have e2:andI .u32 1 ((code / 2 ^ k:Nat):Int)=(bit.toNat:Nat):=by
     have:=and32 (a:=code / 2 ^ k) (n:=1) (by omega) (by omega)
     rw [and_comm32,hbit,Nat.toNat_testBit]
     exact this
    have e3:=shl32 (a:=c+bit.toNat) (n:=8) (by omega) (by omega)
    have hl1:(q++[bit]).length=q.length+1:=by simp
    refine Cy (Lo O (YP h0) (Lo O (Y.nilP O) (Lo O (Y.fa fa_142_0 O) (Lo O (Y.ld ld_139 O (H.cell 0 O hc.nodes)) (Lo O (YI h11) (Lo O (Y.ixS n sl_139 O O O hlz) (Lo O (Y.fa fa_157_1 O) (Lo O (Y.ld ld_21 O (H.cell 1 O (by rw [Nat.zero_add];exact nodeCells_chi ns1 n _ hsn))) (Lo O (Y.cv (r:=(c:Nat)) int_21_36 O (wu32 (by omega))) (Lo O (YI h2) (Lo O (YI h3) (Lo O (Y.shr O O (by omega) e1) (Lo O (Y.and O O e2) (Lo O (Y.add (r:=((c+bit.toNat:Nat):Int)) O O (by rw [wu32 (by omega)];omega)) (Lo O (AI O) (Lt (Cs ?_)))))))))))))))))
    refine Cr (Lo O (YI h12) (Lo O (Y.sub (r:=7 - ((q++[bit]).length:Int)) O O (by rw [w64 (by omega)];omega)) (Lo O (AI O) (Lt (Cs ?_)))))
    by_cases hj:q.length+1=7
    case neg =>
     refine Cr (Lo O (YI O) (Lo O (Y.eqlD O O (decide_eq_false (by omega))) (Lo O (Y.movB O) (VL.skipG O O O O O (VL.skipG O O O O O (VL.skipG O O O O O (VL.skipG O O O O O (VL.skipG O O O O O (VL.skipG O O O O O (VL.skipG O O O O O (Lo O (Y.pick O O) (Lt (CB O (fun h => nomatch h) (fun _ => (Ck (blk_n (tn ?_)))))))))))))))))
     refine ⟨k,by omega,q++[bit],_,cs1,ns1,len1,_,lut1,X',rfl,by omega,A',C',K',h0,h1,h2,h3,h8,h9,rfl,rfl,H,hc,hso,z',fun x hx => ?_⟩
     rw [hlut x hx,hl1]
     by_cases h7:l≤7
     ·rw [if_pos h7,if_pos h7]
     ·rw [if_neg h7,if_neg h7]
      by_cases hxb:7≤q.length∧x=base
      ·rw [if_pos hxb,if_pos (show 7≤q.length+1∧x=base from ⟨by omega,hxb.2⟩)]
      ·rw [if_neg hxb,if_neg (fun h => hxb ⟨by omega,h.2⟩)]
    case pos =>
     have hlb:=hlut base hbase
     have hpt:¬ l≤7→(codePath code l).take 7=q++[bit]:=fun _ => by
      rw [z'.way,List.take_left' (by omega)]
     by_cases hz:lut1 base=0
     case neg =>
      refine Cr (Lo O (YI O) (Lo O (Y.eqlD O O (decide_eq_true (by omega))) (Lo O (Y.movB O) (LG O O O O (YP h0) (LG O O O O (YI h9) (LG O O O O (Y.nilP O) (LG O O O O (Y.fa fa_142_1 O) (LG O O O O (Y.ixA1 base ar_140 O O O hbase) (LG O O O O (Y.ld ld_36 O (H.cell 0 O (hc.look base hbase))) (LG O O O O (Y.eqlD O O (decide_eq_false (by omega))) (Lo O (Y.pick O O) (Lt (CB O (fun h => nomatch h) (fun _ => (Ck (blk_n (tn ?_)))))))))))))))))
      refine ⟨k,by omega,q++[bit],_,cs1,ns1,len1,_,lut1,X',rfl,by omega,A',C',K',h0,h1,h2,h3,h8,h9,rfl,rfl,H,hc,hso,z',fun x hx => ?_⟩
      rw [hlut x hx,hl1]
      by_cases h7:l≤7
      ·rw [if_pos h7,if_pos h7]
      ·rw [if_neg h7,if_neg h7,if_neg (fun h => by omega)]
       rw [if_neg h7,if_neg (fun h => by omega)] at hlb
       by_cases hxb:x=base
       ·rw [if_pos (show 7≤q.length+1∧x=base from ⟨by omega,hxb⟩),hxb,if_neg (by omega)]
       ·rw [if_neg (fun h => hxb h.2)]
     case pos =>
      have h7:¬ l≤7:=fun h => by
       rw [if_pos h] at hlb
       exact hnz2 (by omega) (by rw [← hlb];exact hz)
      rw [if_neg h7,if_neg (fun h => by omega)] at hlb
      refine Cr (Lo O (YI O) (Lo O (Y.eqlD O O (decide_eq_true (by omega))) (Lo O (Y.movB O) (LG O O O O (YP h0) (LG O O O O (YI h9) (LG O O O O (Y.nilP O) (LG O O O O (Y.fa fa_142_1 O) (LG O O O O (Y.ixA1 base ar_140 O O O hbase) (LG O O O O (Y.ld ld_36 O (H.cell 0 O (hc.look base hbase))) (LG O O O O (Y.eqlD O O (decide_eq_true (by omega))) (Lo O (Y.pick O O) (Lt ?_))))))))))))
      refine CB O (fun _ => ?_) (fun h => nomatch h)
      refine Cr (Lo O (YP h0) (Lo O (YI h9) (Lo O (YI O) (Lo O (Y.shl O O (by omega) e3) (Lo O (Y.nilP O) (Lo O (Y.fa fa_142_1 O) (Lo O (Y.ixA1 base ar_140 O O O hbase) (VL.putI H 0 st_36 O O O (hc.look base hbase) ?_))))))))
      intro w H
      refine Ln (blk_n (tn ?_))
      refine ⟨k,by omega,q++[bit],_,_,ns1,len1,_,_,X',rfl,by omega,A',C',K',h0,h1,h2,h3,h8,h9,rfl,rfl,H,hc.setLut hbase _,hso.trans (SameOut.set _ _ _ _ (by omega) (by omega)),z',fun x hx => ?_⟩
      rw [if_neg h7,hl1]
      by_cases hxb:x=base
      ·rw [if_pos hxb,if_pos (show 7≤q.length+1∧x=base from ⟨by omega,hxb⟩),hxb,if_pos (by omega),hpt h7,← z'.idx]
      ·rw [if_neg hxb,if_neg (fun h => hxb h.2),hlut x hx,if_neg h7,if_neg (fun h => hxb h.2)]
def rowK (k:IntKind) (f:Nat→Nat) (n:Nat):List Value:=(List.range n).map fun j => .int k (f j:Nat)
theorem rowK_length (k:IntKind) (f:Nat→Nat) (n:Nat):(rowK k f n).length=n:=by simp [rowK]
theorem rowK_get {k:IntKind} {f:Nat→Nat} {n j:Nat} (h:j<n):(rowK k f n)[j]?=some (.int k (f j:Nat)):=by simp [rowK,h]
theorem rowK_set {k:IntKind} {f g:Nat→Nat} {n x v:Nat} (hv:g x=v) (h:∀ j,j<n→j≠x→g j=f j):(rowK k f n).set x (.int k (v:Nat))=rowK k g n:=by
 apply List.ext_getElem?
 intro j
 by_cases hj:j<n
 ·rw [rowK_get hj]
  by_cases e:j=x
  ·subst e
   rw [List.getElem?_set_self (by simpa [rowK_length] using hj),hv]
  ·rw [List.getElem?_set_ne (Ne.symm e),rowK_get hj,h j hj e]
 ·rw [List.getElem?_eq_none (by rw [List.length_set,rowK_length];omega),List.getElem?_eq_none (by rw [rowK_length];omega)]
theorem rowK_congr {k:IntKind} {f g:Nat→Nat} {n:Nat} (h:∀ j,j<n→g j=f j):rowK k f n=rowK k g n:=by
 unfold rowK
 exact List.map_congr_left fun j hj => by rw [h j (List.mem_range.1 hj)]
theorem rowK_zero (k:IntKind) (n:Nat):List.replicate n (.int k 0)=rowK k (fun _ => 0) n:=by
 apply List.ext_getElem?
 intro j
 by_cases hj:j<n
 ·rw [rowK_get hj];simp [hj]
 ·rw [List.getElem?_eq_none (by simp;omega),List.getElem?_eq_none (by rw [rowK_length];omega)]
def Row (w:World) (k:IntKind) (b o:Nat) (ls:List Nat):Prop:=∀ j (h:j<ls.length),w.cell? ⟨b,o+j,none⟩=some (.int k (ls[j]:Nat))
theorem Row.keep {S:List Nat} {w w':World} {k:IntKind} {b o:Nat} {ls:List Nat} (h:Row w k b o ls) (hf:Frm S w w') (hb:b ∉ S):Row w' k b o ls:=fun j hj => hf.cell (h j hj) hb
def cstart (ls:List Nat):Nat→Nat
 | 0 => 0
 | k+1 => (cstart ls k+ls.count k) * 2
def codeAt (ls:List Nat) (i:Nat):Nat:=if ls.getD i 0=0 then 0 else cstart ls (ls.getD i 0)+(ls.take i).count (ls.getD i 0)
theorem countP_lt_succ (ls:List Nat) (k:Nat):ls.countP (·<k+1)=ls.countP (·<k)+ls.count k:=by
 induction ls with
 | nil => rfl
 | cons a l ih =>
  simp only [List.countP_cons,List.count_cons,ih,decide_eq_true_eq,beq_iff_eq]
  split <;> split <;> split <;> omega
theorem cstart_le (ls:List Nat):∀ k,cstart ls k≤2 ^ k * ls.countP (·<k)
 | 0 => by simp [cstart]
 | k+1 => by
  have h:=cstart_le ls k
  rw [countP_lt_succ,cstart,Nat.pow_succ,Nat.mul_add]
  have h2:ls.count k≤2 ^ k * ls.count k:=Nat.le_mul_of_pos_left _ (Nat.two_pow_pos k)
  rw [show 2 ^ k * 2 * ls.countP (·<k)=2 ^ k * ls.countP (·<k) * 2 by rw [Nat.mul_right_comm],show 2 ^ k * 2 * ls.count k=2 ^ k * ls.count k * 2 by rw [Nat.mul_right_comm]]
  omega
theorem cstart_sum (ls:List Nat) (k:Nat) (hk:k≤15) (hn:ls.length≤65536):cstart ls k+ls.count k≤2147483648:=by
 have h1:=cstart_le ls k
 have h2:=countP_lt_succ ls k
 have h3:ls.countP (·<k+1)≤ls.length:=List.countP_le_length
 have h4:ls.count k≤2 ^ k * ls.count k:=Nat.le_mul_of_pos_left _ (Nat.two_pow_pos k)
 have h5:cstart ls k+ls.count k≤2 ^ k * ls.countP (·<k+1):=by rw [h2,Nat.mul_add];omega
 have h6:2 ^ k≤2 ^ 15:=Nat.pow_le_pow_right (by omega) hk
 have h7:2 ^ k * ls.countP (·<k+1)≤2 ^ 15 * 65536:=Nat.mul_le_mul h6 (by omega)
 omega
theorem take_count_le (ls:List Nat) (i k:Nat):(ls.take i).count k≤ls.count k:=(List.take_sublist i ls).count_le k
theorem take_count_succ (ls:List Nat) (i:Nat) (h:i<ls.length) (k:Nat):(ls.take (i+1)).count k=(ls.take i).count k+if ls[i]=k then 1 else 0:=by
 rw [List.take_succ_eq_append_getElem h,List.count_append,List.count_singleton]
 simp only [beq_iff_eq]
def CodesPost (ls:List Nat) (w:World) (e:Ending) (w':World):Prop :=
 ((∀ x ∈ ls,x≤15)∧∃ b,w.heap.size≤b∧e=.returned (.tuple #[.slice (some ⟨b,0,none⟩) ls.length ls.length,.nilIface])∧Blk w' b (rowK .u32 (codeAt ls) ls.length) 36∧Frm [] w w') ∨
 ((∃ x ∈ ls,15<x)∧(∃ a,e=.returned (.tuple #[.slice none 0 0,.iface 132 (.pointer (some a))]))∧Frm [] w w')
theorem codes_any (W:World) (b o c:Nat) (ls:List Nat) (gl:Gl W) (hr:Row W .u32 b o ls) (hls:∀ x ∈ ls,x<2 ^ 32) (h0:0<ls.length) (hn:ls.length≤65536) :
  Calls Tryd.prog 83 #[.slice (some ⟨b,o,none⟩) ls.length c] W (CodesPost ls W):=by
 have H:St W [] [] W:=St.nil W []
 obtain ⟨ae,hae⟩:=gl.badTree
 refine enter (m:=88) Tryd.func83 O Tryd.ntmps83 O (Cy (Lo O (Y.asg O) (Lo O (Y.asg O) (Lt (Cy (Lo O (AI O) (Lt (Cs (Cy (Lo O (YS O) (Lo O (Y.len sl_22 O) (Lo O (YI O) (Lt (Cb ?_))))))))))))))
 refine Cl (fun m ρ w' => ∃ i M:Nat,m=ls.length - i∧i≤ls.length∧ρ 0=.slice (some ⟨b,o,none⟩) ls.length c∧ρ 16=.slice (some ⟨b,o,none⟩) ls.length c∧ρ 17=.int .i64 (ls.length:Nat)∧ρ 18=.int .i64 (i:Nat)∧ρ 4=.int .u32 (M:Nat) ∧
  (∀ x ∈ ls.take i,x≤M)∧(M=0∨M ∈ ls)∧St W [] [] w') ls.length
  ⟨0,0,rfl,by omega,rfl,rfl,rfl,rfl,rfl,by simp,.inl rfl,H⟩ ?_
 clear H
 rintro m ρ w1 ⟨i,M,rfl,hi,h0,h16,h17,h18,h4,hM,hM2,H⟩
 refine Cy (Lo O (Y.lss h18 h17) (Lt (Cs ?_)))
 by_cases hlt:i<ls.length
 case pos =>
  have hMl:M<2 ^ 32:=by rcases hM2 with h | h;omega;exact hls _ h
  have hxl:=hls _ (List.getElem_mem hlt)
  obtain ⟨x,hx⟩:∃ x,x=ls[i]:=⟨_,rfl⟩
  have hcell:=hr i hlt
  rw [← hx] at hcell hxl
  refine CT O (by omega) (Ck (tn (Cs (Cb (Cy (Lo O (Y.ixS1 i sl_22 h16 h18 O hlt) (Lo O (Y.ld ld_36 O (H.old hcell (by simp))) (Lo O (AI O) (Lt (Cy (Lo O (YI h4) (Lo O (YI O) (Lo O (Y.lss O O) (Lt ?_))))))))))))))
  have hin:x ∈ ls:=hx ▸ List.getElem_mem hlt
  have htk:∀ y ∈ ls.take (i+1),y ∈ ls.take i∨y=x:=fun y hy => by
   rw [List.take_succ_eq_append_getElem hlt,List.mem_append,List.mem_singleton,← hx] at hy
   exact hy
  by_cases hMx:M<x
  case pos =>
   refine CT O (by omega) (Cr (Lo O (YI O) (Lo O (AI O) (Ln (blk_n (tn (Cr (Lo O (Y.add (r:=((i+1:Nat):Int)) h18 O (by rw [w64 (by omega)];omega)) (Lo O (YI O) (Lt ?_))))))))))
   exact ⟨ls.length - (i+1),by omega,i+1,x,rfl,by omega,h0,h16,h17,rfl,rfl,fun y hy => by
    rcases htk y hy with h | h
    ·have:=hM y h;omega
    ·omega,.inr hin,H⟩
  case neg =>
   refine CF O (by omega) (Ck (blk_n (tn (Cr (Lo O (Y.add (r:=((i+1:Nat):Int)) h18 O (by rw [w64 (by omega)];omega)) (Lo O (YI O) (Lt ?_)))))))
   exact ⟨ls.length - (i+1),by omega,i+1,M,rfl,by omega,h0,h16,h17,rfl,h4,fun y hy => by
    rcases htk y hy with h | h
    ·exact hM y h
    ·omega,hM2,H⟩
 case neg =>
 obtain rfl:i=ls.length:=by omega
 rw [List.take_length] at hM
 refine CF O (by omega) (Cx (thn_x (thn_x (blk_x (tn ?_)))))
 have hMl:M<2 ^ 32:=by rcases hM2 with h | h;omega;exact hls _ h
 by_cases h15:15<M
 case pos =>
  refine Cs (Cy (Lo O (YS h0) (Lo O (Y.len sl_22 O) (Lo O (Y.eqlD O O (decide_eq_false (by omega))) (Lo O (Y.movB O) (LG O O O O (YI h4) (LG O O O O (Y.gtrD O O (decide_eq_true (by omega))) (Lo O (Y.pick O O) (Lt ?_)))))))))
  refine CB O (fun _ => ?_) (fun h => nomatch h)
  refine Cs (Cd mixedP (by kernel_rfl) ?_)
  intro w hsame
  replace H:=H.same hsame
  refine So O (Y.ld ld_47 O (H.old hae (by simp))) (So O (Y.asg O) (So O (Y.asg O) (Sn (tn (Ct (thn_r ?_))))))
  exact Done.ret2 O O O (.inr ⟨⟨M,by rcases hM2 with h | h;omega;exact h,h15⟩,⟨_,rfl⟩,H.frm⟩)
 case neg =>
 have hle:∀ x ∈ ls,x≤15:=fun x hx => by have:=hM x hx;omega
 have hle2:∀ i (h:i<ls.length),ls[i]≤15:=fun i h => hle _ (List.getElem_mem h)
 refine Cs (Cy (Lo O (YS h0) (Lo O (Y.len sl_22 O) (Lo O (Y.eqlD O O (decide_eq_false (by omega))) (Lo O (Y.movB O) (LG O O O O (YI h4) (LG O O O O (Y.gtrD O O (decide_eq_false (by omega))) (Lo O (Y.pick O O) (Lt (CB O (fun h => nomatch h) (fun _ => (Ck (tn (Cy (Lo O (Y.zero ar_182.1 (by kernel_rfl) zer_182) (VL.alloc H zer_182 O ?_))))))))))))))))
 intro w b7 hn7 hb7 H
 refine VL.putW H 0 stn_182 O O O O O (by decide) ?_
 intro w H
 refine Lt ?_
 rw [rowK_zero] at H
 refine Cs (Cy (Lo O (YS h0) (Lo O (Y.len sl_22 O) (Lo O (YI O) (Lt (Cb ?_))))))
 refine Cl (fun m ρ w' => ∃ i:Nat,m=ls.length - i∧i≤ls.length∧ρ 0=.slice (some ⟨b,o,none⟩) ls.length c∧ρ 7=.pointer (some ⟨b7,0,none⟩)∧ρ 36=.slice (some ⟨b,o,none⟩) ls.length c∧ρ 37=.int .i64 (ls.length:Nat)∧ρ 38=.int .i64 (i:Nat) ∧
  St W [] [blkR b7 (rowK .u32 (fun k => (ls.take i).count k) 16) 182] w') ls.length
  ⟨0,rfl,by omega,h0,rfl,rfl,rfl,rfl,by simpa using H⟩ ?_
 clear H
 clear hM2 hMl hM h15 M h0 h16 h17 h18 h4 ρ
 rintro m ρ w2 ⟨i,rfl,hi,h0,h7,h36,h37,h38,H⟩
 refine Cy (Lo O (Y.lss h38 h37) (Lt ?_))
 by_cases hlt:i<ls.length
 case pos =>
  have hcell:=hr i hlt
  have hxl:=hle2 i hlt
  have hcs:=take_count_succ ls i hlt
  have hct:=take_count_le ls i
  have hcl:∀ k,ls.count k≤ls.length:=fun k => List.count_le_length
  obtain ⟨x,hx⟩:∃ x,x=ls[i]:=⟨_,rfl⟩
  rw [← hx] at hcell hxl hcs
  have hcx:=hct x
  have hclx:=hcl x
  refine Cs (CT O (by omega) (Ck (tn (Cs (Cb (Cy (Lo O (Y.ixS1 i sl_22 h36 h38 O hlt) (Lo O (Y.ld ld_36 O (H.old hcell (by simp))) (Lo O (AI O) (Lt (Cr (Lo O (YI O) (Lo O (Y.ixA1 x ar_182 h7 O O (by omega)) (Lo O (Y.ld ld_36 O (H.cell 0 O (by rw [Nat.zero_add];exact rowK_get (by omega)))) (Lo O (Y.add (r:=(((ls.take i).count x+1:Nat):Int)) O O (by rw [wu32 (by omega)];omega)) (Lo O (Y.ixA1 x ar_182 h7 O O (by omega)) (VL.putI H 0 st_36 O O O (by rw [Nat.zero_add];exact rowK_get (by omega)) ?_)))))))))))))))))
  intro w H
  refine Ln (blk_n (tn ?_))
  rw [Nat.zero_add,List.set_cons_zero,rowK_set (g:=fun k => (ls.take (i+1)).count k) (by simp only [hcs];simp) (fun j hj hne => by rw [hcs];simp [Ne.symm hne])] at H
  refine Cr (Lo O (Y.add (r:=((i+1:Nat):Int)) h38 O (by rw [w64 (by omega)];omega)) (Lo O (YI O) (Lt ?_)))
  exact ⟨ls.length - (i+1),by omega,i+1,rfl,by omega,h0,h7,h36,h37,rfl,H⟩
 case neg =>
 obtain rfl:i=ls.length:=by omega
 rw [List.take_length] at H
 have hsum:∀ k,k≤15→cstart ls k+ls.count k≤2147483648:=fun k hk => cstart_sum ls k hk hn
 refine Cs (CF O (by omega) (Cx (thn_x (thn_x (blk_x (tn (Cy (Lo O (Y.zero ar_182.1 (by kernel_rfl) zer_182) (VL.alloc H zer_182 O ?_)))))))))
 intro w b11 hn11 hb11 H
 refine Lo O (AI O) (VL.putW H 0 stn_182 O O O O O (by decide) ?_)
 intro w H
 refine Lt ?_
 rw [rowK_zero] at H
 refine Cs (Cy (Lo O (AI O) (Lt (Cb ?_))))
 refine Cl (fun m ρ w' => ∃ i:Nat,m=16 - i∧1≤i∧i≤16∧ρ 0=.slice (some ⟨b,o,none⟩) ls.length c∧ρ 7=.pointer (some ⟨b7,0,none⟩)∧ρ 11=.pointer (some ⟨b11,0,none⟩)∧ρ 10=.int .u32 (cstart ls (i - 1):Nat)∧ρ 12=.int .i64 (i:Nat) ∧
  St W [] [blkR b11 (rowK .u32 (fun k => if k<i then cstart ls k else 0) 16) 182,blkR b7 (rowK .u32 (fun k => ls.count k) 16) 182] w') 15
  ⟨1,rfl,by omega,by omega,h0,h7,rfl,rfl,rfl,by
   rw [rowK_congr (g:=fun _ => 0)]
   ·exact H
   ·intro j hj
    by_cases hj1:j<1
    ·obtain rfl:j=0:=by omega
     rfl
    ·rw [if_neg hj1]⟩ ?_
 clear H
 clear h0 h7 h36 h37 h38 ρ
 rintro m ρ w3 ⟨i,rfl,hi1,hi,h0,h7,h11,h10,h12,H⟩
 refine Cs (Cy (Lo O (YI h12) (Lo O (Y.lss O O) (Lt ?_))))
 by_cases hlt:i<16
 case pos =>
  have hs:=hsum (i - 1) (by omega)
  have hc1:cstart ls i=(cstart ls (i - 1)+ls.count (i - 1)) * 2:=by
   obtain ⟨k,rfl⟩:∃ k,i=k+1:=⟨i - 1,by omega⟩
   rfl
  have e1:=shl32 (a:=cstart ls (i - 1)+ls.count (i - 1)) (n:=1) (by omega) (by have:=hsum i (by omega);omega)
  rw [Nat.pow_one,← hc1] at e1
  refine CT O (by omega) (Ck (tn (Cs (Cb (Cy (Lo O (YI h10) (Lo O (YI h12) (Lo O (Y.sub (r:=((i - 1:Nat):Int)) O O (by rw [w64 (by omega)];omega)) (Lo O (Y.ixA1 (i - 1) ar_182 h7 O O (by omega)) (Lo O (Y.ld ld_36 O (H.cell 1 O (by rw [Nat.zero_add];exact rowK_get (by omega)))) (Lo O (Y.add (r:=((cstart ls (i - 1)+ls.count (i - 1):Nat):Int)) O O (by rw [wu32 (by omega)];omega)) (Lo O (Y.shl O O (by omega) e1) (Lo O (AI O) (Lt (Cr (Lo O (YI h12) (Lo O (YI O) ?_)))))))))))))))))
  refine Lo O (Y.ixA1 i ar_182 h11 O O (by omega)) (VL.putI H 0 st_36 O O O (by rw [Nat.zero_add];exact rowK_get (by omega)) ?_)
  intro w H
  refine Ln (blk_n (tn ?_))
  rw [Nat.zero_add,List.set_cons_zero,rowK_set (g:=fun k => if k<i+1 then cstart ls k else 0) (by rw [if_pos (by omega)]) (fun j hj hne => by
   by_cases h:j<i
   ·rw [if_pos h,if_pos (by omega)]
   ·rw [if_neg h,if_neg (by omega)])] at H
  refine Cr (Lo O (YI h12) (Lo O (Y.add (r:=((i+1:Nat):Int)) O O (by rw [w64 (by omega)];omega)) (Lo O (AI O) (Lt ?_))))
  exact ⟨16 - (i+1),by omega,i+1,rfl,by omega,by omega,h0,h7,h11,rfl,rfl,H⟩
 case neg =>
 obtain rfl:i=16:=by omega
 rw [rowK_congr (g:=fun k => if k=0 then 0 else cstart ls k+(ls.take 0).count k) (fun j hj => by
  rw [if_pos hj]
  by_cases h:j=0
  ·subst h;rfl
  ·rw [if_neg h];rfl)] at H
 refine CF O (by omega) (Cx (thn_x (thn_x (blk_x (tn (Cy (Lo O (YS h0) (Lo O (Y.len sl_22 O) (VL.make H mk_22 ls.length ls.length O O O O (Nat.le_refl _) (by omega) (by omega) O ?_)))))))))
 intro w b13 hn13 hb13 H
 refine Lo O (AS O) (Lt ?_)
 rw [mkCells_one,rowK_zero] at H
 refine Cs (Cy (Lo O (YS h0) (Lo O (Y.len sl_22 O) (Lo O (YI O) (Lt (Cb ?_))))))
 refine Cl (fun m ρ w' => ∃ i:Nat,m=ls.length - i∧i≤ls.length∧ρ 11=.pointer (some ⟨b11,0,none⟩)∧ρ 13=.slice (some ⟨b13,0,none⟩) ls.length ls.length∧ρ 66=.slice (some ⟨b,o,none⟩) ls.length c∧ρ 67=.int .i64 (ls.length:Nat)∧ρ 68=.int .i64 (i:Nat) ∧
  St W [] [blkR b13 (rowK .u32 (fun k => if k<i then codeAt ls k else 0) ls.length) 36,blkR b11 (rowK .u32 (fun k => if k=0 then 0 else cstart ls k+(ls.take i).count k) 16) 182,blkR b7 (rowK .u32 (fun k => ls.count k) 16) 182] w') ls.length
  ⟨0,rfl,by omega,h11,rfl,rfl,rfl,rfl,by
   rw [rowK_congr (g:=fun _ => 0)]
   ·exact H
   ·intro j hj
    rw [if_neg (by omega)]⟩ ?_
 clear H
 clear h0 h7 h11 h10 h12 ρ
 rintro m ρ w4 ⟨i,rfl,hi,h11,h13,h66,h67,h68,H⟩
 refine Cy (Lo O (Y.lss h68 h67) (Lt ?_))
 by_cases hlt:i<ls.length
 case pos =>
  have hcell:=hr i hlt
  have hxl:=hle2 i hlt
  have hcs:=take_count_succ ls i hlt
  have hgd:ls.getD i 0=ls[i]:=by simp [hlt]
  obtain ⟨x,hx⟩:∃ x,x=ls[i]:=⟨_,rfl⟩
  rw [← hx] at hcell hxl hcs hgd
  have hct:=take_count_le ls i x
  have hs:=hsum x hxl
  refine Cs (CT O (by omega) (Ck (tn (Cs (Cb (Cy (Lo O (YI h68) (Lo O (Y.ixS1 i sl_22 h66 h68 O hlt) (Lo O (Y.ld ld_36 O (H.old hcell (by simp))) (Lo O (AI O) (Lo O (AI O) (Lt (Cy (Lo O (YI O) (Lo O (Y.gtr O O) (Ln ?_))))))))))))))))
  refine tn ?_
  by_cases hx0:0<x
  case pos =>
   have hx0':x≠0:=by omega
   have hcode:codeAt ls i=cstart ls x+(ls.take i).count x:=by unfold codeAt;rw [hgd,if_neg (by omega)]
   refine CT O (by omega) (Cy (Lo O (YS h13) (Lo O (YI O) (Lo O (YI O) (Lo O (Y.ixA1 x ar_182 h11 O O (by omega)) (Lo O (Y.ld (v:=.int .u32 ((cstart ls x+(ls.take i).count x:Nat):Int)) ld_36 O (H.cell 1 O (by rw [Nat.zero_add,rowK_get (by omega),if_neg hx0']))) (Lo O (Y.ixS1 i sl_22 O O O hlt) (VL.putI H 0 st_36 O O O (by rw [Nat.zero_add];exact rowK_get (by omega)) ?_))))))))
   intro w H
   refine Lt ?_
   rw [Nat.zero_add,List.set_cons_zero,rowK_set (g:=fun k => if k<i+1 then codeAt ls k else 0) (by rw [if_pos (by omega),hcode]) (fun j hj hne => by
    by_cases h:j<i
    ·rw [if_pos h,if_pos (by omega)]
    ·rw [if_neg h,if_neg (by omega)])] at H
   refine Cr (Lo O (YI O) (Lo O (Y.ixA1 x ar_182 h11 O O (by omega)) (Lo O (Y.ld (v:=.int .u32 ((cstart ls x+(ls.take i).count x:Nat):Int)) ld_36 O (H.cell 1 O (by rw [Nat.zero_add,rowK_get (by omega),if_neg hx0']))) (Lo O (Y.add (r:=((cstart ls x+(ls.take i).count x+1:Nat):Int)) O O (by rw [wu32 (by omega)];omega)) (Lo O (Y.ixA1 x ar_182 h11 O O (by omega)) (VL.putI H 1 st_36 O O O (by rw [Nat.zero_add];exact rowK_get (by omega)) ?_))))))
   intro w H
   refine Ln (blk_n (tn ?_))
   rw [Nat.zero_add,List.set_cons_succ,List.set_cons_zero,rowK_set (g:=fun k => if k=0 then 0 else cstart ls k+(ls.take (i+1)).count k) (by rw [if_neg hx0',hcs];simp;omega) (fun j hj hne => by rw [hcs];simp [Ne.symm hne])] at H
   refine Cr (Lo O (Y.add (r:=((i+1:Nat):Int)) h68 O (by rw [w64 (by omega)];omega)) (Lo O (YI O) (Lt ?_)))
   exact ⟨ls.length - (i+1),by omega,i+1,rfl,by omega,h11,h13,h66,h67,rfl,H⟩
  case neg =>
   have hcode:codeAt ls i=0:=by unfold codeAt;rw [hgd,if_pos (by omega)]
   refine CF O (by omega) (Ck (blk_n (tn (Cr (Lo O (Y.add (r:=((i+1:Nat):Int)) h68 O (by rw [w64 (by omega)];omega)) (Lo O (YI O) (Lt ?_)))))))
   rw [rowK_congr (g:=fun k => if k<i+1 then codeAt ls k else 0) (fun j hj => by
    by_cases h:j<i
    ·rw [if_pos h,if_pos (by omega)]
    ·rw [if_neg h]
     by_cases h2:j<i+1
     ·obtain rfl:j=i:=by omega
      rw [if_pos h2,hcode]
     ·rw [if_neg h2]),
    rowK_congr (f:=fun k => if k=0 then 0 else cstart ls k+(ls.take i).count k) (g:=fun k => if k=0 then 0 else cstart ls k+(ls.take (i+1)).count k) (fun j hj => by
     rw [hcs]
     by_cases h:j=0
     ·rw [if_pos h,if_pos h]
     ·rw [if_neg h,if_neg h,if_neg (by omega)];rfl)] at H
   exact ⟨ls.length - (i+1),by omega,i+1,rfl,by omega,h11,h13,h66,h67,rfl,H⟩
 case neg =>
 obtain rfl:i=ls.length:=by omega
 refine Cs (CF O (by omega) (Cx (thn_x (thn_x (blk_x (tn (Cy (Lo O (YS h13) (Lo O (AS O) (Lo O (Y.asg O) (Lt (Ct ?_))))))))))))
 rw [rowK_congr (g:=codeAt ls) (fun j hj => by rw [if_pos hj])] at H
 exact Done.ret2 O O O (.inl ⟨hle,b13,hb13,rfl,H.blk (i:=0) rfl,H.frm⟩)
def PT.toT:PT→Option T
 | .e => none
 | .l s => some (.leaf s)
 | .n a b => match a.toT,b.toT with
  | some x,some y => some (.node x y)
  | _,_ => none
def PT.leaves:PT→Nat
 | .e => 0
 | .l _ => 1
 | .n a b => a.leaves+b.leaves
def PT.empties:PT→Nat
 | .e => 1
 | .l _ => 0
 | .n a b => a.empties+b.empties
theorem PT.count:∀ t:PT,t.leaves+t.empties=t.inner+1
 | .e => rfl
 | .l _ => rfl
 | .n a b => by have:=a.count;have:=b.count;simp only [PT.leaves,PT.empties,PT.inner];omega
theorem PT.full:∀ t:PT,t.empties=0→∃ T,t.toT=some T
 | .e,h => by simp [PT.empties] at h
 | .l s,h => ⟨_,rfl⟩
 | .n a b,h => by
  simp only [PT.empties] at h
  obtain ⟨x,hx⟩:=a.full (by omega)
  obtain ⟨y,hy⟩:=b.full (by omega)
  exact ⟨.node x y,by simp [PT.toT,hx,hy]⟩
def IsLeaf (t:PT) (p:Bits):Prop:=∃ s,t.obs p=.leaf s 0
theorem PT.ins_stays:∀ (t:PT) (p q:Bits) (s:Nat) (t':PT),t.ins q s=some t'→IsLeaf t p→IsLeaf t' p
 | .e,p,q,s,t',h,⟨s1,h1⟩ => by cases p <;> simp [PT.obs] at h1
 | .l s0,p,[],s,t',h,⟨s1,h1⟩ => by
  simp only [PT.ins,Option.some.injEq] at h
  subst h
  simp only [PT.obs,Obs.leaf.injEq] at h1
  exact ⟨s,by simp [PT.obs,h1.2]⟩
 | .l s0,p,_ :: _,s,t',h,_ => by simp [PT.ins] at h
 | .n a b,[],q,s,t',h,⟨s1,h1⟩ => by simp [PT.obs] at h1
 | .n a b,_ :: _,[],s,t',h,_ => by simp [PT.ins] at h
 | .n a b,true :: p,true :: q,s,t',h,h1 => by
  simp only [PT.ins,Option.map_eq_some_iff] at h
  obtain ⟨u,hu,rfl⟩:=h
  exact PT.ins_stays b p q s u hu h1
 | .n a b,false :: p,false :: q,s,t',h,h1 => by
  simp only [PT.ins,Option.map_eq_some_iff] at h
  obtain ⟨u,hu,rfl⟩:=h
  exact PT.ins_stays a p q s u hu h1
 | .n a b,false :: p,true :: q,s,t',h,h1 => by
  simp only [PT.ins,Option.map_eq_some_iff] at h
  obtain ⟨u,hu,rfl⟩:=h
  exact h1
 | .n a b,true :: p,false :: q,s,t',h,h1 => by
  simp only [PT.ins,Option.map_eq_some_iff] at h
  obtain ⟨u,hu,rfl⟩:=h
  exact h1
theorem PT.ins_is {t:PT} {p:Bits} {s:Nat} {t':PT} (h:t.ins p s=some t'):IsLeaf t' p:=⟨s,by
 have:=PT.ins_obs_under t p s t' h []
 simpa using this⟩
theorem PT.ins_only:∀ (t:PT) (p q:Bits) (s:Nat) (t':PT),t.ins p s=some t'→IsLeaf t' q→q=p∨IsLeaf t q
 | .e,[],q,s,t',h,⟨s1,h1⟩ => by
  simp only [PT.ins,Option.some.injEq] at h
  subst h
  simp only [PT.obs,Obs.leaf.injEq] at h1
  exact .inl (List.eq_nil_of_length_eq_zero h1.2)
 | .l _,[],q,s,t',h,⟨s1,h1⟩ => by
  simp only [PT.ins,Option.some.injEq] at h
  subst h
  simp only [PT.obs,Obs.leaf.injEq] at h1
  exact .inl (List.eq_nil_of_length_eq_zero h1.2)
 | .n _ _,[],q,s,t',h,_ => by simp [PT.ins] at h
 | .l _,_ :: _,q,s,t',h,_ => by simp [PT.ins] at h
 | .e,true :: p,q,s,t',h,⟨s1,h1⟩ => by
  simp only [PT.ins,Option.map_eq_some_iff] at h
  obtain ⟨u,hu,rfl⟩:=h
  match q,h1 with
  | [],h1 => simp [PT.obs] at h1
  | true :: q,h1 =>
   rcases PT.ins_only .e p q s u hu ⟨s1,h1⟩ with h | h
   ·exact .inl (by rw [h])
   ·obtain ⟨s2,h2⟩:=h;cases q <;> simp [PT.obs] at h2
  | false :: q,h1 => cases q <;> simp [PT.obs] at h1
 | .e,false :: p,q,s,t',h,⟨s1,h1⟩ => by
  simp only [PT.ins,Option.map_eq_some_iff] at h
  obtain ⟨u,hu,rfl⟩:=h
  match q,h1 with
  | [],h1 => simp [PT.obs] at h1
  | false :: q,h1 =>
   rcases PT.ins_only .e p q s u hu ⟨s1,h1⟩ with h | h
   ·exact .inl (by rw [h])
   ·obtain ⟨s2,h2⟩:=h;cases q <;> simp [PT.obs] at h2
  | true :: q,h1 => cases q <;> simp [PT.obs] at h1
 | .n a b,true :: p,q,s,t',h,⟨s1,h1⟩ => by
  simp only [PT.ins,Option.map_eq_some_iff] at h
  obtain ⟨u,hu,rfl⟩:=h
  match q,h1 with
  | [],h1 => simp [PT.obs] at h1
  | true :: q,h1 =>
   rcases PT.ins_only b p q s u hu ⟨s1,h1⟩ with h | h
   ·exact .inl (by rw [h])
   ·exact .inr h
  | false :: q,h1 => exact .inr ⟨s1,h1⟩
 | .n a b,false :: p,q,s,t',h,⟨s1,h1⟩ => by
  simp only [PT.ins,Option.map_eq_some_iff] at h
  obtain ⟨u,hu,rfl⟩:=h
  match q,h1 with
  | [],h1 => simp [PT.obs] at h1
  | false :: q,h1 =>
   rcases PT.ins_only a p q s u hu ⟨s1,h1⟩ with h | h
   ·exact .inl (by rw [h])
   ·exact .inr h
  | true :: q,h1 => exact .inr ⟨s1,h1⟩
theorem PT.ins_leaves:∀ (t:PT) (p:Bits) (s:Nat) (t':PT),t.ins p s=some t'→¬ IsLeaf t p→t'.leaves=t.leaves+1
 | .e,[],s,t',h,hn => by
  simp only [PT.ins,Option.some.injEq] at h
  subst h
  rfl
 | .l s0,[],s,t',h,hn => absurd ⟨s0,rfl⟩ hn
 | .n _ _,[],s,t',h,_ => by simp [PT.ins] at h
 | .l _,_ :: _,s,t',h,_ => by simp [PT.ins] at h
 | .e,true :: p,s,t',h,hn => by
  simp only [PT.ins,Option.map_eq_some_iff] at h
  obtain ⟨u,hu,rfl⟩:=h
  have:=PT.ins_leaves .e p s u hu (fun ⟨s2,h2⟩ => by cases p <;> simp [PT.obs] at h2)
  simp only [PT.leaves] at this ⊢
  omega
 | .e,false :: p,s,t',h,hn => by
  simp only [PT.ins,Option.map_eq_some_iff] at h
  obtain ⟨u,hu,rfl⟩:=h
  have:=PT.ins_leaves .e p s u hu (fun ⟨s2,h2⟩ => by cases p <;> simp [PT.obs] at h2)
  simp only [PT.leaves] at this ⊢
  omega
 | .n a b,true :: p,s,t',h,hn => by
  simp only [PT.ins,Option.map_eq_some_iff] at h
  obtain ⟨u,hu,rfl⟩:=h
  have:=PT.ins_leaves b p s u hu hn
  simp only [PT.leaves] at this ⊢
  omega
 | .n a b,false :: p,s,t',h,hn => by
  simp only [PT.ins,Option.map_eq_some_iff] at h
  obtain ⟨u,hu,rfl⟩:=h
  have:=PT.ins_leaves a p s u hu hn
  simp only [PT.leaves] at this ⊢
  omega
theorem PT.covered:∀ (m:Nat) (t:PT),(∀ q:Bits,q.length=m→IsLeaf t q)→t.empties=0
 | 0,t,h => by
  obtain ⟨s,hs⟩:=h [] rfl
  cases t <;> simp [PT.obs] at hs
  rfl
 | m+1,.e,h => by
  obtain ⟨s,hs⟩:=h (List.replicate (m+1) true) (by simp)
  simp [PT.obs] at hs
 | m+1,.l s0,h => rfl
 | m+1,.n a b,h => by
  have h1:=PT.covered m a (fun q hq => h (false :: q) (by simp [hq]))
  have h2:=PT.covered m b (fun q hq => h (true :: q) (by simp [hq]))
  simp [PT.empties,h1,h2]
def insOne (cap:Nat) (t:PT) (p:Bits) (s:Nat):Option PT :=
 match t.ins p s with
 | some t' => if 2 * t'.inner+1≤cap then some t' else none
 | none => none
def insAll (cap:Nat):PT→List (Bits × Nat)→Option PT
 | t,[] => some t
 | t,(p,s) :: r => match insOne cap t p s with
  | some t' => insAll cap t' r
  | none => none
theorem insOne_some {cap:Nat} {t t':PT} {p:Bits} {s:Nat} (h:insOne cap t p s=some t'):t.ins p s=some t'∧2 * t'.inner+1≤cap:=by
 unfold insOne at h
 split at h
 ·rename_i u hu
  split at h
  ·rename_i hc
   simp only [Option.some.injEq] at h
   subst h
   exact ⟨hu,hc⟩
  ·cases h
 ·cases h
theorem insAll_stays {cap:Nat}:∀ (ps:List (Bits × Nat)) (t t':PT) (p:Bits),insAll cap t ps=some t'→IsLeaf t p→IsLeaf t' p
 | [],t,t',p,h,hl => by simp only [insAll,Option.some.injEq] at h;exact h ▸ hl
 | (q,s) :: r,t,t',p,h,hl => by
  simp only [insAll] at h
  split at h
  ·rename_i u hu
   exact insAll_stays r u t' p h (PT.ins_stays t p q s u (insOne_some hu).1 hl)
  ·cases h
theorem insAll_has {cap:Nat}:∀ (ps:List (Bits × Nat)) (t t':PT),insAll cap t ps=some t'→∀ p ∈ ps.map (·.1),IsLeaf t' p
 | [],t,t',h,p,hp => by simp at hp
 | (q,s) :: r,t,t',h,p,hp => by
  simp only [insAll] at h
  split at h
  ·rename_i u hu
   rw [List.map_cons,List.mem_cons] at hp
   rcases hp with rfl | hp
   ·exact insAll_stays r u t' _ h (PT.ins_is (insOne_some hu).1)
   ·exact insAll_has r u t' h p hp
  ·cases h
theorem insAll_cap {cap:Nat}:∀ (ps:List (Bits × Nat)) (t t':PT),insAll cap t ps=some t'→ps≠[]→2 * t'.inner+1≤cap
 | [],t,t',h,hne => absurd rfl hne
 | (q,s) :: r,t,t',h,_ => by
  simp only [insAll] at h
  split at h
  ·rename_i u hu
   cases r with
   | nil => simp only [insAll,Option.some.injEq] at h;exact h ▸ (insOne_some hu).2
   | cons x r => exact insAll_cap (x :: r) u t' h (by simp)
  ·cases h
theorem insAll_leaves {cap:Nat}:∀ (ps:List (Bits × Nat)) (t t':PT),insAll cap t ps=some t'→(ps.map (·.1)).Nodup→(∀ p ∈ ps.map (·.1),¬ IsLeaf t p)→t'.leaves=t.leaves+ps.length
 | [],t,t',h,_,_ => by simp only [insAll,Option.some.injEq] at h;simp [h]
 | (q,s) :: r,t,t',h,hn,hl => by
  simp only [insAll] at h
  split at h
  ·rename_i u hu
   rw [List.map_cons,List.nodup_cons] at hn
   have h1:=PT.ins_leaves t q s u (insOne_some hu).1 (hl q (by simp))
   have h2:=insAll_leaves r u t' h hn.2 (fun p hp hp2 => by
    rcases PT.ins_only t q p s u (insOne_some hu).1 hp2 with rfl | h3
    ·exact hn.1 hp
    ·exact hl p (List.mem_cons_of_mem _ hp) h3)
   simp only [List.length_cons]
   omega
  ·cases h
def symOf (ls:List Nat) (i:Nat):Option (Bits × Nat):=if ls.getD i 0=0 then none else some (codePath (codeAt ls i) (ls.getD i 0),i)
def codeList (ls:List Nat):List (Bits × Nat):=(List.range ls.length).filterMap (symOf ls)
def codesFrom (ls:List Nat) (i:Nat):List (Bits × Nat):=(List.range' i (ls.length - i)).filterMap (symOf ls)
theorem codesFrom_zero (ls:List Nat):codesFrom ls 0=codeList ls:=by simp [codesFrom,codeList,List.range_eq_range']
theorem codesFrom_end (ls:List Nat):codesFrom ls ls.length=[]:=by simp [codesFrom]
theorem codesFrom_succ {ls:List Nat} {i:Nat} (h:i<ls.length):codesFrom ls i=if ls.getD i 0=0 then codesFrom ls (i+1) else (codePath (codeAt ls i) (ls.getD i 0),i) :: codesFrom ls (i+1):=by
 unfold codesFrom
 rw [show ls.length - i=(ls.length - (i+1))+1 by omega,List.range'_succ,List.filterMap_cons]
 unfold symOf
 by_cases h0:ls.getD i 0=0
 ·rw [if_pos h0,if_pos h0]
 ·rw [if_neg h0,if_neg h0]
theorem codeList_length_from (ls:List Nat):∀ k i,k=ls.length - i→(codesFrom ls i).length=(ls.drop i).countP (·≠0)
 | 0,i,h => by rw [List.drop_eq_nil_of_le (by omega)];simp [codesFrom,← h]
 | k+1,i,h => by
  have hi:i<ls.length:=by omega
  rw [codesFrom_succ hi,List.drop_eq_getElem_cons hi,List.countP_cons]
  have ih:=codeList_length_from ls k (i+1) (by omega)
  have hg:ls.getD i 0=ls[i]:=by simp [hi]
  rw [hg]
  by_cases h0:ls[i]=0
  ·simp [h0,ih]
  ·simp [h0,ih]
theorem codeList_length (ls:List Nat):(codeList ls).length=ls.countP (·≠0):=by
 rw [← codesFrom_zero,codeList_length_from ls _ 0 rfl,List.drop_zero]
theorem codePath_eq_mod:∀ (l a b:Nat),codePath a l=codePath b l→a % 2 ^ l=b % 2 ^ l
 | 0,a,b,h => by simp [Nat.mod_one]
 | l+1,a,b,h => by
  simp only [codePath,List.cons.injEq] at h
  have ih:=codePath_eq_mod l a b h.2
  apply Nat.eq_of_testBit_eq
  intro j
  have hj:=congrArg (fun x => x.testBit j) ih
  simp only [Nat.testBit_mod_two_pow] at hj ⊢
  by_cases hjl:j<l
  ·rw [decide_eq_true hjl,Bool.true_and,Bool.true_and] at hj
   rw [decide_eq_true (by omega),Bool.true_and,Bool.true_and,hj]
  ·by_cases hj2:j=l
   ·subst hj2;rw [h.1]
   ·rw [decide_eq_false (by omega)];simp
theorem codePath_congr {l a b:Nat} (h:a % 2 ^ l=b % 2 ^ l):codePath a l=codePath b l:=by
 rw [← codePath_mod a l l (Nat.le_refl _),h,codePath_mod b l l (Nat.le_refl _)]
theorem codePath_onto:∀ q:Bits,∃ x,x<2 ^ q.length∧codePath x q.length=q
 | [] => ⟨0,by simp,rfl⟩
 | c :: q => by
  obtain ⟨x,hx,hp⟩:=codePath_onto q
  have hc:=Bool.toNat_le c
  refine ⟨c.toNat * 2 ^ q.length+x,?_,?_⟩
  ·rw [List.length_cons,Nat.pow_succ]
   have:c.toNat * 2 ^ q.length≤1 * 2 ^ q.length:=Nat.mul_le_mul_right _ hc
   omega
  ·simp only [List.length_cons,codePath]
   have h1:codePath (c.toNat * 2 ^ q.length+x) q.length=codePath x q.length:=codePath_congr (by rw [Nat.add_comm,Nat.add_mul_mod_self_right])
   rw [h1,hp,Nat.mul_comm,Nat.testBit_two_pow_mul_add _ hx,if_neg (by omega),Nat.sub_self]
   cases c <;> rfl
theorem count_pick:∀ (ls:List Nat) (l c:Nat),c<ls.count l→∃ k,k<ls.length∧ls.getD k 0=l∧(ls.take k).count l=c
 | [],l,c,h => by simp at h
 | a :: ls,l,c,h => by
  by_cases ha:a=l
  ·subst ha
   cases c with
   | zero => exact ⟨0,by simp,by simp,by simp⟩
   | succ c =>
    rw [List.count_cons_self] at h
    obtain ⟨k,h1,h2,h3⟩:=count_pick ls a c (by omega)
    exact ⟨k+1,by simp;omega,by simpa using h2,by simp [h3]⟩
  ·rw [List.count_cons_of_ne ha] at h
   obtain ⟨k,h1,h2,h3⟩:=count_pick ls l c h
   exact ⟨k+1,by simp;omega,by simpa using h2,by simp [List.count_cons_of_ne ha,h3]⟩
theorem mem_codeList {ls:List Nat} {k:Nat} (hk:k<ls.length) (h0:ls.getD k 0≠0):codePath (codeAt ls k) (ls.getD k 0) ∈ (codeList ls).map (·.1):=by
 refine List.mem_map.2 ⟨(codePath (codeAt ls k) (ls.getD k 0),k),List.mem_filterMap.2 ⟨k,List.mem_range.2 hk,by unfold symOf;rw [if_neg h0]⟩,rfl⟩
theorem codeList_nodup (ls:List Nat):((codeList ls).map (·.1)).Nodup∨∃ l,∀ q:Bits,q.length=l→q ∈ (codeList ls).map (·.1):=by
 by_cases hd:((codeList ls).map (·.1)).Nodup
 ·exact .inl hd
 ·refine .inr ?_
  have h:∃ i j,i<j∧j<ls.length∧ls.getD i 0≠0∧ls.getD j 0≠0∧codePath (codeAt ls i) (ls.getD i 0)=codePath (codeAt ls j) (ls.getD j 0):=by
   refine Classical.byContradiction fun hno => hd ?_
   unfold codeList List.Nodup
   rw [List.pairwise_map,List.pairwise_filterMap]
   refine (List.pairwise_lt_range (n:=ls.length)).imp_of_mem ?_
   intro i j hi hj hij x hx y hy hxy
   rw [List.mem_range] at hi hj
   unfold symOf at hx hy
   split at hx
   ·cases hx
   ·split at hy
    ·cases hy
    ·rename_i h1 h2
     simp only [Option.some.injEq] at hx hy
     subst hx hy
     exact hno ⟨i,j,hij,hj,h1,h2,hxy⟩
  obtain ⟨i,j,hij,hj,hi0,hj0,hp⟩:=h
  have hl:ls.getD i 0=ls.getD j 0:=by have:=congrArg List.length hp;simpa [codePath_length] using this
  obtain ⟨l,hle⟩:∃ l,l=ls.getD i 0:=⟨_,rfl⟩
  rw [← hl,← hle] at hp
  have hm:=codePath_eq_mod l _ _ hp
  have hci:codeAt ls i=cstart ls l+(ls.take i).count l:=by unfold codeAt;rw [if_neg hi0,← hle]
  have hcj:codeAt ls j=cstart ls l+(ls.take j).count l:=by unfold codeAt;rw [if_neg hj0,← hl,← hle]
  have h1:(ls.take (i+1)).count l≤(ls.take j).count l:=(List.take_sublist_take_left (by omega)).count_le l
  have hgi:ls[i]'(by omega)=l:=by rw [hle];simp [show i<ls.length by omega]
  rw [take_count_succ ls i (by omega) l,hgi,if_pos rfl] at h1
  have h2:=take_count_le ls j l
  rw [hci,hcj] at hm
  have h3:2 ^ l≤(ls.take j).count l - (ls.take i).count l:=by
   refine Nat.le_of_dvd (by omega) ?_
   rw [show (ls.take j).count l - (ls.take i).count l=(cstart ls l+(ls.take j).count l) - (cstart ls l+(ls.take i).count l) by omega]
   exact Nat.dvd_of_mod_eq_zero (Nat.sub_mod_eq_zero_of_mod_eq hm.symm)
  refine ⟨l,fun q hq => ?_⟩
  obtain ⟨x,hx,hxp⟩:=codePath_onto q
  rw [hq] at hx hxp
  have h2l:=Nat.two_pow_pos l
  obtain ⟨c,hc,hcx⟩:∃ c,c<2 ^ l∧(cstart ls l+c) % 2 ^ l=x:=by
   refine ⟨(x+(2 ^ l - cstart ls l % 2 ^ l)) % 2 ^ l,Nat.mod_lt _ h2l,?_⟩
   have hlt:=Nat.mod_lt (cstart ls l) h2l
   rw [Nat.add_mod_mod,← Nat.mod_add_mod,show cstart ls l % 2 ^ l+(x+(2 ^ l - cstart ls l % 2 ^ l))=x+2 ^ l by omega,Nat.add_mod_right,Nat.mod_eq_of_lt hx]
  obtain ⟨k,hk,hkl,hkc⟩:=count_pick ls l c (by omega)
  have hk0:ls.getD k 0≠0:=by rw [hkl,hle];exact hi0
  have:=mem_codeList hk hk0
  rw [hkl] at this
  have hck:codeAt ls k=cstart ls l+c:=by unfold codeAt;rw [if_neg hk0,hkl,hkc]
  rw [hck] at this
  rw [← hxp]
  rw [show codePath x l=codePath (cstart ls l+c) l from codePath_congr (by rw [hcx,Nat.mod_eq_of_lt hx])]
  exact this
theorem insAll_full {ls:List Nat} {t:PT} (hK:0<ls.countP (·≠0)) (h:insAll (2 * ls.countP (·≠0) - 1) .e (codeList ls)=some t):∃ T,t.toT=some T:=by
 refine t.full ?_
 have hlen:=codeList_length ls
 have hne:codeList ls≠[]:=fun e => by rw [e,List.length_nil] at hlen;omega
 have hcap:=insAll_cap _ _ _ h hne
 have hcnt:=t.count
 rcases codeList_nodup ls with hn | ⟨l,hl⟩
 ·have h1:=insAll_leaves _ _ _ h hn (fun p _ ⟨s,hs⟩ => by cases p <;> simp [PT.obs] at hs)
  simp only [PT.leaves] at h1
  omega
 ·exact PT.covered l t fun q hq => insAll_has _ _ _ h q (hl q hq)
def lastSym (ls:List Nat):Nat:=(List.range ls.length).foldl (fun a i => if ls.getD i 0=0 then a else i) 0
def buildT (ls:List Nat):Option T :=
 if ls.countP (·≠0)=0 then none
 else if ls.countP (·≠0)=1 then some (.leaf (lastSym ls))
 else if ls.any (15<·) then none
 else (insAll (2 * ls.countP (·≠0) - 1) .e (codeList ls)).bind PT.toT
theorem RepP.toT {ns:List (Nat × Int)}:∀ {t:PT} {i:Nat} {A:List Nat} {u:T},RepP ns i t A→t.toT=some u→RepT ns i u
 | .e,i,A,u,_,h => by cases h
 | .l s,i,A,u,⟨_,h1⟩,h => by
  simp only [PT.toT,Option.some.injEq] at h
  subst h
  exact h1
 | .n a b,i,A,u,⟨s,c,B,C,hn,hc,ha,hb,hA⟩,h => by
  simp only [PT.toT] at h
  split at h
  ·rename_i x y hx hy
   simp only [Option.some.injEq] at h
   subst h
   exact ⟨s,c,hn,hc,ha.toT hx,hb.toT hy⟩
  ·cases h
theorem PT.obs_adv:∀ {t:PT} {u:T} (q:Bits),t.toT=some u→(∀ s r,u.adv q=(.leaf s,r)→t.obs q=.leaf s r.length)∧(∀ x y r,u.adv q=(.node x y,r)→t.obs q=.inner)
 | .e,u,q,h => by cases h
 | .l s,u,q,h => by
  simp only [PT.toT,Option.some.injEq] at h
  subst h
  exact ⟨fun s' r h => by simp only [T.adv,Prod.mk.injEq,T.leaf.injEq] at h;obtain ⟨rfl,rfl⟩:=h;rfl,fun x y r h => by simp [T.adv] at h⟩
 | .n a b,u,q,h => by
  simp only [PT.toT] at h
  split at h
  ·rename_i x y hx hy
   simp only [Option.some.injEq] at h
   subst h
   match q with
   | [] => exact ⟨fun s r h => by simp [T.adv] at h,fun _ _ _ _ => rfl⟩
   | true :: q => exact PT.obs_adv q hy
   | false :: q => exact PT.obs_adv q hx
  ·cases h
theorem RepP.adv_node {ns:List (Nat × Int)}:∀ {t:PT} {i:Nat} {A:List Nat} {u:T} (q:Bits) {x y:T} {r:Bits},RepP ns i t A→t.toT=some u→u.adv q=(.node x y,r)→RepT ns (idxP ns i q) (.node x y)
 | .e,i,A,u,q,x,y,r,_,h,_ => by cases h
 | .l s,i,A,u,q,x,y,r,_,h,ha => by
  simp only [PT.toT,Option.some.injEq] at h
  subst h
  simp [T.adv] at ha
 | .n a b,i,A,u,q,x,y,r,hr,h,hadv => by
  have hrep:=hr.toT h
  obtain ⟨s,c,B,C,hn,hc,ha,hb,hA⟩:=hr
  simp only [PT.toT] at h
  split at h
  ·rename_i x' y' hx hy
   simp only [Option.some.injEq] at h
   subst h
   match q with
   | [] =>
    simp only [T.adv,Prod.mk.injEq] at hadv
    obtain ⟨h1,_⟩:=hadv
    rw [← h1]
    exact hrep
   | true :: q =>
    have:idxP ns i (true :: q)=idxP ns (c+1) q:=by simp [idxP,hn]
    rw [this]
    exact hb.adv_node q hy hadv
   | false :: q =>
    have:idxP ns i (false :: q)=idxP ns c q:=by simp [idxP,hn]
    rw [this]
    exact ha.adv_node q hx hadv
  ·cases h
theorem LutP.toT {ns:List (Nat × Int)} {t:PT} {u:T} {lut:Nat→Nat} {A:List Nat} (h:LutP ns t lut) (hr:RepP ns 0 t A) (hu:t.toT=some u):LutT ns u lut:=by
 intro x hx
 have hl:=h x hx
 obtain ⟨h1,h2⟩:=PT.obs_adv (bitsN x 7) hu
 cases ha:u.adv (bitsN x 7) with
 | mk v r =>
 cases v with
 | leaf s => rw [h1 s r ha] at hl;exact hl
 | node a b => rw [h2 a b r ha] at hl;exact ⟨_,hl,hr.adv_node _ hu ha⟩
structure TreeC (B:Nat) (w:World) (cs:List Value) (off:Nat) (u:T):Prop where
 ex:∃ bn cap ns lut len,B≤bn∧Blk w bn (nodeCells ns) 157∧HC cs off bn len cap lut∧len≤ns.length∧len≤65536∧RepT (ns.take len) 0 u∧LutT (ns.take len) u lut
theorem TreeC.keep {B:Nat} {w w':World} {S:List Nat} {cs:List Value} {off:Nat} {u:T} (h:TreeC B w cs off u) (hf:Frm S w w') (hS:∀ s ∈ S,s<B):TreeC B w' cs off u:=by
 obtain ⟨bn,cap,ns,lut,len,h1,h2,h3⟩:=h.ex
 exact ⟨bn,cap,ns,lut,len,h1,hf.blk h2 (fun hm => by have:=hS _ hm;omega),h3⟩
theorem TreeC.low {B B':Nat} {w:World} {cs:List Value} {off:Nat} {u:T} (h:TreeC B w cs off u) (hB:B'≤B):TreeC B' w cs off u:=by
 obtain ⟨bn,cap,ns,lut,len,h1,h2,h3⟩:=h.ex
 exact ⟨bn,cap,ns,lut,len,by omega,h2,h3⟩
theorem TreeC.same {B:Nat} {w:World} {cs cs':List Value} {off off':Nat} {u:T} (h:TreeC B w cs off u) (hs:SameOut cs cs' off') (ho:off+129≤off'∨off'+129≤off):TreeC B w cs' off u:=by
 obtain ⟨bn,cap,ns,lut,len,h1,h2,h3,h4⟩:=h.ex
 exact ⟨bn,cap,ns,lut,len,h1,h2,⟨by rw [hs.2 off (by omega)];exact h3.nodes,fun x hx => by rw [hs.2 _ (by omega)];exact h3.look x hx⟩,h4⟩
theorem TreeC.ht {B:Nat} {w:World} {cs:List Value} {off:Nat} {u:T} {bg:Nat} {tG:TypeId} {S:List Nat} (h:TreeC B w cs off u) (hb:Blk w bg cs tG) (hg:bg ∉ S) (hS:∀ s ∈ S,s<B):HTree S w bg off u:=by
 obtain ⟨bn,cap,ns,lut,len,h1,h2,h3,h4,h5,h6,h7⟩:=h.ex
 have hlen:(ns.take len).length=len:=by rw [List.length_take];omega
 have hget:∀ (i:Nat) (n:Nat × Int),(ns.take len)[i]?=some n→ns[i]?=some n:=fun i n hn => by
  rw [List.getElem?_take] at hn
  split at hn
  ·exact hn
  ·cases hn
 refine ⟨bn,cap,ns.take len,lut,?_,fun i n hn => ?_,fun i n hn => ?_,fun x hx => hb.cellv (h3.look x hx),h6,h7,by omega,hg,fun hm => by have:=hS _ hm;omega⟩
 ·rw [hlen];exact hb.cellv h3.nodes
 ·rw [Nat.zero_add];exact h2.cellv (nodeCells_sym ns i n (hget i n hn))
 ·rw [Nat.zero_add];exact h2.cellv (nodeCells_chi ns i n (hget i n hn))
theorem Bld.tree {B:Nat} {w:World} {cs:List Value} {off bn len cap:Nat} {ns:List (Nat × Int)} {lut lut2:Nat→Nat} {t:PT} {u:T} (hB:B≤bn) (hn:Blk w bn (nodeCells ns) 157) (hc:HC cs off bn len cap lut2) (hl:∀ x,x<128→lut2 x=lut x) (hb:Bld ns len t lut) (h6:len≤65536) (hu:t.toT=some u):TreeC B w cs off u:=by
 obtain ⟨A,hr,hnd,hlt,hcount⟩:=hb.rep
 have hr2:RepP (ns.take len) 0 t A:=hr.congr fun k hk => by rw [List.getElem?_take,if_pos (hlt k hk)]
 have hlut:LutP (ns.take len) t lut:=fun x hx => by
  have h:=hb.lutP x hx
  cases ho:t.obs (bitsN x 7) with
  | leaf s k => rw [ho] at h;exact h
  | empty => rw [ho] at h;exact h
  | inner =>
   rw [ho] at h
   have:=hr2.idx_same (ns':=ns) (bitsN x 7) ho (fun k m hk _ => ⟨m.1,by
    rw [List.getElem?_take] at hk
    split at hk
    ·exact hk
    ·cases hk⟩)
   show lut x=_
   rw [← this]
   exact h
 refine ⟨bn,cap,ns,lut2,len,hB,hn,hc,hb.len_le,h6,hr2.toT hu,fun x hx => ?_⟩
 rw [hl x hx]
 exact hlut.toT hr2 hu x hx
theorem mkNodes (n:Nat):mkCells n [.int .u32 0,.int .i32 0]=nodeCells (List.replicate n (0,0)):=by
 induction n with
 | zero => rfl
 | succ n ih => simp only [mkCells,List.replicate_succ,List.flatten_cons,nodeCells_cons] at ih ⊢;rw [ih];rfl
theorem Bld.start {n:Nat} (hn:0<n):Bld (List.replicate n (0,0)) 1 .e (fun _ => 0) :=
 ⟨⟨[0],⟨rfl,0,by simp [hn]⟩,by simp,by simp,rfl⟩,fun k _ hk => by simp at hk;simp [hk],by simp;omega,fun x _ => by
  show LutPAt _ _ _ .empty
  rfl⟩
theorem lastSym_lt {ls:List Nat} (h:0<ls.length):lastSym ls<ls.length:=by
 have key:∀ n,n≤ls.length→(List.range n).foldl (fun a i => if ls.getD i 0=0 then a else i) 0<ls.length:=by
  intro n
  induction n with
  | zero => intro _;exact h
  | succ n ih =>
   intro hn
   rw [List.range_succ,List.foldl_append,List.foldl_cons,List.foldl_nil]
   split
   ·exact ih (by omega)
   ·omega
 exact key _ (Nat.le_refl _)
def BuildPost (bg off:Nat) (cs:List Value) (tG:TypeId) (r:Option T) (w:World) (e:Ending) (w':World):Prop :=
 (∃ u cs',r=some u∧e=.returned .nilIface∧Blk w' bg cs' tG∧SameOut cs cs' off∧TreeC w.heap.size w' cs' off u∧Frm [bg] w w') ∨
 (r=none∧(∃ a,e=.returned (.iface 132 (.pointer (some a))))∧Frm [bg] w w')
structure Raw (cs:List Value) (off:Nat):Prop where
 nodes:∃ v,cs[off]?=some v
 look:∀ x,x<128→cs[off+1+x]?=some (.int .u32 0)
theorem Raw.hc {cs:List Value} {off:Nat} (h:Raw cs off) (bn len cap:Nat):HC (cs.set off (.slice (some ⟨bn,0,none⟩) len cap)) off bn len cap (fun _ => 0):=by
 obtain ⟨v,hv⟩:=h.nodes
 have hl:off<cs.length:=(List.getElem?_eq_some_iff.1 hv).1
 exact ⟨by simp [hl],fun x hx => by rw [List.getElem?_set_ne (by omega)];exact h.look x hx⟩
theorem Raw.same {cs cs':List Value} {off off':Nat} (h:Raw cs off) (hs:SameOut cs cs' off') (ho:off+129≤off'∨off'+129≤off):Raw cs' off :=
 ⟨by rw [hs.2 off (by omega)];exact h.nodes,fun x hx => by rw [hs.2 _ (by omega)];exact h.look x hx⟩
theorem build_any (W:World) (bg off:Nat) (cs:List Value) (tG:TypeId) (b o c:Nat) (ls:List Nat) (gl:Gl W) (hbg:Blk W bg cs tG) (hraw:Raw cs off) (hr:Row W .u32 b o ls) (hbb:b≠bg) (hg1:nG≤bg)
  (hls:∀ x ∈ ls,x<2 ^ 32) (hn:ls.length≤30000) :
  Calls Tryd.prog 80 #[.pointer (some ⟨bg,off,none⟩),.slice (some ⟨b,o,none⟩) ls.length c] W (BuildPost bg off cs tG (buildT ls) W):=by
 have H:St W [bg] [blkR bg cs tG] W:=St.ofBlk hbg
 have hS:HighS [bg]:=fun x hx => by simp at hx;subst hx;exact hg1
 obtain ⟨ae,hae⟩:=gl.badTree
 obtain ⟨vold,hold⟩:=hraw.nodes
 have hbS:b ∉ [bg]:=by simpa using hbb
 refine enter (m:=79) Tryd.func80 O Tryd.ntmps80 O (Cy (Lo O (Y.asg O) (Lt (Cy (Lo O (AI O) (Lo O (AI O) (Lt (Cs (Cy (Lo O (YS O) (Lo O (Y.len sl_22 O) (Lo O (YI O) (Lt (Cb ?_))))))))))))))
 refine Cl (fun m ρ w' => ∃ i:Nat,m=ls.length - i∧i≤ls.length∧ρ 0=.pointer (some ⟨bg,off,none⟩)∧ρ 1=.slice (some ⟨b,o,none⟩) ls.length c∧ρ 14=.slice (some ⟨b,o,none⟩) ls.length c∧ρ 15=.int .i64 (ls.length:Nat)∧ρ 16=.int .i64 (i:Nat) ∧
  ρ 5=.int .u32 ((ls.take i).countP (·≠0):Nat)∧ρ 6=.int .u32 ((List.range i).foldl (fun a i => if ls.getD i 0=0 then a else i) 0:Nat)∧St W [bg] [blkR bg cs tG] w') ls.length
  ⟨0,rfl,by omega,rfl,rfl,rfl,rfl,rfl,rfl,rfl,H⟩ ?_
 clear H
 rintro m ρ w1 ⟨i,rfl,hi,h0,h1,h14,h15,h16,h5,h6,H⟩
 refine Cy (Lo O (Y.lss h16 h15) (Lt ?_))
 by_cases hlt:i<ls.length
 case pos =>
  have hcell:=hr i hlt
  have hgd:ls.getD i 0=ls[i]:=by simp [hlt]
  have hxl:=hls _ (List.getElem_mem hlt)
  have hcp:(ls.take (i+1)).countP (·≠0)=(ls.take i).countP (·≠0)+if ls[i]=0 then 0 else 1:=by
   rw [List.take_succ_eq_append_getElem hlt,List.countP_append]
   by_cases h:ls[i]=0 <;> simp [h]
  have hcl:(ls.take i).countP (·≠0)≤ls.length:=Nat.le_trans List.countP_le_length (by simp;omega)
  have hfo:(List.range (i+1)).foldl (fun a i => if ls.getD i 0=0 then a else i) 0=if ls[i]=0 then (List.range i).foldl (fun a i => if ls.getD i 0=0 then a else i) 0 else i:=by
   rw [List.range_succ,List.foldl_append,List.foldl_cons,List.foldl_nil,hgd]
  obtain ⟨x,hx⟩:∃ x,x=ls[i]:=⟨_,rfl⟩
  rw [← hx] at hcell hcp hfo hxl
  generalize (ls.take i).countP (·≠0)=K at *
  generalize (List.range i).foldl (fun a i => if ls.getD i 0=0 then a else i) 0=L at *
  refine Cs (CT O (by omega) (Ck (tn (Cs (Cb (Cy (Lo O (YI h16) (Lo O (Y.ixS1 i sl_22 h14 h16 O hlt) (Lo O (Y.ld ld_36 O (H.old hcell hbS)) (Lo O (AI O) (Lo O (AI O) (Lt (Cy (Lo O (YI O) (Lo O (Y.neq O O) (Ln ?_))))))))))))))))
  refine tn ?_
  by_cases hx0:x=0
  case neg =>
   rw [if_neg hx0] at hcp hfo
   refine CT O (by omega) (Cy (Lo O (YI h5) (Lo O (Y.add (r:=((K+1:Nat):Int)) O O (by rw [wu32 (by omega)];omega)) (Lo O (AI O) (Lt (Cr (Lo O (YI O) (Lo O (Y.cv int_3_36 O (wu32 (by omega))) (Lo O (AI O) (Ln (blk_n (tn (Cr (Lo O (Y.add (r:=((i+1:Nat):Int)) h16 O (by rw [w64 (by omega)];omega)) (Lo O (YI O) (Lt ?_))))))))))))))))
   exact ⟨ls.length - (i+1),by omega,i+1,rfl,by omega,h0,h1,h14,h15,rfl,by rw [hcp];rfl,by rw [hfo];rfl,H⟩
  case pos =>
   rw [if_pos hx0] at hcp hfo
   refine CF O (by omega) (Ck (blk_n (tn (Cr (Lo O (Y.add (r:=((i+1:Nat):Int)) h16 O (by rw [w64 (by omega)];omega)) (Lo O (YI O) (Lt ?_)))))))
   exact ⟨ls.length - (i+1),by omega,i+1,rfl,by omega,h0,h1,h14,h15,rfl,by rw [hcp];exact h5,by rw [hfo];exact h6,H⟩
 case neg =>
 obtain rfl:i=ls.length:=by omega
 rw [List.take_length] at h5
 have hcl:ls.countP (·≠0)≤ls.length:=List.countP_le_length
 have hlast:(List.range ls.length).foldl (fun a i => if ls.getD i 0=0 then a else i) 0=lastSym ls:=rfl
 rw [hlast] at h6
 have hK:buildT ls=if ls.countP (·≠0)=0 then none else if ls.countP (·≠0)=1 then some (.leaf (lastSym ls)) else if ls.any (15<·) then none else (insAll (2 * ls.countP (·≠0) - 1) .e (codeList ls)).bind PT.toT:=rfl
 have hfull:=@insAll_full ls
 generalize ls.countP (·≠0)=K at *
 refine Cs (CF O (by omega) (Cx (thn_x (thn_x (blk_x (tn (Cs (Cy (Lo O (YI h5) (Lo O (Y.eql O O) (Lt ?_)))))))))))
 by_cases hK0:K=0
 case pos =>
  refine CT O (by omega) (Cy (Lo O (Y.ld ld_47 O (H.old hae (hS.g _ O))) (Lo O (Y.asg O) (Lt (Ct (thn_r ?_))))))
  rw [if_pos hK0] at hK
  exact Done.ret1 O O (.inr ⟨hK,⟨_,rfl⟩,H.frm⟩)
 case neg =>
 rw [if_neg hK0] at hK
 refine CF O (by omega) (Ck (tn (Cy (Lo O (YP h0) (Lo O (YI h5) (Lo O (Y.mul (r:=((2 * K:Nat):Int)) O O (by rw [wu32 (by omega)];omega)) (Lo O (Y.sub (r:=((2 * K - 1:Nat):Int)) O O (by rw [wu32 (by omega)];omega)) (VL.make H mk_139 1 (2 * K - 1) O O O O (by omega) (by omega) (by omega) O ?_))))))))
 intro w bn hn1 hn2 H
 refine Lo O (Y.nilP O) (Lo O (Y.fa fa_142_0 O) (VL.putS H 1 st_139 O O O hold ?_))
 intro w H
 refine Lt ?_
 rw [mkNodes] at H
 have hgn:nG≤bn:=Nat.le_trans gl.high hn2
 have hne:bg≠bn:=by have:=hbg.lt;omega
 have hc1:=hraw.hc bn 1 (2 * K - 1)
 have hs1:SameOut cs (cs.set off (.slice (some ⟨bn,0,none⟩) 1 (2 * K - 1))) off:=SameOut.set cs off off _ (Nat.le_refl _) (by omega)
 have hbld:=Bld.start (n:=2 * K - 1) (by omega)
 replace H:St W [bg] [blkR bn (nodeCells (List.replicate (2 * K - 1) (0,0))) 157,blkR bg (cs.set off (.slice (some ⟨bn,0,none⟩) 1 (2 * K - 1))) tG] w:=H
 generalize cs.set off (.slice (some ⟨bn,0,none⟩) 1 (2 * K - 1))=cs1 at *
 have hbgB:∀ s ∈ [bg,bn],s ∈ [bg]∨W.heap.size≤s:=by simp [hn2]
 refine Cs (Cy (Lo O (YI h5) (Lo O (Y.eql O O) (Lt ?_))))
 by_cases hK1:K=1
 case pos =>
  subst hK1
  rw [if_pos rfl] at hK
  have hll:=lastSym_lt (ls:=ls) (by omega)
  generalize lastSym ls=L at *
  refine CT O (by omega) (Cs (Cy (Lo O (YS h1) (Lo O (Y.len sl_22 O) (Lo O (YI h6) (Lo O (Y.cv int_36_3 O (w64 (by omega))) (Lo O (Y.leqD O O (decide_eq_false (by omega))) (Lt (CB O (fun h => nomatch h) (fun _ => (Ck (tn (Cy (Lo O (YP h0) (Lo O (YI h6) (VL.call O ent_82 (insert_any w bg off bn 1 1 cs1 _ _ (List.replicate (2 * 1 - 1) (0,0)) (fun _ => 0) .e L 0 0 (gl.keep H.frm hS) (H.blk (i:=1) O) (H.blk (i:=0) O) hc1 hbld (by simp) (by omega) (by omega) (by omega) (by omega) (by omega) hne hg1 hgn) O ?_))))))))))))))))
  rintro e w2 hI
  rcases hI with ⟨t',cs',ns',len',lut',hins,hcap,rfl,hbg',hbn',hc',hb',hnl,hso,hfr⟩ | ⟨hno,_,hfr⟩
  rotate_left
  ·exact absurd (hno (.l L) O) (by simp [PT.inner])
  refine ⟨_,rfl,?_⟩
  refine Lo O (Y.asg O) (Lt (Ct (thn_r ?_)))
  simp only [codePath,PT.ins,Option.some.injEq] at hins
  subst hins
  exact Done.ret1 O O (.inl ⟨.leaf L,cs',hK,rfl,hbg',hs1.trans hso,Bld.tree (hn2) hbn' hc' (fun _ _ => rfl) hb' (by have:=hb'.len_le;omega) rfl,H.frm.then hfr hbgB⟩)
 case neg =>
 rw [if_neg hK1] at hK
 refine CF O (by omega) (Ck (tn ?_))
 by_cases hbig:ls.any (15<·)=true
 case pos =>
  rw [if_pos hbig] at hK
  rw [List.any_eq_true] at hbig
  obtain ⟨xb,hxb,hxb2⟩:=hbig
  simp only [decide_eq_true_eq] at hxb2
  refine Cy (Lo O (YS h1) (VL.call O ent_83 (codes_any w b o c ls (gl.keep H.frm hS) (hr.keep H.frm hbS) hls (by omega) (by omega)) O ?_))
  rintro e w2 hC
  rcases hC with ⟨h,_⟩ | ⟨_,⟨a,rfl⟩,hfr⟩
  ·have:=h xb hxb;omega
  refine ⟨_,rfl,?_⟩
  refine Lo O (Y.movT O) (Lo O (Y.ext O O) (Lo O (Y.ext O O) (Lo O (AS O) (Lo O (Y.asg O) (Lt (Cs (Cy (Lo O (Y.mov O) (Lo O (Y.neqNilT ifc_47 O O) (Lt ?_))))))))))
  refine CB O (fun _ => ?_) (fun h => nomatch h)
  refine Cy (Lo O (Y.mov O) (Lo O (Y.asg O) (Lt (Ct (thn_r ?_)))))
  exact Done.ret1 O O (.inr ⟨hK,⟨_,rfl⟩,H.frm.then hfr (by simp)⟩)
 case neg =>
 rw [if_neg hbig] at hK
 have hall15:∀ x ∈ ls,x≤15:=fun x hx => by
  refine Classical.byContradiction fun h => hbig (List.any_eq_true.2 ⟨x,hx,?_⟩)
  simp only [decide_eq_true_eq]
  omega
 refine Cy (Lo O (YS h1) (VL.call O ent_83 (codes_any w b o c ls (gl.keep H.frm hS) (hr.keep H.frm hbS) hls (by omega) (by omega)) O ?_))
 rintro e w2 hC
 rcases hC with ⟨_,bc,hbc,rfl,hblk,hfr⟩ | ⟨⟨x,hx,hx2⟩,_⟩
 rotate_left
 ·have:=hall15 x hx;omega
 replace H:=H.add (r:=blkR bc (rowK .u32 (codeAt ls) ls.length) 36) hfr hblk ⟨blkR_local _ _ _,blkR_in _ _ _⟩ (by simp [blkR,hbc])
 refine ⟨_,rfl,?_⟩
 refine Lo O (Y.movT O) (Lo O (Y.ext O O) (Lo O (Y.ext O O) (Lo O (AS O) (Lo O (Y.asg O) (Lt (Cs (Cy (Lo O (Y.mov O) (Lo O (Y.neqNilF ifc_47 O O) (Lt (CB O (fun h => nomatch h) (fun _ => (Ck (tn (Cs (Cy (Lo O (YS h1) (Lo O (Y.len sl_22 O) ?_))))))))))))))))))
 refine Lo O (YI O) (Lt (Cb ?_))
 refine Cl (fun m ρ w' => ∃ (i:Nat) (cs2:List Value) (ns2:List (Nat × Int)) (len2:Nat) (lut2:Nat→Nat) (t2:PT),m=ls.length - i∧i≤ls.length∧ρ 0=.pointer (some ⟨bg,off,none⟩)∧ρ 9=.slice (some ⟨bc,0,none⟩) ls.length ls.length∧ρ 57=.slice (some ⟨b,o,none⟩) ls.length c∧ρ 58=.int .i64 (ls.length:Nat)∧ρ 59=.int .i64 (i:Nat) ∧
  insAll (2 * K - 1) .e (codeList ls)=insAll (2 * K - 1) t2 (codesFrom ls i)∧Bld ns2 len2 t2 lut2∧HC cs2 off bn len2 (2 * K - 1) lut2∧ns2.length=2 * K - 1∧SameOut cs cs2 off ∧
  St W [bg] [blkR bc (rowK .u32 (codeAt ls) ls.length) 36,blkR bn (nodeCells ns2) 157,blkR bg cs2 tG] w') ls.length
  ⟨0,cs1,_,1,_,.e,rfl,by omega,h0,rfl,rfl,rfl,rfl,by rw [codesFrom_zero],hbld,hc1,by simp,hs1,H⟩ ?_
 clear H hbld hc1 hs1 hblk hfr h5 h6 h14 h15 h16 h1 h0 ρ
 rintro m ρ w3 ⟨i,cs2,ns2,len2,lut2,t2,rfl,hi,h0,h9,h57,h58,h59,hins,hbld,hc1,hnl,hs1,H⟩
 refine Cy (Lo O (Y.lss h59 h58) (Lt ?_))
 by_cases hlt:i<ls.length
 case pos =>
  have hcell:=hr i hlt
  have hgd:ls.getD i 0=ls[i]:=by simp [hlt]
  have hsucc:=codesFrom_succ hlt
  rw [hgd] at hsucc
  obtain ⟨x,hx⟩:∃ x,x=ls[i]:=⟨_,rfl⟩
  rw [← hx] at hcell hsucc
  refine Cs (CT O (by omega) (Ck (tn (Cs (Cb (Cy (Lo O (YI h59) (Lo O (Y.ixS1 i sl_22 h57 h59 O hlt) (Lo O (Y.ld ld_36 O (H.old hcell hbS)) (Lo O (AI O) (Lo O (AI O) (Lt (Cy (Lo O (YI O) (Lo O (Y.gtr O O) (Ln ?_))))))))))))))))
  refine tn ?_
  by_cases hx0:0<x
  case neg =>
   rw [if_pos (by omega)] at hsucc
   rw [hsucc] at hins
   refine CF O (by omega) (Ck (blk_n (tn (Cr (Lo O (Y.add (r:=((i+1:Nat):Int)) h59 O (by rw [w64 (by omega)];omega)) (Lo O (YI O) (Lt ?_)))))))
   exact ⟨ls.length - (i+1),by omega,i+1,cs2,ns2,len2,lut2,t2,rfl,by omega,h0,h9,h57,h58,rfl,hins,hbld,hc1,hnl,hs1,H⟩
  case pos =>
  rw [if_neg (by omega)] at hsucc
  rw [hsucc,insAll] at hins
  have hx15:x≤15:=hx ▸ hall15 _ (List.getElem_mem hlt)
  have hcode:codeAt ls i<2 ^ 32:=by
   unfold codeAt
   rw [hgd,← hx,if_neg (by omega)]
   have h1:=cstart_sum ls x hx15 (by omega)
   have h2:=take_count_le ls i x
   omega
  have hcut:∀ s ∈ [bg,bn],s ∈ [bg]∨W.heap.size≤s:=hbgB
  refine CT O (by omega) ?_
  by_cases hi1:∃ t',insOne (2 * K - 1) t2 (codePath (codeAt ls i) x) i=some t'
  case pos =>
   obtain ⟨t3,ht3⟩:=hi1
   rw [ht3] at hins
   obtain ⟨ht3i,ht3c⟩:=insOne_some ht3
   refine Cy (Lo O (YP h0) (Lo O (YI O) (Lo O (Y.cv int_3_36 O (wu32 (by omega))) (Lo O (YS h9) (Lo O (YI O) (Lo O (Y.ixS1 i sl_22 O O O hlt) (Lo O (Y.ld ld_36 O (H.cell 0 O (by rw [Nat.zero_add];exact rowK_get hlt))) (Lo O (YI O) (VL.call O ent_82 (insert_any _ bg off bn len2 (2 * K - 1) cs2 _ _ ns2 lut2 t2 i (codeAt ls i) x (gl.keep H.frm hS) (H.blk (i:=2) O) (H.blk (i:=1) O) hc1 hbld hnl (by omega) (by omega) (by omega) hx15 hcode hne hg1 hgn) O ?_)))))))))
   rintro e w2 hI
   rcases hI with ⟨t',cs',ns',len',lut',hins2,hcap,rfl,hbg',hbn',hc',hb',hnl',hso,hfr⟩ | ⟨hno,_,hfr⟩
   rotate_left
   ·have:=hno _ ht3i;omega
   replace H:=H.turn2B 2 1 (by decide) rfl rfl hfr hbg' hbn'
   refine ⟨_,rfl,?_⟩
   refine Lo O (Y.asg O) (Lt (Cy (Lo O (Y.mov O) (Lo O (Y.neqNilF ifc_47 O O) (Lt (CB O (fun h => nomatch h) (fun _ => (Ck (blk_n (tn (Cr (Lo O (Y.add (r:=((i+1:Nat):Int)) h59 O (by rw [w64 (by omega)];omega)) (Lo O (YI O) (Lt ?_))))))))))))))
   rw [ht3i] at hins2
   obtain rfl:=Option.some.inj hins2
   exact ⟨ls.length - (i+1),by omega,i+1,cs',ns',len',lut',t3,rfl,by omega,h0,h9,h57,h58,rfl,hins,hb',hc',hnl',hs1.trans hso,H⟩
  case neg =>
   have hnone:insOne (2 * K - 1) t2 (codePath (codeAt ls i) x) i=none:=Option.not_isSome_iff_eq_none.1 fun h => hi1 (Option.isSome_iff_exists.1 h)
   rw [hnone] at hins
   refine Cy (Lo O (YP h0) (Lo O (YI O) (Lo O (Y.cv int_3_36 O (wu32 (by omega))) (Lo O (YS h9) (Lo O (YI O) (Lo O (Y.ixS1 i sl_22 O O O hlt) (Lo O (Y.ld ld_36 O (H.cell 0 O (by rw [Nat.zero_add];exact rowK_get hlt))) (Lo O (YI O) (VL.call O ent_82 (insert_any _ bg off bn len2 (2 * K - 1) cs2 _ _ ns2 lut2 t2 i (codeAt ls i) x (gl.keep H.frm hS) (H.blk (i:=2) O) (H.blk (i:=1) O) hc1 hbld hnl (by omega) (by omega) (by omega) hx15 hcode hne hg1 hgn) O ?_)))))))))
   rintro e w2 hI
   rcases hI with ⟨t',cs',ns',len',lut',hins2,hcap,_⟩ | ⟨hno,⟨a,rfl⟩,hfr⟩
   ·exact absurd ⟨t',by unfold insOne;rw [hins2];exact if_pos hcap⟩ hi1
   refine ⟨_,rfl,?_⟩
   refine Lo O (Y.asg O) (Lt (Cy (Lo O (Y.mov O) (Lo O (Y.neqNilT ifc_47 O O) (Lt ?_)))))
   refine CB O (fun _ => ?_) (fun h => nomatch h)
   refine Cy (Lo O (Y.mov O) (Lo O (Y.asg O) (Lt (Ct (blk_r (thn_r (thn_r (blk_r (thn_r ?_)))))))))
   exact Done.ret1 O O (.inr ⟨by rw [hK,hins];rfl,⟨_,rfl⟩,H.frm.then hfr hbgB⟩)
 case neg =>
 obtain rfl:i=ls.length:=by omega
 rw [codesFrom_end] at hins
 rw [hins] at hK hfull
 simp only [insAll,Option.bind_some] at hK
 obtain ⟨u,hu⟩:=hfull (by omega) rfl
 refine Cs (CF O (by omega) (Cx (thn_x (thn_x (blk_x (tn (Cy (Lo O (Y.asg O) (Lt (Ct ?_))))))))))
 exact Done.ret1 O O (.inl ⟨u,cs2,by rw [hK,hu],rfl,H.blk (i:=2) rfl,hs1,Bld.tree hn2 (H.blk (i:=1) O) hc1 (fun _ _ => rfl) hbld (by have:=hbld.len_le;omega) hu,H.frm⟩)
def tS (n s0 s1:Nat):Nat→PT
 | 0 => .e
 | 1 => if n=1 then .l s0 else .n (.l s0) .e
 | _ => .n (.l s0) (.l s1)
def sy (s0 s1 i:Nat):Nat:=if i=0 then s0 else s1
def simpleT (n s0 s1 A:Nat):Option T :=
 if n=1 then (if s0<A then some (.leaf s0) else none) else (if s0<A∧s1<A then some (.node (.leaf s0) (.leaf s1)) else none)
theorem tS_ins {n s0 s1 i:Nat} (hn:n=1∨n=2) (hi:i<n):(tS n s0 s1 i).ins (codePath i (n - 1)) (sy s0 s1 i)=some (tS n s0 s1 (i+1))∧(tS n s0 s1 (i+1)).inner+1≤n:=by
 rcases hn with rfl | rfl
 ·obtain rfl:i=0:=by omega
  exact ⟨rfl,by simp [tS,PT.inner]⟩
 ·rcases (by omega:i=0∨i=1) with rfl | rfl
  ·exact ⟨rfl,by simp [tS,PT.inner]⟩
  ·exact ⟨rfl,by simp [tS,PT.inner]⟩
theorem simple_any (W:World) (bg off:Nat) (cs:List Value) (tG:TypeId) (n s0 s1 A:Nat) (gl:Gl W) (hbg:Blk W bg cs tG) (hraw:Raw cs off) (hg1:nG≤bg) (hn:n=1∨n=2) (h0:s0<65536) (h1:s1<65536) (hA:A<2 ^ 32) :
  Calls Tryd.prog 78 #[.pointer (some ⟨bg,off,none⟩),.int .u32 (n:Nat),.agg #[.int .u32 (s0:Nat),.int .u32 (s1:Nat)],.int .u32 (A:Nat)] W (BuildPost bg off cs tG (simpleT n s0 s1 A) W):=by
 have H:St W [bg] [blkR bg cs tG] W:=St.ofBlk hbg
 have hS:HighS [bg]:=fun x hx => by simp at hx;subst hx;exact hg1
 obtain ⟨ae,hae⟩:=gl.badTree
 obtain ⟨vold,hold⟩:=hraw.nodes
 refine enter (m:=40) Tryd.func78 O Tryd.ntmps78 O (Cy (VL.box H (cs:=[.int .u32 (s0:Nat),.int .u32 (s1:Nat)]) O O O ?_))
 intro w bx hx1 hx2 H
 refine Lo O (Y.asg O) (Lt (Cy (Lo O (YP O) (Lo O (YI O) (Lo O (Y.mul (r:=((2 * n:Nat):Int)) O O (by rw [wu32 (by omega)];omega)) (Lo O (Y.sub (r:=((2 * n - 1:Nat):Int)) O O (by rw [wu32 (by omega)];omega)) (VL.make H mk_139 1 (2 * n - 1) O O O O (by omega) (by omega) (by omega) O ?_)))))))
 intro w bn hn1 hn2 H
 refine Lo O (Y.nilP O) (Lo O (Y.fa fa_142_0 O) (VL.putS H 2 st_139 O O O hold ?_))
 intro w H
 refine Lt ?_
 rw [mkNodes] at H
 have hgn:nG≤bn:=Nat.le_trans gl.high hn2
 have hne:bg≠bn:=by have:=hbg.lt;omega
 have hc1:=hraw.hc bn 1 (2 * n - 1)
 have hs1:SameOut cs (cs.set off (.slice (some ⟨bn,0,none⟩) 1 (2 * n - 1))) off:=SameOut.set cs off off _ (Nat.le_refl _) (by omega)
 have hbld:=Bld.start (n:=2 * n - 1) (by omega)
 replace H:St W [bg] [blkR bn (nodeCells (List.replicate (2 * n - 1) (0,0))) 157,blkR bx [.int .u32 (s0:Nat),.int .u32 (s1:Nat)] 168,blkR bg (cs.set off (.slice (some ⟨bn,0,none⟩) 1 (2 * n - 1))) tG] w:=H
 generalize cs.set off (.slice (some ⟨bn,0,none⟩) 1 (2 * n - 1))=cs1 at *
 have hbgB:∀ s ∈ [bg,bn],s ∈ [bg]∨W.heap.size≤s:=by simp [hn2]
 refine Cs (Cy (Lo O (AI O) (Lt (Cb ?_))))
 refine Cl (fun m ρ w' => ∃ (i:Nat) (cs2:List Value) (ns2:List (Nat × Int)) (len2:Nat) (lut2:Nat→Nat),m=n - i∧i≤n∧ρ 0=.pointer (some ⟨bg,off,none⟩)∧ρ 1=.int .u32 (n:Nat)∧ρ 3=.int .u32 (A:Nat)∧ρ 6=.pointer (some ⟨bx,0,none⟩)∧ρ 9=.int .u32 (i:Nat) ∧
  (∀ j,j<i→sy s0 s1 j<A)∧Bld ns2 len2 (tS n s0 s1 i) lut2∧HC cs2 off bn len2 (2 * n - 1) lut2∧ns2.length=2 * n - 1∧SameOut cs cs2 off ∧
  St W [bg] [blkR bn (nodeCells ns2) 157,blkR bx [.int .u32 (s0:Nat),.int .u32 (s1:Nat)] 168,blkR bg cs2 tG] w') n
  ⟨0,cs1,_,1,_,rfl,by omega,rfl,rfl,rfl,rfl,rfl,by simp,hbld,hc1,by simp,hs1,H⟩ ?_
 clear H hbld hc1 hs1
 rintro m ρ w3 ⟨i,cs2,ns2,len2,lut2,rfl,hi,h0',h1',h3',h6',h9',hsm,hbld,hc1,hnl,hs1,H⟩
 refine Cs (Cy (Lo O (YI h9') (Lo O (YI h1') (Lo O (Y.lss O O) (Lt ?_)))))
 by_cases hlt:i<n
 case pos =>
  have hcell:([.int .u32 (s0:Nat),.int .u32 (s1:Nat)]:List Value)[i]?=some (.int .u32 (sy s0 s1 i:Nat)):=by
   rcases (by omega:i=0∨i=1) with rfl | rfl <;> rfl
  have hsl:sy s0 s1 i<65536:=by unfold sy;split <;> assumption
  obtain ⟨hins,hinn⟩:=tS_ins (s0:=s0) (s1:=s1) hn hlt
  refine CT O (by omega) (Ck (tn (Cs (Cb ?_))))
  by_cases hA2:sy s0 s1 i<A
  case neg =>
   refine Cs (Cy (Lo O (YI h9') (Lo O (Y.ixA1 i ar_168 h6' O O (by omega)) (Lo O (Y.ld ld_36 O (H.cell 1 O (by rw [Nat.zero_add];exact hcell))) (Lo O (YI h3') (Lo O (Y.geq O O) (Lt (CT O (by omega) (Cy (Lo O (Y.ld ld_47 O (H.old hae (hS.g _ O))) (Lo O (Y.asg O) (Lt (Ct (thn_r (blk_r (thn_r (thn_r (blk_r (thn_r ?_)))))))))))))))))))
   refine Done.ret1 O O (.inr ⟨?_,⟨_,rfl⟩,H.frm⟩)
   unfold simpleT
   rcases (by omega:i=0∨i=1) with rfl | rfl
   ·replace hA2:¬ s0<A:=hA2
    simp [hA2]
   ·replace hA2:¬ s1<A:=hA2
    rw [if_neg (by omega)];simp [hA2]
  case pos =>
  refine Cs (Cy (Lo O (YI h9') (Lo O (Y.ixA1 i ar_168 h6' O O (by omega)) (Lo O (Y.ld ld_36 O (H.cell 1 O (by rw [Nat.zero_add];exact hcell))) (Lo O (YI h3') (Lo O (Y.geq O O) (Lt (CF O (by omega) (Ck (tn (Cy (Lo O (YP h0') (Lo O (YI h9') (Lo O (Y.ixA1 i ar_168 h6' O O (by omega)) (Lo O (Y.ld ld_36 O (H.cell 1 O (by rw [Nat.zero_add];exact hcell))) (Lo O (YI h9') (Lo O (YI h1') ?_)))))))))))))))))
  refine Lo O (Y.sub (r:=((n - 1:Nat):Int)) O O (by rw [wu32 (by omega)];omega)) (VL.call O ent_82 (insert_any _ bg off bn len2 (2 * n - 1) cs2 _ _ ns2 lut2 (tS n s0 s1 i) (sy s0 s1 i) i (n - 1) (gl.keep H.frm hS) (H.blk (i:=2) O) (H.blk (i:=0) O) hc1 hbld hnl (by omega) (by omega) hsl (by omega) (by omega) hne hg1 hgn) O ?_)
  rintro e w2 hI
  rcases hI with ⟨t',cs',ns',len',lut',hins2,hcap,rfl,hbg',hbn',hc',hb',hnl',hso,hfr⟩ | ⟨hno,_,hfr⟩
  rotate_left
  ·have:=hno _ hins;omega
  replace H:=H.turn2B 2 0 (by decide) rfl rfl hfr hbg' hbn'
  refine ⟨_,rfl,?_⟩
  refine Lo O (Y.asg O) (Lt (Cy (Lo O (Y.mov O) (Lo O (Y.neqNilF ifc_47 O O) (Lt (CB O (fun h => nomatch h) (fun _ => (Ck (blk_n (tn (Cr (Lo O (YI h9') (Lo O (Y.add (r:=((i+1:Nat):Int)) O O (by rw [wu32 (by omega)];omega)) (Lo O (AI O) (Lt ?_)))))))))))))))
  rw [hins] at hins2
  obtain rfl:=Option.some.inj hins2
  exact ⟨n - (i+1),by omega,i+1,cs',ns',len',lut',rfl,by omega,h0',h1',h3',h6',rfl,fun j hj => by
   by_cases h:j<i
   ·exact hsm j h
   ·obtain rfl:j=i:=by omega
    exact hA2,hb',hc',hnl',hs1.trans hso,H⟩
 case neg =>
 have hB2:Blk w3 bg cs2 tG:=H.blk (i:=2) rfl
 have hB0:Blk w3 bn (nodeCells ns2) 157:=H.blk (i:=0) rfl
 have hF:=H.frm
 obtain rfl:i=n:=by omega
 refine CF O (by omega) (Cx (thn_x (thn_x (blk_x (tn (Cy (Lo O (Y.asg O) (Lt (Ct ?_)))))))))
 rcases hn with rfl | rfl
 ·have h:s0<A:=hsm 0 (by omega)
  refine Done.ret1 O O (.inl ⟨.leaf s0,cs2,?_,rfl,hB2,hs1,Bld.tree hn2 (hB0) hc1 (fun _ _ => rfl) hbld (by have:=hbld.len_le;omega) rfl,hF⟩)
  unfold simpleT
  rw [if_pos rfl,if_pos h]
 ·have h:s0<A:=hsm 0 (by omega)
  have h':s1<A:=hsm 1 (by omega)
  refine Done.ret1 O O (.inl ⟨.node (.leaf s0) (.leaf s1),cs2,?_,rfl,hB2,hs1,Bld.tree hn2 (hB0) hc1 (fun _ _ => rfl) hbld (by have:=hbld.len_le;omega) rfl,hF⟩)
  unfold simpleT
  rw [if_neg (by omega),if_pos ⟨h,h'⟩]
def rd (n:Nat) (R:Bits):Option (Nat × Bits):=if n≤R.length then some (val (R.take n),R.drop n) else none
theorem rd_ok {n:Nat} {R:Bits} (h:n≤R.length):rd n R=some (val (R.take n),R.drop n):=if_pos h
theorem rd_no {n:Nat} {R:Bits} (h:R.length<n):rd n R=none:=if_neg (by omega)
def T.symLt (n:Nat):T→Prop
 | .leaf s => s<n
 | .node a b => a.symLt n∧b.symLt n
def PT.symLt (n:Nat):PT→Prop
 | .e => True
 | .l s => s<n
 | .n a b => a.symLt n∧b.symLt n
theorem PT.ins_below {n:Nat}:∀ (t:PT) (p:Bits) (s:Nat) (t':PT),t.ins p s=some t'→t.symLt n→s<n→t'.symLt n
 | .e,[],s,t',h,hb,hs => by simp only [PT.ins,Option.some.injEq] at h;subst h;exact hs
 | .l _,[],s,t',h,hb,hs => by simp only [PT.ins,Option.some.injEq] at h;subst h;exact hs
 | .n _ _,[],s,t',h,_,_ => by simp [PT.ins] at h
 | .l _,_ :: _,s,t',h,_,_ => by simp [PT.ins] at h
 | .e,true :: p,s,t',h,hb,hs => by
  simp only [PT.ins,Option.map_eq_some_iff] at h
  obtain ⟨u,hu,rfl⟩:=h
  exact ⟨trivial,PT.ins_below .e p s u hu trivial hs⟩
 | .e,false :: p,s,t',h,hb,hs => by
  simp only [PT.ins,Option.map_eq_some_iff] at h
  obtain ⟨u,hu,rfl⟩:=h
  exact ⟨PT.ins_below .e p s u hu trivial hs,trivial⟩
 | .n a b,true :: p,s,t',h,hb,hs => by
  simp only [PT.ins,Option.map_eq_some_iff] at h
  obtain ⟨u,hu,rfl⟩:=h
  exact ⟨hb.1,PT.ins_below b p s u hu hb.2 hs⟩
 | .n a b,false :: p,s,t',h,hb,hs => by
  simp only [PT.ins,Option.map_eq_some_iff] at h
  obtain ⟨u,hu,rfl⟩:=h
  exact ⟨PT.ins_below a p s u hu hb.1 hs,hb.2⟩
theorem insAll_below {cap n:Nat}:∀ (ps:List (Bits × Nat)) (t t':PT),insAll cap t ps=some t'→t.symLt n→(∀ p ∈ ps,p.2<n)→t'.symLt n
 | [],t,t',h,hb,_ => by simp only [insAll,Option.some.injEq] at h;exact h ▸ hb
 | (q,s) :: r,t,t',h,hb,hp => by
  simp only [insAll] at h
  split at h
  ·rename_i u hu
   exact insAll_below r u t' h (PT.ins_below t q s u (insOne_some hu).1 hb (hp (q,s) (by simp))) (fun p hm => hp p (List.mem_cons_of_mem _ hm))
  ·cases h
theorem PT.toT_below {n:Nat}:∀ (t:PT) (u:T),t.toT=some u→t.symLt n→u.symLt n
 | .e,u,h,_ => by cases h
 | .l s,u,h,hb => by simp only [PT.toT,Option.some.injEq] at h;subst h;exact hb
 | .n a b,u,h,hb => by
  simp only [PT.toT] at h
  split at h
  ·rename_i x y hx hy
   simp only [Option.some.injEq] at h
   subst h
   exact ⟨PT.toT_below a x hx hb.1,PT.toT_below b y hy hb.2⟩
  ·cases h
theorem buildT_below {ls:List Nat} {u:T} (h:buildT ls=some u):u.symLt ls.length:=by
 unfold buildT at h
 split at h
 ·cases h
 ·rename_i h0
  split at h
  ·simp only [Option.some.injEq] at h
   subst h
   have:ls.countP (·≠0)≤ls.length:=List.countP_le_length
   exact lastSym_lt (by omega)
  ·split at h
   ·cases h
   ·simp only [Option.bind_eq_some_iff] at h
    obtain ⟨t,ht,hu⟩:=h
    refine PT.toT_below t u hu (insAll_below _ _ _ ht trivial fun p hp => ?_)
    unfold codeList at hp
    rw [List.mem_filterMap] at hp
    obtain ⟨i,hi,he⟩:=hp
    unfold symOf at he
    split at he
    ·cases he
    ·simp only [Option.some.injEq] at he
     subst he
     exact List.mem_range.1 hi
theorem T.walk_below {n:Nat}:∀ {t:T} {R R':Bits} {s:Nat},t.symLt n→t.walk R=some (s,R')→s<n
 | .leaf s0,R,R',s,hb,h => by
  simp only [T.walk,T.adv,Option.some.injEq,Prod.mk.injEq] at h
  obtain ⟨rfl,_⟩:=h
  exact hb
 | .node a b,[],R',s,hb,h => by simp [T.walk,T.adv] at h
 | .node a b,true :: R,R',s,hb,h => by rw [T.walk_node] at h;exact T.walk_below hb.2 h
 | .node a b,false :: R,R',s,hb,h => by rw [T.walk_node] at h;exact T.walk_below hb.1 h
def repB (s:Nat):Nat:=tab_repeatBits.getD s 0
def repO (s:Nat):Nat:=tab_repeatOffsets.getD s 0
theorem repO_pos:∀ j,j<3→3≤repO j∧repO j≤11∧repB j≤7:=by decide
theorem repB_eq (j:Nat):repB j=tab_repeatBits.getD j 0:=rfl
theorem repO_eq (j:Nat):repO j=tab_repeatOffsets.getD j 0:=rfl
attribute [irreducible] repB repO
def clLoop (t:T) (n:Nat):Nat→List Nat→Nat→Nat→Bits→Option (List Nat × Bits)
 | 0,acc,ms,prev,R => some (acc,R)
 | k+1,acc,ms,prev,R =>
  if n≤acc.length then some (acc,R)
  else if ms=0 then some (acc++List.replicate (n - acc.length) 0,R)
  else match t.walk R with
   | none => none
   | some (s,R1) =>
    if s<16 then clLoop t n k (acc++[s]) (ms - 1) (if s≠0 then s else prev) R1
    else match rd (repB (s - 16)) R1 with
     | none => none
     | some (v,R2) =>
      if n<acc.length+(v+repO (s - 16)) then none
      else clLoop t n k (acc++List.replicate (v+repO (s - 16)) (if s=16 then prev else 0)) (ms - 1) prev R2
theorem clLoop_zero (t:T) (n:Nat) (acc:List Nat) (ms prev:Nat) (R:Bits):clLoop t n 0 acc ms prev R=some (acc,R):=rfl
theorem clLoop_succ (t:T) (n k:Nat) (acc:List Nat) (ms prev:Nat) (R:Bits):clLoop t n (k+1) acc ms prev R =
  if n≤acc.length then some (acc,R)
  else if ms=0 then some (acc++List.replicate (n - acc.length) 0,R)
  else match t.walk R with
   | none => none
   | some (s,R1) =>
    if s<16 then clLoop t n k (acc++[s]) (ms - 1) (if s≠0 then s else prev) R1
    else match rd (repB (s - 16)) R1 with
     | none => none
     | some (v,R2) =>
      if n<acc.length+(v+repO (s - 16)) then none
      else clLoop t n k (acc++List.replicate (v+repO (s - 16)) (if s=16 then prev else 0)) (ms - 1) prev R2:=rfl
def clMax (n:Nat) (R:Bits):Option (Nat × Bits) :=
 match rd 1 R with
 | none => none
 | some (u,R1) => if u=0 then some (n,R1) else
  match rd 3 R1 with
  | none => none
  | some (k,R2) => match rd (2+2 * k) R2 with
   | none => none
   | some (ms,R3) => if n<ms+2 then none else some (ms+2,R3)
def decCL (n:Nat) (ccl:List Nat) (R:Bits):Option (List Nat × Bits) :=
 match buildT ccl with
 | none => none
 | some t => match clMax n R with
  | none => none
  | some (ms,R1) => clLoop t n n [] ms 8 R1
theorem clLoop_good {t:T} {n:Nat} (ht:t.symLt 19):∀ (k:Nat) (acc:List Nat) (ms prev:Nat) (R:Bits) (ls:List Nat) (R':Bits),n - acc.length≤k→acc.length≤n→(∀ x ∈ acc,x<16)→prev<16 →
  clLoop t n k acc ms prev R=some (ls,R')→ls.length=n∧∀ x ∈ ls,x<16:=by
 intro k
 induction k with
 | zero =>
  intro acc ms prev R ls R' hk hl ha hp h
  rw [clLoop_zero] at h
  simp only [Option.some.injEq,Prod.mk.injEq] at h
  obtain ⟨rfl,_⟩:=h
  exact ⟨by omega,ha⟩
 | succ k ih =>
  intro acc ms prev R ls R' hk hl ha hp h
  rw [clLoop_succ] at h
  split at h
  ·simp only [Option.some.injEq,Prod.mk.injEq] at h
   obtain ⟨rfl,_⟩:=h
   exact ⟨by omega,ha⟩
  ·split at h
   ·simp only [Option.some.injEq,Prod.mk.injEq] at h
    obtain ⟨rfl,_⟩:=h
    refine ⟨by simp;omega,fun x hx => ?_⟩
    rw [List.mem_append] at hx
    rcases hx with hx | hx
    ·exact ha x hx
    ·rw [List.eq_of_mem_replicate hx];omega
   ·split at h
    ·cases h
    ·rename_i s R1 hw
     have hs:=T.walk_below ht hw
     split at h
     ·rename_i hs16
      refine ih (acc++[s]) (ms - 1) (if s≠0 then s else prev) R1 ls R' (by rw [List.length_append,List.length_singleton];omega) (by rw [List.length_append,List.length_singleton];omega) (fun x hx => ?_) (by split;exact hs16;exact hp) h
      rw [List.mem_append,List.mem_singleton] at hx
      rcases hx with hx | hx
      ·exact ha x hx
      ·omega
     ·rename_i hs16
      have hO:=repO_pos (s - 16) (by omega)
      split at h
      ·cases h
      ·rename_i v R2 hv
       split at h
       ·cases h
       ·refine ih (acc++List.replicate (v+repO (s - 16)) (if s=16 then prev else 0)) (ms - 1) prev R2 ls R' (by rw [List.length_append,List.length_replicate];omega) (by rw [List.length_append,List.length_replicate];omega) (fun x hx => ?_) hp h
        rw [List.mem_append] at hx
        rcases hx with hx | hx
        ·exact ha x hx
        ·rw [List.eq_of_mem_replicate hx];split <;> omega
theorem raw0 (l:List Value) (h:l=[.slice none 0 0]++List.replicate 128 (.int .u32 0)):Raw l 0:=by
 subst h
 refine ⟨⟨_,rfl⟩,fun x hx => ?_⟩
 rw [show 0+1+x=x+1 by omega,List.singleton_append,List.getElem?_cons_succ,List.getElem?_replicate,if_pos hx]
theorem getD_snoc (acc:List Nat) (s j:Nat):(acc++[s]).getD j 0=if j=acc.length then s else acc.getD j 0:=by
 simp only [List.getD_eq_getElem?_getD]
 by_cases h:j<acc.length
 ·rw [List.getElem?_append_left h,if_neg (by omega)]
 ·rw [List.getElem?_append_right (by omega)]
  by_cases h2:j=acc.length
  ·subst h2;simp
  ·rw [if_neg h2,List.getElem?_eq_none (by simp;omega),List.getElem?_eq_none (by omega)]
theorem getD_zeros (acc:List Nat) (q j:Nat):(acc++List.replicate q 0).getD j 0=acc.getD j 0:=by
 simp only [List.getD_eq_getElem?_getD]
 by_cases h:j<acc.length
 ·rw [List.getElem?_append_left h]
 ·rw [List.getElem?_append_right (by omega),List.getElem?_eq_none (l:=acc) (by omega),List.getElem?_replicate]
  split <;> rfl
def CLPost (σ:Src) (bd n:Nat) (r:Option (List Nat × Bits)) (w:World) (e:Ending) (w':World):Prop :=
 (∃ ls R',r=some (ls,R')∧e=.returned .nilIface∧(decR σ R').pred w'∧Blk w' bd (rowK .u32 (fun j => ls.getD j 0) n) 36∧Frm [σ.d,σ.rd,bd] w w') ∨
 (r=none∧(∃ a,e=.returned (.iface 132 (.pointer (some a))))∧Frm [σ.d,σ.rd,bd] w w')
theorem decCL_any (σ:Src) (R:Bits) (W:World) (bd n b o c:Nat) (ccl:List Nat) (D:(decR σ R).pred W) (ro:RO σ W) (hbd:Blk W bd (rowK .u32 (fun _ => 0) n) 36) (hr:Row W .u32 b o ccl)
  (hS:OkS σ [σ.d,σ.rd,bd]) (hbS:b ∉ [σ.d,σ.rd,bd]) (hne:bd≠σ.d∧bd≠σ.rd) (hc19:ccl.length=19) (hccl:∀ x ∈ ccl,x<2 ^ 32) (hn:n≤30000) :
  Calls Tryd.prog 79 #[.pointer (some ⟨σ.d,0,none⟩),.slice (some ⟨bd,0,none⟩) n n,.slice (some ⟨b,o,none⟩) ccl.length c] W (CLPost σ bd n (decCL n ccl R) W):=by
 have H:St W [σ.d,σ.rd,bd] [decR σ R,blkR bd (rowK .u32 (fun _ => 0) n) 36] W:=by
  refine St.cons (St.one hbd ⟨blkR_local _ _ _,blkR_in _ _ _⟩ (by simp [blkR])) D (decR_local σ R) (by simp [decR]) ?_
  intro r hr x hx hx2
  simp only [List.mem_singleton] at hr
  subst hr
  simp only [blkR,List.mem_singleton] at hx2
  subst hx2
  simp only [decR,List.mem_cons,List.not_mem_nil,or_false] at hx
  rcases hx with rfl | rfl
  ·exact hne.1 O
  ·exact hne.2 O
 obtain ⟨ae,hae⟩:=ro.gl.badLen
 have hbt:=@buildT_below ccl
 have hdec:decCL n ccl R=match buildT ccl with
  | none => none
  | some t => match clMax n R with
   | none => none
   | some (ms,R1) => clLoop t n n [] ms 8 R1:=rfl
 refine enter (m:=135) Tryd.func79 O Tryd.ntmps79 O (Cy (Lo O (Y.asg O) (Lt (Cy (Lo O (Y.zeroS bz_142) (VL.alloc H zer_142 O ?_))))))
 intro w b7 hn7 hb7 H
 refine VL.putW H 0 stn_142 O O O O O (by decide) ?_
 intro w H
 refine Lt ?_
 have hraw:=raw0 _ rfl
 have hg7:nG≤b7:=Nat.le_trans ro.gl.high hb7
 have hbW:b<W.heap.size:=World.block_lt_of_cell? W _ (hr 0 (by omega))
 have hbb:b≠b7:=by omega
 have hbS2:b ∉ [σ.d,σ.rd,bd]:=hbS
 have hS3:∀ z ∈ [σ.d,σ.rd,bd],z<W.heap.size:=by
  obtain ⟨i,nb,pr,h1,h2,h3,h4⟩:=D
  intro z hz
  simp only [List.mem_cons,List.not_mem_nil,or_false] at hz
  rcases hz with rfl | rfl | rfl
  ·exact h1.lt
  ·exact h2.lt
  ·exact hbd.lt
 cases hbt2:buildT ccl with
 | none =>
  rw [hbt2] at hdec
  refine Cs (Cy (Lo O (YS O) (VL.call O ent_80 (build_any _ b7 0 _ _ b o c ccl (ro.frm H hS).gl (H.blk (i:=0) O) hraw (hr.keep H.frm hbS) hbb hg7 hccl (by omega)) O ?_)))
  rintro e w2 hB
  rcases hB with ⟨u,cs',hu,_⟩ | ⟨_,⟨a,rfl⟩,hf⟩
  ·rw [hbt2] at hu;cases hu
  refine ⟨_,rfl,?_⟩
  refine Lo O (Y.asg O) (Lt (Cy (Lo O (Y.mov O) (Lo O (Y.neqNilT ifc_47 O O) (Lt ?_)))))
  refine CB O (fun _ => ?_) (fun h => nomatch h)
  refine Cy (Lo O (Y.mov O) (Lo O (Y.asg O) (Lt (Ct (thn_r ?_)))))
  exact Done.ret1 O O (.inr ⟨hdec,⟨_,rfl⟩,H.frm.then hf (by simp [hb7])⟩)
 | some u =>
 rw [hbt2] at hdec
 have hu19:=hbt hbt2
 rw [hc19] at hu19
 refine Cs (Cy (Lo O (YS O) (VL.call O ent_80 (build_any _ b7 0 _ _ b o c ccl (ro.frm H hS).gl (H.blk (i:=0) O) hraw (hr.keep H.frm hbS) hbb hg7 hccl (by omega)) O ?_)))
 rintro e w2 hB
 rcases hB with ⟨u',cs',hu,rfl,hbg',hso,htc,hf⟩ | ⟨h,_⟩
 rotate_left
 ·rw [hbt2] at h;cases h
 rw [hbt2] at hu
 obtain rfl:=Option.some.inj hu
 have hfW:Frm [σ.d,σ.rd,bd] W w2:=H.frm.then hf (by simp [hb7])
 have ht:HTree [σ.d,σ.rd,bd] w2 b7 0 u:=htc.ht hbg' (fun hm => by have:=hS3 _ hm;omega) (fun s hs => by have:=hS3 _ hs;have:=H.high;omega)
 replace H:=((H.turnB 0 rfl hf hbg').sub [1,2] (l':=[decR σ R,blkR bd (rowK .u32 (fun _ => 0) n) 36]) rfl (by decide)).base [σ.d,σ.rd,bd] (by simp [decR,blkR])
 replace ro:RO σ w2:=ro.keep hfW hS
 replace hae:=hfW.cell hae (hS.1.g _ rfl)
 refine ⟨_,rfl,?_⟩
 refine Lo O (Y.asg O) (Lt ?_)
 clear hf hso htc hbg'
 have hdS:∀ z ∈ [σ.d,σ.rd],z ∈ [σ.d,σ.rd,bd]:=by simp
 refine Cy (Lo O (Y.mov O) (Lo O (Y.neqNilF ifc_47 O O) (Lt (CB O (fun h => nomatch h) (fun _ => (Ck (tn (Cy (Lo O (YS O) (Lo O (Y.len sl_22 O) (Lo O (AI O) (Lt ?_))))))))))))
 by_cases hR1:1≤R.length
 case neg =>
  have hm:clMax n R=none:=by unfold clMax;rw [rd_no (by omega)]
  refine Cy (Lo O (YP O) (VL.readNo (k:=1) H 0 O ro hS (by omega) (by omega) O O O ?_))
  intro w a hF
  refine Lo O (Y.movT O) (Lo O (Y.ext O O) (Lo O (Y.ext O O) (Lo O (AI O) (Lo O (Y.asg O) (Lt (Cs (Cy (Lo O (Y.mov O) (Lo O (Y.neqNilT ifc_47 O O) (Lt ?_))))))))))
  refine CB O (fun _ => ?_) (fun h => nomatch h)
  refine Cy (Lo O (Y.mov O) (Lo O (Y.asg O) (Lt (Ct (thn_r ?_)))))
  exact Done.ret1 O O (.inr ⟨by rw [hdec];simp only [hm],⟨_,rfl⟩,hfW.trans hF⟩)
 case pos =>
 have hv1:val (R.take 1)<2:=by have:=val_take_lt R 1;omega
 refine Cy (Lo O (YP O) (VL.readOk (k:=1) H 0 O ro hS (by omega) hR1 O O O ?_))
 intro w H
 refine Lo O (Y.movT O) (Lo O (Y.ext O O) (Lo O (Y.ext O O) (Lo O (AI O) (Lo O (Y.asg O) (Lt (Cs (Cy (Lo O (Y.mov O) (Lo O (Y.neqNilF ifc_47 O O) (Lt (CB O (fun h => nomatch h) (fun _ => (Ck (tn (Cs (Cy (Lo O (YI O) (Lo O (Y.neq O O) ?_))))))))))))))))))
 refine Lt ?_
 refine VC.join (fun ρ w' => ∃ ms R1,clMax n R=some (ms,R1)∧ms≤262145∧ρ 0=.pointer (some ⟨σ.d,0,none⟩)∧ρ 1=.slice (some ⟨bd,0,none⟩) n n∧ρ 7=.pointer (some ⟨b7,0,none⟩)∧ρ 9=.int .i64 (ms:Nat) ∧
  St w2 [σ.d,σ.rd,bd] [decR σ R1,blkR bd (rowK .u32 (fun _ => 0) n) 36] w') ?_ ?_
 case refine_1 =>
  by_cases hu0:val (R.take 1)=0
  case pos =>
   refine CF O (by omega) (Ck (tn ?_))
   exact ⟨n,R.drop 1,by unfold clMax;rw [rd_ok hR1];simp only [hu0,if_true],by omega,rfl,rfl,rfl,rfl,H⟩
  case neg =>
  have hm0:clMax n R=match rd 3 (R.drop 1) with
   | none => none
   | some (k,R2) => match rd (2+2 * k) R2 with
    | none => none
    | some (ms,R3) => if n<ms+2 then none else some (ms+2,R3):=by
   unfold clMax
   rw [rd_ok hR1]
   simp only [if_neg hu0]
  generalize R.drop 1=R1 at *
  refine CT O (by omega) ?_
  by_cases hR2:3≤R1.length
  case neg =>
   rw [rd_no (by omega)] at hm0
   refine Cy (Lo O (YP O) (VL.readNo (k:=3) H 0 O ro hS (by omega) (by omega) O O O ?_))
   intro w a hF
   refine Lo O (Y.movT O) (Lo O (Y.ext O O) (Lo O (Y.ext O O) (Lo O (AI O) (Lo O (Y.asg O) (Lt (Cs (Cy (Lo O (Y.mov O) (Lo O (Y.neqNilT ifc_47 O O) (Lt ?_))))))))))
   refine CB O (fun _ => ?_) (fun h => nomatch h)
   refine Cy (Lo O (Y.mov O) (Lo O (Y.asg O) (Lt (Ct (thn_r (thn_r ?_))))))
   exact Done.ret1 O O (.inr ⟨by rw [hdec];simp only [hm0],⟨_,rfl⟩,hfW.trans hF⟩)
  case pos =>
  rw [rd_ok hR2] at hm0
  have hv3:val (R1.take 3)<8:=by have:=val_take_lt R1 3;omega
  refine Cy (Lo O (YP O) (VL.readOk (k:=3) H 0 O ro hS (by omega) hR2 O O O ?_))
  intro w H
  refine Lo O (Y.movT O) (Lo O (Y.ext O O) (Lo O (Y.ext O O) (Lo O (AI O) (Lo O (Y.asg O) (Lt ?_)))))
  simp only at hm0
  generalize val (R1.take 3)=k at *
  generalize R1.drop 3=R2 at *
  refine Cs (Cy (Lo O (Y.mov O) (Lo O (Y.neqNilF ifc_47 O O) (Lt (CB O (fun h => nomatch h) (fun _ => (Ck (tn (Cy (Lo O (YI O) (Lo O (Y.mul (r:=((2 * k:Nat):Int)) O O (by rw [wu32 (by omega)];omega)) (Lo O (Y.add (r:=((2+2 * k:Nat):Int)) O O (by rw [wu32 (by omega)];omega)) (Lo O (AI O) (Lt ?_))))))))))))))
  by_cases hR3:2+2 * k≤R2.length
  case neg =>
   rw [rd_no (by omega)] at hm0
   refine Cy (Lo O (YP O) (Lo O (YI O) (VL.readNo (k:=2+2 * k) H 0 O ro hS (by omega) (by omega) O O O ?_)))
   intro w a hF
   refine Lo O (Y.movT O) (Lo O (Y.ext O O) (Lo O (Y.ext O O) (Lo O (AI O) (Lo O (Y.asg O) (Lt (Cs (Cy (Lo O (Y.mov O) (Lo O (Y.neqNilT ifc_47 O O) (Lt ?_))))))))))
   refine CB O (fun _ => ?_) (fun h => nomatch h)
   refine Cy (Lo O (Y.mov O) (Lo O (Y.asg O) (Lt (Ct (thn_r (thn_r ?_))))))
   exact Done.ret1 O O (.inr ⟨by rw [hdec];simp only [hm0],⟨_,rfl⟩,hfW.trans hF⟩)
  case pos =>
  rw [rd_ok hR3] at hm0
  have hvm:val (R2.take (2+2 * k))<65536:=by
   have:=val_take_lt R2 (2+2 * k)
   have:2 ^ (2+2 * k)≤2 ^ 16:=Nat.pow_le_pow_right (by omega) (by omega)
   omega
  refine Cy (Lo O (YP O) (Lo O (YI O) (VL.readOk (k:=2+2 * k) H 0 O ro hS (by omega) hR3 O O O ?_)))
  intro w H
  refine Lo O (Y.movT O) (Lo O (Y.ext O O) (Lo O (Y.ext O O) (Lo O (AI O) (Lo O (Y.asg O) (Lt ?_)))))
  simp only at hm0
  generalize val (R2.take (2+2 * k))=ms at *
  generalize R2.drop (2+2 * k)=R3 at *
  refine Cs (Cy (Lo O (Y.mov O) (Lo O (Y.neqNilF ifc_47 O O) (Lt (CB O (fun h => nomatch h) (fun _ => (Ck (tn (Cy (Lo O (YI O) (Lo O (Y.cv (r:=(ms:Nat)) int_36_3 O (w64 (by omega))) (Lo O (Y.add (r:=((ms+2:Nat):Int)) O O (by rw [w64 (by omega)];omega)) (Lo O (AI O) (Lt (Cy (Lo O (YI O) ?_))))))))))))))))
  refine Lo O (YS O) (Lo O (Y.len sl_22 O) (Lo O (Y.gtr O O) (Lt ?_)))
  by_cases hbig:n<ms+2
  case pos =>
   rw [if_pos hbig] at hm0
   refine CT O (by omega) (Cy (Lo O (Y.ld ld_47 O (H.old hae (hS.1.g _ O))) (Lo O (Y.asg O) (Lt (Ct (thn_r ?_))))))
   exact Done.ret1 O O (.inr ⟨by rw [hdec];simp only [hm0],⟨_,rfl⟩,hfW.trans H.frm⟩)
  case neg =>
  rw [if_neg hbig] at hm0
  refine CF O (by omega) (Ck (tn ?_))
  exact ⟨ms+2,R3,hm0,by omega,rfl,rfl,rfl,rfl,H⟩
 case refine_2 =>
 clear H
 rintro ρ w3 ⟨ms0,R1,hm,hms,h0,h1,h7,h9,H⟩
 replace hdec:decCL n ccl R=clLoop u n n [] ms0 8 R1:=by rw [hdec];simp only [hm]
 refine Cy (Lo O (AI O) (Lt (Cs (Cy (Lo O (AI O) (Lt (Cb ?_)))))))
 refine Cl (fun m ρ w' => ∃ (k:Nat) (acc:List Nat) (ms prev:Nat) (R1:Bits),m=n - acc.length∧n - acc.length≤k∧acc.length≤n∧prev<16∧ms≤262145∧decCL n ccl R=clLoop u n k acc ms prev R1 ∧
  ρ 0=.pointer (some ⟨σ.d,0,none⟩)∧ρ 1=.slice (some ⟨bd,0,none⟩) n n∧ρ 7=.pointer (some ⟨b7,0,none⟩)∧ρ 9=.int .i64 (ms:Nat)∧ρ 15=.int .u32 (prev:Nat)∧ρ 16=.int .i64 (acc.length:Nat) ∧
  St w2 [σ.d,σ.rd,bd] [decR σ R1,blkR bd (rowK .u32 (fun j => acc.getD j 0) n) 36] w') n
  ⟨n,[],ms0,8,R1,rfl,by simp,by simp,by omega,hms,hdec,h0,h1,h7,h9,rfl,rfl,H⟩ ?_
 clear H h0 h1 h7 h9 hdec hm hms
 clear ρ
 rintro m ρ w4 ⟨k,acc,ms,prev,R1,rfl,hk,hal,hprev,hms,hdec,h0,h1,h7,h9,h15,h16,H⟩
 refine Cs (Cy (Lo O (YI h16) (Lo O (YS h1) (Lo O (Y.len sl_22 O) (Lo O (Y.lss O O) (Lt ?_))))))
 by_cases hlt:acc.length<n
 case neg =>
  have hres:clLoop u n k acc ms prev R1=some (acc,R1):=by
   cases k with
   | zero => rfl
   | succ k => rw [clLoop_succ,if_pos (by omega)]
  refine CF O (by omega) (Cx (thn_x (thn_x (blk_x (tn (Cy (Lo O (Y.asg O) (Lt (Ct ?_)))))))))
  exact Done.ret1 O O (.inl ⟨acc,R1,by rw [hdec,hres],rfl,H.get (i:=0) rfl,H.blk (i:=1) rfl,hfW.trans H.frm⟩)
 case pos =>
 obtain ⟨k,rfl⟩:∃ k',k=k'+1:=⟨k - 1,by omega⟩
 rw [clLoop_succ,if_neg (by omega)] at hdec
 refine CT O (by omega) (Ck (tn (Cb (Cs (Cy (Lo O (YI h9) (Lo O (Y.eql O O) (Lt ?_))))))))
 by_cases hms0:ms=0
 case pos =>
  rw [if_pos hms0] at hdec
  refine CT O (by omega) (Cx (thn_x (blk_y O (thn_x (blk_x (tn (Cy (Lo O (Y.asg O) (Lt (Ct ?_))))))))))
  rw [rowK_congr (g:=fun j => (acc++List.replicate (n - acc.length) 0).getD j 0) (fun j _ => getD_zeros acc _ j)] at H
  exact Done.ret1 O O (.inl ⟨_,R1,hdec,rfl,H.get (i:=0) rfl,H.blk (i:=1) rfl,hfW.trans H.frm⟩)
 case neg =>
 rw [if_neg hms0] at hdec
 refine CF O (by omega) (Ck (tn (Cy (Lo O (YI h9) (Lo O (Y.sub (r:=((ms - 1:Nat):Int)) O O (by rw [w64 (by omega)];omega)) (Lo O (AI O) (Lt ?_)))))))
 cases hw:u.walk R1 with
 | none =>
  rw [hw] at hdec
  refine Cy (Lo O (YP h0) (VL.nextNo H 0 O ro hS ht hdS hw O h7 O ?_))
  intro w a hF
  refine Lo O (Y.movT O) (Lo O (Y.ext O O) (Lo O (Y.ext O O) (Lo O (AI O) (Lo O (Y.asg O) (Lt (Cs (Cy (Lo O (Y.mov O) (Lo O (Y.neqNilT ifc_47 O O) (Lt ?_))))))))))
  refine CB O (fun _ => ?_) (fun h => nomatch h)
  refine Cy (Lo O (Y.mov O) (Lo O (Y.asg O) (Lt (Ct (thn_r (blk_r (thn_r (blk_r (thn_r ?_)))))))))
  exact Done.ret1 O O (.inr ⟨hdec,⟨_,rfl⟩,hfW.trans hF⟩)
 | some sr =>
 obtain ⟨s,R2⟩:=sr
 rw [hw] at hdec
 simp only at hdec
 have hs19:=T.walk_below hu19 hw
 refine Cy (Lo O (YP h0) (VL.nextOk H 0 O ro hS ht hdS hw O h7 O ?_))
 intro w H
 refine Lo O (Y.movT O) (Lo O (Y.ext O O) (Lo O (Y.ext O O) (Lo O (AI O) (Lo O (Y.asg O) (Lt (Cs (Cy (Lo O (Y.mov O) (Lo O (Y.neqNilF ifc_47 O O) (Lt (CB O (fun h => nomatch h) (fun _ => (Ck (tn (Cs (Cy (Lo O (YI O) (Lo O (Y.lss O O) ?_))))))))))))))))))
 refine Lt ?_
 by_cases hs16:s<16
 case pos =>
  rw [if_pos hs16] at hdec
  refine CT O (by omega) (Cy (Lo O (YS h1) (Lo O (YI h16) (Lo O (YI O) (Lo O (Y.ixS1 acc.length sl_22 O O O hlt) (VL.putI H 1 st_36 O O O (by rw [Nat.zero_add];exact rowK_get hlt) ?_))))))
  intro w H
  refine Lt ?_
  simp only [Nat.zero_add,List.set_cons_succ,List.set_cons_zero] at H
  rw [rowK_set (g:=fun j => (acc++[s]).getD j 0) (by rw [getD_snoc,if_pos rfl]) (fun j hj hne => by rw [getD_snoc,if_neg hne])] at H
  refine Cy (Lo O (YI h16) (Lo O (Y.add (r:=((acc.length+1:Nat):Int)) O O (by rw [w64 (by omega)];omega)) (Lo O (AI O) (Lt (Cs (Cy (Lo O (YI O) (Lo O (Y.neq O O) (Lt ?_)))))))))
  have hl1:(acc++[s]).length=acc.length+1:=by simp
  by_cases hs0:s≠0
  case pos =>
   rw [if_pos hs0] at hdec
   refine CT O (by omega) (Cr (Lo O (YI O) (Lo O (AI O) (Lt (Cx (thn_x (blk_x (tn ?_))))))))
   exact ⟨n - (acc++[s]).length,by omega,k,acc++[s],ms - 1,s,R2,rfl,by omega,by omega,hs16,by omega,hdec,h0,h1,h7,rfl,rfl,by rw [hl1];rfl,H⟩
  case neg =>
   rw [if_neg hs0] at hdec
   refine CF O (by omega) (Ck (tn (Cx (thn_x (blk_x (tn ?_))))))
   exact ⟨n - (acc++[s]).length,by omega,k,acc++[s],ms - 1,prev,R2,rfl,by omega,by omega,hprev,by omega,hdec,h0,h1,h7,rfl,h15,by rw [hl1];rfl,H⟩
 case neg =>
 rw [if_neg hs16] at hdec
 obtain ⟨j,hj⟩:∃ j,j=s - 16:=⟨_,rfl⟩
 have hj3:j<3:=by omega
 obtain ⟨hO3,hO11,hB7⟩:=repO_pos j hj3
 have hcB:=ro.gl.repB j hj3
 have hcO:=ro.gl.repO j hj3
 rw [← repB_eq] at hcB
 rw [← repO_eq] at hcO
 rw [← hj] at hdec
 generalize repB j=kb at *
 generalize repO j=ko at *
 refine CF O (by omega) (Ck (tn ?_))
 by_cases hRb:kb≤R2.length
 case neg =>
  rw [rd_no (by omega)] at hdec
  refine Cy (Lo O (YP h0) (Lo O (YI O) (Lo O (Y.sub (r:=(j:Int)) O O (by rw [wu32 (by omega)];omega)) (Lo O (Y.ixA1 j ar_178 O O O hj3) (Lo O (Y.ld ld_5 O (H.old hcB (hS.1.g _ O))) (Lo O (Y.cv int_5_36 O (wu32 (by omega))) (VL.readNo (k:=kb) H 0 O ro hS (by omega) (by omega) O O O ?_)))))))
  intro w a hF
  refine Lo O (Y.movT O) (Lo O (Y.ext O O) (Lo O (Y.ext O O) (Lo O (AI O) (Lo O (Y.asg O) (Lt (Cs (Cy (Lo O (Y.mov O) (Lo O (Y.neqNilT ifc_47 O O) (Lt ?_))))))))))
  refine CB O (fun _ => ?_) (fun h => nomatch h)
  refine Cy (Lo O (Y.mov O) (Lo O (Y.asg O) (Lt (Ct (thn_r (blk_r (thn_r (blk_r (thn_r ?_)))))))))
  exact Done.ret1 O O (.inr ⟨hdec,⟨_,rfl⟩,hfW.trans hF⟩)
 case pos =>
 rw [rd_ok hRb] at hdec
 simp only at hdec
 have hvb:val (R2.take kb)<128:=by
  have:=val_take_lt R2 kb
  have:2 ^ kb≤2 ^ 7:=Nat.pow_le_pow_right (by omega) hB7
  omega
 refine Cy (Lo O (YP h0) (Lo O (YI O) (Lo O (Y.sub (r:=(j:Int)) O O (by rw [wu32 (by omega)];omega)) (Lo O (Y.ixA1 j ar_178 O O O hj3) (Lo O (Y.ld ld_5 O (H.old hcB (hS.1.g _ O))) (Lo O (Y.cv int_5_36 O (wu32 (by omega))) (VL.readOk (k:=kb) H 0 O ro hS (by omega) hRb O O O ?_)))))))
 intro w H
 refine Lo O (Y.movT O) (Lo O (Y.ext O O) (Lo O (Y.ext O O) (Lo O (AI O) (Lo O (Y.asg O) (Lt ?_)))))
 generalize val (R2.take kb)=v at *
 generalize R2.drop kb=R3 at *
 refine Cs (Cy (Lo O (Y.mov O) (Lo O (Y.neqNilF ifc_47 O O) (Lt (CB O (fun h => nomatch h) (fun _ => (Ck (tn (Cy (Lo O (YI O) (Lo O (YI O) (Lo O (Y.sub (r:=(j:Int)) O O (by rw [wu32 (by omega)];omega)) (Lo O (Y.ixA1 j ar_178 O O O hj3) (Lo O (Y.ld ld_5 O (H.old hcO (hS.1.g _ O))) (Lo O (Y.cv int_5_36 O (wu32 (by omega))) (Lo O (Y.add (r:=((v+ko:Nat):Int)) O O (by rw [wu32 (by omega)];omega)) (Lo O (AI O) (Ln ?_))))))))))))))))))
 refine tn (Cs (Cy (Lo O (YI h16) (Lo O (YI O) (Lo O (Y.cv (r:=((v+ko:Nat):Int)) int_36_3 O (w64 (by omega))) (Lo O (Y.add (r:=((acc.length+(v+ko):Nat):Int)) O O (by rw [w64 (by omega)];omega)) (Lo O (YS h1) (Lo O (Y.len sl_22 O) (Lo O (Y.gtr O O) (Lt ?_))))))))))
 by_cases hbig:n<acc.length+(v+ko)
 case pos =>
  rw [if_pos hbig] at hdec
  refine CT O (by omega) (Cy (Lo O (Y.ld ld_47 O (H.old hae (hS.1.g _ O))) (Lo O (Y.asg O) (Lt (Ct (thn_r (blk_r (thn_r (blk_r (thn_r ?_))))))))))
  exact Done.ret1 O O (.inr ⟨hdec,⟨_,rfl⟩,hfW.trans H.frm⟩)
 case neg =>
 rw [if_neg hbig] at hdec
 refine CF O (by omega) (Ck (tn (Cy (Lo O (AI O) (Lt (Cs (Cy (Lo O (YI O) (Lo O (Y.eql O O) (Lt ?_))))))))))
 simp only [List.set_cons_zero] at H
 obtain ⟨rep,hrep⟩:∃ rep,rep=v+ko:=⟨_,rfl⟩
 obtain ⟨cl,hcl⟩:∃ cl,cl=if s=16 then prev else 0:=⟨_,rfl⟩
 rw [← hrep,← hcl] at hdec
 refine VC.join (fun ρ w' => ρ 0=.pointer (some ⟨σ.d,0,none⟩)∧ρ 1=.slice (some ⟨bd,0,none⟩) n n∧ρ 7=.pointer (some ⟨b7,0,none⟩)∧ρ 9=.int .i64 ((ms - 1:Nat):Int)∧ρ 15=.int .u32 (prev:Nat)∧ρ 16=.int .i64 (acc.length:Nat) ∧
  ρ 19=.int .u32 (rep:Nat)∧ρ 20=.int .u32 (cl:Nat)∧St w2 [σ.d,σ.rd,bd] [decR σ R3,blkR bd (rowK .u32 (fun j => acc.getD j 0) n) 36] w') ?_ ?_
 case refine_1 =>
  by_cases he16:s=16
  case pos =>
   rw [if_pos he16] at hcl
   refine CT O (by omega) (Cr (Lo O (YI h15) (Lo O (AI O) (Lt ?_))))
   exact ⟨h0,h1,h7,rfl,h15,h16,by rw [hrep];rfl,by rw [hcl];rfl,H⟩
  case neg =>
   rw [if_neg he16] at hcl
   refine CF O (by omega) (Ck (tn ?_))
   exact ⟨h0,h1,h7,rfl,h15,h16,by rw [hrep];rfl,by rw [hcl];rfl,H⟩
 case refine_2 =>
 have hrep0:3≤rep∧acc.length+rep≤n:=by omega
 clear H h0 h1 h7 h9 h15 h16 hrep hcl hbig
 clear ρ
 rintro ρ w5 ⟨h0,h1,h7,h9,h15,h16,h19,h20,H⟩
 refine Cb ?_
 refine Cl (fun m ρ w' => ∃ q:Nat,m=rep - q∧q≤rep∧ρ 0=.pointer (some ⟨σ.d,0,none⟩)∧ρ 1=.slice (some ⟨bd,0,none⟩) n n∧ρ 7=.pointer (some ⟨b7,0,none⟩)∧ρ 9=.int .i64 ((ms - 1:Nat):Int)∧ρ 15=.int .u32 (prev:Nat)∧ρ 16=.int .i64 ((acc.length+q:Nat):Int) ∧
  ρ 19=.int .u32 ((rep - q:Nat):Int)∧ρ 20=.int .u32 (cl:Nat)∧St w2 [σ.d,σ.rd,bd] [decR σ R3,blkR bd (rowK .u32 (fun j => (acc++List.replicate q cl).getD j 0) n) 36] w') rep
  ⟨0,rfl,by omega,h0,h1,h7,h9,h15,h16,h19,h20,by simpa using H⟩ ?_
 clear H h0 h1 h7 h9 h15 h16 h19 h20
 clear ρ
 rintro m ρ w6 ⟨q,rfl,hq,h0,h1,h7,h9,h15,h16,h19,h20,H⟩
 refine Cs (Cy (Lo O (YI h19) (Lo O (Y.gtr O O) (Lt ?_))))
 by_cases hqr:q<rep
 case pos =>
  have hlq:(acc++List.replicate q cl).length=acc.length+q:=by simp
  refine CT O (by omega) (Ck (tn (Cs (Cb (Cy (Lo O (YS h1) (Lo O (YI h16) (Lo O (YI h20) (Lo O (Y.ixS1 (acc.length+q) sl_22 O O O (by omega)) (VL.putI H 1 st_36 O O O (by rw [Nat.zero_add];exact rowK_get (by omega)) ?_))))))))))
  intro w H
  refine Lt ?_
  simp only [Nat.zero_add,List.set_cons_succ,List.set_cons_zero] at H
  rw [rowK_set (g:=fun j => (acc++List.replicate (q+1) cl).getD j 0) (by rw [List.replicate_succ',← List.append_assoc,getD_snoc,hlq,if_pos rfl]) (fun j hj hne => by rw [List.replicate_succ',← List.append_assoc,getD_snoc,hlq,if_neg hne])] at H
  refine Cr (Lo O (YI h16) (Lo O (Y.add (r:=((acc.length+(q+1):Nat):Int)) O O (by rw [w64 (by omega)];omega)) (Lo O (AI O) (Ln (blk_n (tn (Cr (Lo O (YI h19) (Lo O (Y.sub (r:=((rep - (q+1):Nat):Int)) O O (by rw [wu32 (by omega)];omega)) (Lo O (AI O) (Lt ?_)))))))))))
  exact ⟨rep - (q+1),by omega,q+1,rfl,by omega,h0,h1,h7,h9,h15,rfl,rfl,h20,H⟩
 case neg =>
 obtain rfl:q=rep:=by omega
 have hlq:(acc++List.replicate q cl).length=acc.length+q:=by simp
 refine CF O (by omega) (Cx (thn_x (thn_x (blk_x (blk_n (tn ?_))))))
 exact ⟨n - (acc++List.replicate q cl).length,by omega,k,acc++List.replicate q cl,ms - 1,prev,R3,rfl,by omega,by omega,hprev,by omega,hdec,h0,h1,h7,h9,h15,by rw [hlq];exact h16,H⟩
end Go.Proofs.YtinkhckpckfajaaDoor
namespace Go.Proofs.YtinkhckpckfajaaDoor
abbrev Par (α:Type):=Bits→Option (α × Bits)
def pb {α β:Type} (p:Par α) (f:α→Par β):Par β:=fun R => match p R with
 | none => none
 | some (v,R1) => f v R1
def ret {α:Type} (v:α):Par α:=fun R => some (v,R)
def no {α:Type}:Par α:=fun _ => none
section
variable {α β:Type} {p:Par α} {f:α→Par β} {R R1:Bits} {v:α}
theorem pb_ok (h:p R=some (v,R1)):pb p f R=f v R1:=by unfold pb;rw [h]
theorem pb_no (h:p R=none):pb p f R=none:=by unfold pb;rw [h]
theorem pb_assoc {γ:Type} {g:β→Par γ} (p:Par α) (f:α→Par β) (R:Bits):pb (pb p f) g R=pb p (fun v => pb (f v) g) R:=by
 unfold pb
 cases p R with
 | none => rfl
 | some q => rfl
def optR (o:Option α):Par α:=match o with
 | some v => Go.Proofs.YtinkhckpckfajaaDoor.ret v
 | none => no
def Mono (p:Par α):Prop:=∀ R v R' X,p R=some (v,R')→p (R++X)=some (v,R'++X)
theorem Mono.pb (hp:Mono p) (hf:∀ v,Mono (f v)):Mono (pb p f):=by
 intro R u R' X h
 cases hR:p R with
 | none => rw [pb_no hR] at h;cases h
 | some q =>
  obtain ⟨v,R1⟩:=q
  rw [pb_ok hR] at h
  rw [pb_ok (hp _ _ _ X hR)]
  exact hf v _ _ _ X h
theorem Mono.ret (v:α):Mono (ret v):=fun R u R' X h => by
 simp only [Go.Proofs.YtinkhckpckfajaaDoor.ret,Option.some.injEq,Prod.mk.injEq] at h ⊢
 obtain ⟨rfl,rfl⟩:=h
 exact ⟨rfl,rfl⟩
theorem Mono.no:Mono (no:Par α):=fun R u R' X h => by cases h
theorem Mono.optR (o:Option α):Mono (optR o):=by cases o <;> first | exact Mono.no | exact Mono.ret _
theorem Mono.ite {c:Prop} [Decidable c] {q:Par α} (hp:Mono p) (hq:Mono q):Mono (if c then p else q):=by split <;> assumption
theorem Mono.map {g:α→β} (hp:Mono p):Mono fun R => (p R).map fun q => (g q.1,q.2):=by
 intro R u R' X h
 simp only [Option.map_eq_some_iff] at h ⊢
 obtain ⟨⟨v,R1⟩,h1,h2⟩:=h
 simp only [Prod.mk.injEq] at h2
 obtain ⟨rfl,rfl⟩:=h2
 exact ⟨_,hp _ _ _ X h1,rfl⟩
theorem Mono.eq {q:Par α} (hp:Mono p) (h:∀ R,q R=p R):Mono q:=by
 have:q=p:=funext h
 exact this ▸ hp
theorem Mono.cut (hp:Mono p) {X Z:Bits} (h:p (X++Z)=some (v,[])) (hZ:Z≠[]):p X=none:=by
 cases hX:p X with
 | none => rfl
 | some q =>
  obtain ⟨u,R'⟩:=q
  have:=hp _ _ _ Z hX
  rw [h] at this
  simp only [Option.some.injEq,Prod.mk.injEq] at this
  obtain ⟨_,h2⟩:=this
  have:=congrArg List.length h2
  simp only [List.length_nil,List.length_append] at this
  exact absurd (List.length_eq_zero_iff.1 (by omega:Z.length=0)) hZ
def Rds (p:Par α) (X:Bits) (v:α):Prop:=∀ Y,p (X++Y)=some (v,Y)
theorem Rds.pb {X Z:Bits} {u:β} (h:Rds p X v) (k:Rds (f v) Z u):Rds (pb p f) (X++Z) u:=fun Y => by
 rw [List.append_assoc,pb_ok (h _)]
 exact k Y
theorem Rds.ret (v:α):Rds (ret v) [] v:=fun Y => rfl
theorem Rds.eq {q:Par α} {X:Bits} (h:Rds p X v) (he:∀ R,q R=p R):Rds q X v:=fun Y => by rw [he];exact h Y
theorem Rds.nil {X:Bits} (h:Rds p X v):p X=some (v,[]):=by have:=h [];rwa [List.append_nil] at this
end
theorem rd_mono (n:Nat):Mono (rd n):=by
 intro R v R' X h
 unfold rd at h ⊢
 split at h
 ·rename_i hn
  simp only [Option.some.injEq,Prod.mk.injEq] at h
  obtain ⟨rfl,rfl⟩:=h
  rw [if_pos (by rw [List.length_append];omega),List.take_append_of_le_length hn,List.drop_append_of_le_length hn]
 ·cases h
theorem walk_mono (t:T):Mono t.walk:=fun R v R' X h => T.walk_more h X
theorem clMax_eq (n:Nat) (R:Bits):clMax n R=pb (rd 1) (fun u => if u=0 then ret n else pb (rd 3) fun k => pb (rd (2+2 * k)) fun ms => if n<ms+2 then no else ret (ms+2)) R:=by
 unfold clMax
 cases h1:rd 1 R with
 | none => rw [pb_no h1]
 | some q =>
  obtain ⟨u,R1⟩:=q
  rw [pb_ok h1]
  simp only
  by_cases hu:u=0
  ·rw [if_pos hu,if_pos hu];rfl
  ·rw [if_neg hu,if_neg hu]
   cases h2:rd 3 R1 with
   | none => rw [pb_no h2]
   | some q =>
    obtain ⟨k,R2⟩:=q
    rw [pb_ok h2]
    simp only
    cases h3:rd (2+2 * k) R2 with
    | none => rw [pb_no h3]
    | some q =>
     obtain ⟨ms,R3⟩:=q
     rw [pb_ok h3]
     simp only
     split <;> rfl
theorem clMax_mono (n:Nat):Mono (clMax n):=Mono.eq ((rd_mono 1).pb fun u => Mono.ite (Mono.ret n) ((rd_mono 3).pb fun k => (rd_mono _).pb fun ms => Mono.ite Mono.no (Mono.ret _))) (clMax_eq n)
theorem clLoop_eq (t:T) (n k:Nat) (acc:List Nat) (ms prev:Nat) (R:Bits):clLoop t n (k+1) acc ms prev R =
  (if n≤acc.length then ret acc else if ms=0 then ret (acc++List.replicate (n - acc.length) 0) else pb t.walk fun s =>
   if s<16 then clLoop t n k (acc++[s]) (ms - 1) (if s≠0 then s else prev) else pb (rd (repB (s - 16))) fun v =>
    if n<acc.length+(v+repO (s - 16)) then no else clLoop t n k (acc++List.replicate (v+repO (s - 16)) (if s=16 then prev else 0)) (ms - 1) prev) R:=by
 rw [clLoop_succ]
 by_cases hn:n≤acc.length
 ·rw [if_pos hn,if_pos hn];rfl
 rw [if_neg hn,if_neg hn]
 by_cases hm:ms=0
 ·rw [if_pos hm,if_pos hm];rfl
 rw [if_neg hm,if_neg hm]
 cases h1:t.walk R with
 | none => rw [pb_no h1]
 | some q =>
  obtain ⟨s,R1⟩:=q
  rw [pb_ok h1]
  simp only
  by_cases h16:s<16
  ·rw [if_pos h16,if_pos h16]
  rw [if_neg h16,if_neg h16]
  cases h2:rd (repB (s - 16)) R1 with
  | none => rw [pb_no h2]
  | some q =>
   obtain ⟨v,R2⟩:=q
   rw [pb_ok h2]
   simp only
   split <;> rfl
theorem clLoop_mono (t:T) (n:Nat):∀ (k:Nat) (acc:List Nat) (ms prev:Nat),Mono (clLoop t n k acc ms prev)
 | 0,acc,ms,prev => Mono.eq (Mono.ret acc) fun R => rfl
 | k+1,acc,ms,prev => Mono.eq (Mono.ite (Mono.ret _) (Mono.ite (Mono.ret _) ((walk_mono t).pb fun s => Mono.ite (clLoop_mono t n k _ _ _) ((rd_mono _).pb fun v => Mono.ite Mono.no (clLoop_mono t n k _ _ _))))) (clLoop_eq t n k acc ms prev)
theorem decCL_eq (n:Nat) (ccl:List Nat) (R:Bits):decCL n ccl R=(match buildT ccl with
 | none => no
 | some t => pb (clMax n) fun ms => clLoop t n n [] ms 8) R:=by
 unfold decCL
 cases buildT ccl with
 | none => rfl
 | some t =>
  simp only
  cases h:clMax n R with
  | none => rw [pb_no h]
  | some q => obtain ⟨ms,R1⟩:=q;rw [pb_ok h]
theorem decCL_mono (n:Nat) (ccl:List Nat):Mono (decCL n ccl):=by
 refine Mono.eq ?_ (decCL_eq n ccl)
 cases buildT ccl with
 | none => exact Mono.no
 | some t => exact (clMax_mono n).pb fun ms => clLoop_mono t n n [] ms 8
end Go.Proofs.YtinkhckpckfajaaDoor
namespace Go.Proofs.YtinkhckpckfajaaDoor
open Go
def ord (i:Nat):Nat:=tab_codeLengthCodeOrder.getD i 0
theorem ord_lt:∀ i,i<19→ord i<19:=by decide
theorem ord_eq (i:Nat):ord i=tab_codeLengthCodeOrder.getD i 0:=rfl
attribute [irreducible] ord
def cclLoop:Nat→Nat→(Nat→Nat)→Par (Nat→Nat)
 | 0,i,f => ret f
 | k+1,i,f => pb (rd 3) fun v => cclLoop k (i+1) (fun j => if j=ord i then v else f j)
def decSimple (A:Nat):Par T:=pb (rd 1) fun ns => pb (rd 1) fun f => pb (rd (7 * f+1)) fun s0 =>
 if ns=1 then pb (rd 8) fun s1 => optR (simpleT 2 s0 s1 A) else optR (simpleT 1 s0 0 A)
def decNormal (A:Nat):Par T:=pb (rd 4) fun nc => if 19<nc+4 then no else pb (cclLoop (nc+4) 0 (fun _ => 0)) fun f => pb (decCL A ((List.range 19).map f)) fun ls => optR (buildT ls)
def decHT (A:Nat):Par T:=pb (rd 1) fun u => if u=0 then decNormal A else decSimple A
theorem cclLoop_mono:∀ (k i:Nat) (f:Nat→Nat),Mono (cclLoop k i f)
 | 0,i,f => Mono.ret f
 | k+1,i,f => (rd_mono 3).pb fun v => cclLoop_mono k _ _
theorem decHT_mono (A:Nat):Mono (decHT A) :=
 (rd_mono 1).pb fun u => Mono.ite
  ((rd_mono 4).pb fun nc => Mono.ite Mono.no ((cclLoop_mono _ _ _).pb fun f => (decCL_mono _ _).pb fun ls => Mono.optR _))
  ((rd_mono 1).pb fun ns => (rd_mono 1).pb fun f => (rd_mono _).pb fun s0 => Mono.ite ((rd_mono 8).pb fun s1 => Mono.optR _) (Mono.optR _))
end Go.Proofs.YtinkhckpckfajaaDoor
