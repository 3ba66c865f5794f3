/-
  A picture is written and read: part 8 of 13 (Tokens, Normal, WTree, Put, PixP, PutSym).
-/
import Derived.Test.YtmgemcffhbnpfaaGreatDoorA07
set_option linter.unusedVariables false
set_option linter.unusedSimpArgs false
set_option maxRecDepth 100000
set_option maxHeartbeats 4000000
namespace Go.Proofs.YtmgemcffhbnpfaaGreatDoor
open Go
def zx (p:Nat) (s:Int) (f l g:Nat):List Value:=[.int .u32 (p:Nat),.int .i64 s,iT f,iT l,iT g]
theorem D6 (p:Nat) (s:Int) (f l g:Nat):∀ u ∈ zx p s f l g,u.oneCell'=true:=by
 intro u hu
 simp only [zx,List.mem_cons,List.not_mem_nil,or_false] at hu
 rcases hu with rfl | rfl | rfl | rfl | rfl <;> rfl
def bN (ts:List (Tk × Nat)):List Value:=ts.flatMap fun t => t.1.cells t.2
theorem yd (ts:List (Tk × Nat)) (t:Tk × Nat):bN (ts++[t])=bN ts++t.1.cells t.2:=by simp [bN]
structure wQ (w cc:Nat) (grp:Nat→Nat) (px:List Nat) (ts:List (Tk × Nat)) (at_:Nat):Prop where
 go:∀ rest,tE w cc grp px at_ rest→tE w cc grp px 0 (ts++rest)
 fits:∀ t ∈ ts,t.1.fits∧∃ i,i<px.length∧t.2=grp i∧t.1.Ok w cc px i
 len:ts.length≤at_
theorem wQ.snoc {w cc:Nat} {grp:Nat→Nat} {px:List Nat} {ts:List (Tk × Nat)} {at_:Nat} {t:Tk} (h:wQ w cc grp px ts at_) (hl:at_<px.length) (ht:t.Ok w cc px at_) (hf:t.fits):wQ w cc grp px (ts++[(t,grp at_)]) (at_+t.len):=by
 refine ⟨fun rest hr => ?_,fun q hq => ?_,?_⟩
 ·rw [List.append_assoc]
  exact h.go _ ⟨hl,O,ht,hr⟩
 ·rcases List.mem_append.1 hq with hq | hq
  ·exact h.fits q hq
  ·rw [List.mem_singleton] at hq
   subst hq
   exact ⟨hf,at_,hl,O,ht⟩
 ·have:=ht.pos
  have:=h.len
  rw [List.length_append,List.length_singleton]
  omega
section
variable {w0 w:World} {S:List Nat} {l:List e_} {cb B k:Nat} {v:Value}
variable {nn:Nat} {ops:Array Oper} {Q:cY} {rest:List Oper} {ρ:dK} {ty:TypeId} {pos:String} {after:Array Edge} {x y z:Operand} {d:Nat} {ts:Array TypeId}
theorem Df (H:St w0 S l w) (i:Nat) (hi:l[i]?=some (aa cb (dt v k) 39)) (hw:jA B v w) (hB:B≠cb) (hk:k≤4611686018427300000) (far wide:Nat) (hf1:1≤far) (hf2:far≤1000000) (hw2:wide≤1000000)
  (hd:Nat.blt d nn=true) (hx:ev ρ x=iT far) (hy:ev ρ y=iT wide) (hz:ev ρ z=pT cb)
  (h:∀ w' c k',1≤c→c≤1048576→eX wide c=far→k≤k'→k'≤k+2→St w0 S (l.set i (aa cb (dt v k') 39)) w'→VL Tryz.prog nn ops Q rest (eW ρ d (iT c)) w') :
  VL Tryz.prog nn ops Q (⟨some d,.call ⟨.value (.func 54),#[x,y,z],ts⟩,ty,pos,after,none⟩ :: rest) ρ w :=
 aS hd J8 (BV w far wide hf1 hf2 hw2 cb B k v (H.blk hi) hw hB hk) (by simp [hx,hy,hz]) fun e w' ⟨c,k',he,h1,h2,h3,hbc,hk1,hk2,hf⟩ => ⟨_,he,h _ c k' h1 h2 h3 hk1 hk2 (H.turnB i hi hf hbc)⟩
end
def gz (bits:Nat) (px:List Nat) (k:Nat):Nat:=if bits=0 then 0 else dv bits px k
theorem DI (W:World) (pb po pc:Nat) (px:List Nat) (hr:l7 W .u32 pb po px) (h32:∀ p ∈ px,p<2 ^ 32) (hn:px.length≤4096) (hpc:px.length≤pc) (wide bits:Nat) (hw1:1≤wide) (hw2:wide≤16384) (hbits:bits≤11)
  (cb B k:Nat) (v:Value) (hb:ff W cb (dt v k) 39) (hw:jA B v W) (hB:B≠cb) (hk:k≤4611686018427000000) (hpb:pb≠cb)
  (G:Nat→Nat) (gf:FuncId) (fs cs:List Value) (he:fZ Tryz.prog gf) (hG:∀ w' i,cf [cb] W w'→i<px.length→Calls Tryz.prog gf (fs++[Value.int .i64 (i:Nat)]++cs).toArray w' fun e w'' => e=.returned (iT (G i))∧cf [] w' w'') :
  Calls Tryz.prog 34 #[.slice (some ⟨pb,po,none⟩) px.length pc,iT wide,iT bits,.func (.func gf) fs.toArray cs.toArray,pT cb] W fun e w' => ∃ ts a cap k',e=.returned (.slice a ts.length cap) ∧
   wQ wide bits G px ts px.length∧St W [cb] [aA a cap 88 5 ts.length (bN ts),aa cb (dt v k') 39] w'∧k≤k'∧k'≤k+10 * px.length:=by
 have H:=gQ hb
 have hS:pb ∉ [cb]:=by simpa using hpb
 have hcbB:∀ x ∈ [cb],B≠x:=by simpa using hB
 have hpow:2 ^ bits≤2 ^ 11:=Nat.pow_le_pow_right ω hbits
 have hpow1:1≤2 ^ bits:=Nat.two_pow_pos _
 obtain ⟨gv,hgv⟩:∃ gv,gv=Value.func (.func gf) fs.toArray cs.toArray:=⟨_,rfl⟩
 rw [← hgv]
 refine enter (m:=164) Tryz.func34 O Tryz.ntmps34 O (Cy (bI O (Lt (Cy (ai O (Lp (ed (r:=((2 ^ bits:Nat):Int)) O O ω (by show IntKind.i64.wrap (((1:Nat):Int) * _)=_;rw [x7 ⟨ω,ω⟩,Nat.one_mul])) (iJ H gj (2 ^ bits) (2 ^ bits) O O O O (Nat.le_refl _) ω ω O ?_)))))))
 intro w ab hn11 hab H
 rw [dz,fK] at H
 refine gS O (Lt ?_)
 replace H:=H.vec0 88 5
 replace H:St W [cb] [aA none 0 88 5 0 [],aa ab (bM .u32 (gz bits (px.take 0)) (2 ^ bits)) 36,aa cb (dt v k) 39] w:=by
  rw [aW (g:=fun _ => 0)]
  ·exact H
  ·intro j hj
   unfold gz
   split
   ·rfl
   ·rw [List.take_zero];rfl
 refine Cy (bI O (Lt (Cs (Cy (az O (Lt ?_))))))
 refine aH (fun ρ w' => ∃ ts a cap kk,ρ 12=.slice a ts.length cap∧wQ wide bits G px ts px.length∧k≤kk∧kk≤k+10 * px.length ∧
  St W [cb] [aA a cap 88 5 ts.length (bN ts),aa cb (dt v kk) 39] w') ?_ ?_
 case refine_1 =>
  refine Cb ?_
  refine Cl (fun mm ρ w' => ∃ i ts a cap kk,i≤px.length∧mm=px.length - i∧wQ wide bits G px ts i∧k≤kk∧kk≤k+10 * i ∧
   ρ 0=.slice (some ⟨pb,po,none⟩) px.length pc∧ρ 1=iT wide∧ρ 2=iT bits∧ρ 3=gv∧ρ 4=pT cb∧ρ 11=.slice (aT ab) (2 ^ bits:Nat) (2 ^ bits:Nat)∧ρ 12=.slice a ts.length cap∧ρ 13=iT i ∧
   St W [cb] [aA a cap 88 5 ts.length (bN ts),aa ab (bM .u32 (gz bits (px.take i)) (2 ^ bits)) 36,aa cb (dt v kk) 39] w') px.length
   ⟨0,[],none,0,k,ω,rfl,⟨fun rest h => h,by simp,by simp⟩,ω,ω,rfl,rfl,rfl,rfl,rfl,rfl,rfl,rfl,H⟩ ?_
  clear H
  rintro mm ρ w5 ⟨i,ts,a,cap,kk,hi,hmm,hT,hk1,hk2,r0,r1,r2,r3,r4,r11,r12,r13,H⟩
  refine Cs (Cy (ai r13 (bU r0 (bG aZ O (bP O O (Lt ?_))))))
  by_cases hlt:i<px.length
  case neg =>
   obtain rfl:i=px.length:=ω
   refine CF O ω (Cx (ax (ax (br (tn ?_)))))
   exact ⟨ts,a,cap,kk,r12,hT,hk1,hk2,H.sub [0,2] O δ⟩
  have hcell:=hr i hlt
  obtain ⟨p,hp⟩:∃ p,p=px[i]:=⟨_,rfl⟩
  have hp32:p<2 ^ 32:=by rw [hp];exact h32 _ (List.getElem_mem hlt)
  have hpg:px[i]?=some p:=by rw [hp];exact List.getElem?_eq_getElem hlt
  rw [← hp] at hcell
  have htl:=hT.len
  refine CT O ω (Ck (tn (Cb (Cs ?_))))
  refine aH (fun ρ w' => ∃ b,ρ 0=.slice (some ⟨pb,po,none⟩) px.length pc∧ρ 1=iT wide∧ρ 2=iT bits∧ρ 3=gv∧ρ 4=pT cb∧ρ 11=.slice (aT ab) (2 ^ bits:Nat) (2 ^ bits:Nat)∧ρ 12=.slice a ts.length cap∧ρ 13=iT i∧ρ 14=pT b ∧
   St W [cb] [aa b (zx p (-1) 0 0 (G i)) 88,aA a cap 88 5 ts.length (bN ts),aa ab (bM .u32 (gz bits (px.take i)) (2 ^ bits)) 36,aa cb (dt v kk) 39] w') ?_ ?_
  case refine_1 =>
   refine VC.held ((cf [cb] W)) aJ (by with_reducible repeat (first | refine fB ?_ | refine eP.blk ?_ | refine fy ?_ | refine dP ?_ | exact eP.done)) ?_
   intro w hsame
   replace H:=H.same hsame
   refine Ht 0 O κ κ κ O H.frm (fun w hI => YS r0) (Ht 1 O κ κ κ O H.frm (fun w hI => YI r13) (Ht 2 O κ κ κ O H.frm (fun w hI => ci i aZ O O O hlt) (Ht 3 O κ κ κ O H.frm (fun w hI => ef bD O (hI.cell hcell hS)) (Ht 4 O κ κ κ O H.frm (fun w hI => vo r3) (Ht 5 O κ κ κ O H.frm (fun w hI => YI r13) ?_)))))
   refine oE [0,1,2,3,4,5] [6,7,8] [(7,[6])] 3 O κ δ κ
    (fun D ρ w' => (∃ b,(8 ∉ D→ρ 14=pT b)∧St W [cb] (zl D 8 (aa b [.int .u32 0,.int .i64 0,.int .i64 0,.int .i64 0,.int .i64 0] 88)++[aA a cap 88 5 ts.length (bN ts),aa ab (bM .u32 (gz bits (px.take i)) (2 ^ bits)) 36,aa cb (dt v kk) 39]) w') ∧
     (6 ∉ D→ρ 34=iT (G i))∧(7 ∉ D→ρ 35=.agg (zx p (-1) 0 0 (G i)).toArray)∧ρ 31=.int .u32 (p:Nat)∧ρ 32=gv∧ρ 33=iT i ∧
     ρ 0=.slice (some ⟨pb,po,none⟩) px.length pc∧ρ 1=iT wide∧ρ 2=iT bits∧ρ 3=gv∧ρ 4=pT cb∧ρ 11=.slice (aT ab) (2 ^ bits:Nat) (2 ^ bits:Nat)∧ρ 12=.slice a ts.length cap∧ρ 13=iT i)
    (fun D ρ w' h => by obtain ⟨⟨b,_,h⟩,_⟩:=h;exact h.frm) ?_ ?_ ?_
   ·exact ⟨⟨0,fun h => absurd δ h,H⟩,fun h => absurd δ h,fun h => absurd δ h,O,O,O,r0,r1,r2,r3,r4,r11,r12,r13⟩
   ·clear H r0 r1 r2 r3 r4 r11 r12 r13
    rintro D j ρ w' hj hjD hpre hDn ⟨⟨b,h8,H⟩,h6,h7,r31,r32,r33,r0,r1,r2,r3,r4,r11,r12,r13⟩
    have ne:∀ {x y:Nat},x≠y→(x ∈ D.erase y ↔ x ∈ D):=fun hxy => List.mem_erase_of_ne hxy
    simp only [List.mem_cons,List.not_mem_nil,or_false] at hj
    rcases hj with rfl | rfl | rfl
    ·refine GR O O he (fs:=fs) (cs:=cs) (by show ρ 32=_;rw [r32,hgv]) (hG w' i H.frm hlt) (by simp [ev,r33]) ?_
     rintro e w2 ⟨he2,hf2⟩
     replace H:=H.quiet hf2
     exact ⟨_,he2,⟨b,by rw [ne δ];exact h8,by rw [cj δ];exact H⟩,fun _ => rfl,by rw [ne δ];exact h7,r31,r32,r33,r0,r1,r2,r3,r4,r11,r12,r13⟩
    ·have h34:=h6 (hpre (7,[6]) (by simp) rfl 6 (by simp))
     refine pp O O (iF (ps:=[(0,.int .u32 (p:Nat)),(1,.int .i64 (-1)),(4,iT (G i))]) (zx p (-1) 0 0 (G i)) (by simp [ev,r31,h34]) κ) ?_
     exact ⟨⟨b,by rw [ne δ];exact h8,by rw [cj δ];exact H⟩,by rw [ne δ];exact h6,fun _ => rfl,r31,r32,r33,r0,r1,r2,r3,r4,r11,r12,r13⟩
    ·rw [iy hjD] at H
     refine wE O H CK O ?_
     intro w2 b2 _ _ H
     exact ⟨⟨b2,fun _ => rfl,by rw [l8 hDn];exact H⟩,by rw [ne δ];exact h6,by rw [ne δ];exact h7,r31,r32,r33,r0,r1,r2,r3,r4,r11,r12,r13⟩
   clear H r0 r1 r2 r3 r4 r11 r12 r13
   rintro ρ w6 ⟨⟨b,h8,H⟩,h6,h7,r31,r32,r33,r0,r1,r2,r3,r4,r11,r12,r13⟩
   have r14:=h8 (by simp)
   have r35:=h7 (by simp)
   rw [j5] at H
   refine DU 9 O κ H 0 Cg r14 O r35 O O (D6 _ _ _ _ _) ?_
   intro w H
   refine g7 κ (tn ?_)
   exact ⟨b,r0,r1,r2,r3,r4,r11,r12,r13,r14,H⟩
  case refine_2 =>
  clear H r0 r1 r2 r3 r4 r11 r12 r13
  rintro ρ w6 ⟨b14,r0,r1,r2,r3,r4,r11,r12,r13,r14,H⟩
  refine Cy (az O (Lt (Cs (Cs ?_))))
  refine aH (fun ρ w' => ∃ (T:Bool) (k1:Nat),ρ 42=.bool T∧(T=true→0<i)∧kk≤k1∧k1≤kk+1∧ρ 0=.slice (some ⟨pb,po,none⟩) px.length pc∧ρ 1=iT wide∧ρ 2=iT bits∧ρ 3=gv∧ρ 4=pT cb∧ρ 11=.slice (aT ab) (2 ^ bits:Nat) (2 ^ bits:Nat)∧ρ 12=.slice a ts.length cap∧ρ 13=iT i∧ρ 14=pT b14∧ρ 15=iT 1 ∧
   St W [cb] [aa b14 (zx p (-1) 0 0 (G i)) 88,aA a cap 88 5 ts.length (bN ts),aa ab (bM .u32 (gz bits (px.take i)) (2 ^ bits)) 36,aa cb (dt v k1) 39] w') ?_ ?_
  case refine_1 =>
   by_cases hi0:0<i
   case neg =>
    refine Cr (ai r13 (Lp (bE (b:=false) O O (decide_eq_false ω)) (dh O (Lk (Lk (Lk (ay O O (Lt ?_))))))))
    exact ⟨false,kk,O,by simp,ω,ω,r0,r1,r2,r3,r4,r11,r12,r13,r14,O,H⟩
   refine Cr (ai r13 (Lp (bE (b:=true) O O (decide_eq_true ω)) (dh O (Lg (YP r4) (kP H 3 O hw hcbB hB 3 ω ω ω O O O O O O ?_)))))
   intro w rc hrc H
   simp only [List.set] at H
   refine Lg (e9 O O) (ay O O (Lt ?_))
   exact ⟨_,kk+1,O,fun _ => hi0,ω,ω,r0,r1,r2,r3,r4,r11,r12,r13,r14,O,H⟩
  case refine_2 =>
  clear H r0 r1 r2 r3 r4 r11 r12 r13 r14
  rintro ρ w6 ⟨T,k1,r42,hT1,hk3,hk4,r0,r1,r2,r3,r4,r11,r12,r13,r14,r15,H⟩
  refine aH (fun ρ w' => ∃ f l m k2,((f=0∧l=0∧m=1)∨(l=m∧(Tk.cp p f l).Ok wide bits px i))∧k1≤k2∧k2≤k1+6∧ρ 0=.slice (some ⟨pb,po,none⟩) px.length pc∧ρ 1=iT wide∧ρ 2=iT bits∧ρ 3=gv∧ρ 4=pT cb∧ρ 11=.slice (aT ab) (2 ^ bits:Nat) (2 ^ bits:Nat)∧ρ 12=.slice a ts.length cap∧ρ 13=iT i∧ρ 14=pT b14∧ρ 15=iT m ∧
   St W [cb] [aa b14 (zx p (-1) f l (G i)) 88,aA a cap 88 5 ts.length (bN ts),aa ab (bM .u32 (gz bits (px.take i)) (2 ^ bits)) 36,aa cb (dt v k2) 39] w') ?_ ?_
  case refine_1 =>
   cases T
   case false =>
    refine Cq r42 (Ck (tn ?_))
    exact ⟨0,0,1,k1,.inl ⟨O,O,O⟩,ω,ω,r0,r1,r2,r3,r4,r11,r12,r13,r14,r15,H⟩
   have hi0:=hT1 rfl
   refine Cp r42 ?_
   refine Cy (bH r4 (ai r13 (gh H 3 O hw hcbB hB i ω ω ω O O O ?_)))
   intro w rf hrf H
   refine ao O O (ck (a:=1) ω) (az O (Lt (Cs (Cy (bH r4 (gh H 3 O hw hcbB hB 2 ω ω ω O O O ?_))))))
   intro w r2c hr2c H
   simp only [List.set] at H
   refine bF O O (Lt ?_)
   refine aH (fun ρ w' => ∃ far k2,1≤far∧far≤i∧k1≤k2∧k2≤k1+3∧ρ 0=.slice (some ⟨pb,po,none⟩) px.length pc∧ρ 1=iT wide∧ρ 2=iT bits∧ρ 3=gv∧ρ 4=pT cb∧ρ 11=.slice (aT ab) (2 ^ bits:Nat) (2 ^ bits:Nat)∧ρ 12=.slice a ts.length cap∧ρ 13=iT i∧ρ 14=pT b14∧ρ 15=iT 1∧ρ 16=iT far ∧
    St W [cb] [aa b14 (zx p (-1) 0 0 (G i)) 88,aA a cap 88 5 ts.length (bN ts),aa ab (bM .u32 (gz bits (px.take i)) (2 ^ bits)) 36,aa cb (dt v k2) 39] w') ?_ ?_
   case refine_1 =>
    by_cases h0:(r2c:Int)=0
    case neg =>
     refine CF O h0 (Ck (tn ?_))
     exact ⟨1+rf,k1+1+1,ω,ω,ω,ω,r0,r1,r2,r3,r4,r11,r12,r13,r14,r15,O,H⟩
    obtain ⟨opts,hopts⟩:∃ opts,opts=[1,wide,wide+1,2 * wide]:=⟨_,rfl⟩
    refine CT O h0 (Cr (ai r13 (ai r1 (ai r1 (ao O O (ck (b:=1) ω) (ai r1 (Lp (cX O O (pK (a:=2) ω)) (cH H mg (nums .i64 [1,wide,wide+1,2 * wide]) O O δ δ κ ?_))))))))
    intro w b56 hn56 hb56 H
    refine bH r4 (gh H 4 O hw hcbB hB 4 ω ω ω O O O ?_)
    intro w r4c hr4c H
    simp only [List.set] at H
    refine Lp (bO r4c bh O O O ω) (aC a_ O (H.cell 0 O (de (by show r4c<4;omega))) (Lp (A1 O O (I3)) (az O (Lt ?_))))
    have hge:1≤[1,wide,wide+1,2 * wide].getD r4c 0:=by
     have:r4c=0∨r4c=1∨r4c=2∨r4c=3:=ω
     rcases this with rfl | rfl | rfl | rfl <;> simp <;> omega
    exact ⟨_,k1+1+1+1,ω,ω,ω,ω,r0,r1,r2,r3,r4,r11,r12,r13,r14,r15,O,H.sub [1,2,3,4] O δ⟩
   case refine_2 =>
   clear H r0 r1 r2 r3 r4 r11 r12 r13 r14 r15
   rintro ρ w7 ⟨far,k2,hf1,hf2,hk5,hk6,r0,r1,r2,r3,r4,r11,r12,r13,r14,r15,r16,H⟩
   refine Cy (az O (Lt (Cs ?_)))
   refine aH (fun ρ w' => ∃ j,i+j≤px.length∧j≤4096∧(∀ q,q<j→px[i+q]?=px[i+q - far]?)∧ρ 0=.slice (some ⟨pb,po,none⟩) px.length pc∧ρ 1=iT wide∧ρ 2=iT bits∧ρ 3=gv∧ρ 4=pT cb∧ρ 11=.slice (aT ab) (2 ^ bits:Nat) (2 ^ bits:Nat)∧ρ 12=.slice a ts.length cap∧ρ 13=iT i∧ρ 14=pT b14∧ρ 15=iT 1∧ρ 16=iT far∧ρ 17=iT j ∧
    St W [cb] [aa b14 (zx p (-1) 0 0 (G i)) 88,aA a cap 88 5 ts.length (bN ts),aa ab (bM .u32 (gz bits (px.take i)) (2 ^ bits)) 36,aa cb (dt v k2) 39] w') ?_ ?_
   case refine_1 =>
    refine Cb ?_
    refine Cl (fun mm ρ w' => ∃ j,mm=px.length - j∧i+j≤px.length∧j≤4096∧(∀ q,q<j→px[i+q]?=px[i+q - far]?)∧ρ 0=.slice (some ⟨pb,po,none⟩) px.length pc∧ρ 1=iT wide∧ρ 2=iT bits∧ρ 3=gv∧ρ 4=pT cb∧ρ 11=.slice (aT ab) (2 ^ bits:Nat) (2 ^ bits:Nat)∧ρ 12=.slice a ts.length cap∧ρ 13=iT i∧ρ 14=pT b14∧ρ 15=iT 1∧ρ 16=iT far∧ρ 17=iT j ∧
     St W [cb] [aa b14 (zx p (-1) 0 0 (G i)) 88,aA a cap 88 5 ts.length (bN ts),aa ab (bM .u32 (gz bits (px.take i)) (2 ^ bits)) 36,aa cb (dt v k2) 39] w') px.length
     ⟨0,rfl,ω,ω,fun q hq => ω,r0,r1,r2,r3,r4,r11,r12,r13,r14,r15,r16,rfl,H⟩ ?_
    clear H r0 r1 r2 r3 r4 r11 r12 r13 r14 r15 r16
    rintro mm ρ w8 ⟨j,hmm2,hj1,hj2,hall,r0,r1,r2,r3,r4,r11,r12,r13,r14,r15,r16,r17,H⟩
    by_cases hc1:i+j<px.length
    case neg =>
     refine Cs (Cs (Cd aJ κ ?_))
     intro w hsame
     replace H:=H.same hsame
     refine bW r13 (bW r17 (aG O O (ck ω) (cF r0 (Sp (dx aZ O) (Sp (dy (b:=false) O O (decide_eq_false ω)) (yu O (aY O O O O O (aY O O O O O (Sp (dQ O O) (yu O (aY O O O O O (aY O O O O O (aY O O O O O (aY O O O O O (aY O O O O O (aY O O O O O (aY O O O O O (aY O O O O O (aY O O O O O ?_)))))))))))))))))))
     refine aY O O O O O (aY O O O O O (aY O O O O O (aY O O O O O (aY O O O O O (aY O O O O O (Sp (dQ O O) (Sn (tn (Cq O (Cx (ax (ax (br (tn ?_))))))))))))))
     exact ⟨j,hj1,hj2,hall,r0,r1,r2,r3,r4,r11,r12,r13,r14,r15,r16,r17,H⟩
    by_cases hc2:j<4096
    case neg =>
     refine Cs (Cs (Cd aJ κ ?_))
     intro w hsame
     replace H:=H.same hsame
     refine bW r13 (bW r17 (aG O O (ck ω) (cF r0 (Sp (dx aZ O) (Sp (dy (b:=true) O O (decide_eq_true ω)) (yu O (cz O O O O (YI r17) (cz O O O O (dy (b:=false) O O (decide_eq_false ω)) (Sp (dQ O O) (yu O (aY O O O O O (aY O O O O O (aY O O O O O (aY O O O O O (aY O O O O O (aY O O O O O (aY O O O O O (aY O O O O O (aY O O O O O ?_)))))))))))))))))))
     refine aY O O O O O (aY O O O O O (aY O O O O O (aY O O O O O (aY O O O O O (aY O O O O O (Sp (dQ O O) (Sn (tn (Cq O (Cx (ax (ax (br (tn ?_))))))))))))))
     exact ⟨j,hj1,hj2,hall,r0,r1,r2,r3,r4,r11,r12,r13,r14,r15,r16,r17,H⟩
    have hx1:=hr (i+j) hc1
    have hx2:=hr (i+j - far) ω
    obtain ⟨x1,e1⟩:∃ x,x=px[i+j]:=⟨_,rfl⟩
    obtain ⟨x2,e2⟩:∃ x,x=px[i+j - far]'ω:=⟨_,rfl⟩
    rw [← e1] at hx1
    rw [← e2] at hx2
    refine Cs (Cs (Cd aJ κ ?_))
    intro w hsame
    replace H:=H.same hsame
    refine bW r13 (bW r17 (aG O O (ck ω) (cF r0 (Sp (dx aZ O) (Sp (dy (b:=true) O O (decide_eq_true ω)) (yu O (cz O O O O (YI r17) (cz O O O O (dy (b:=true) O O (decide_eq_true ω)) (Sp (dQ O O) (yu O (cz O O O O (YS r0) (cz O O O O (YI r13) (cz O O O O (YI r17) (cz O O O O (oC O O (ck ω)) (cz O O O O (ci (i+j) aZ O O O hc1) (cz O O O O (ef bD O (H.old hx1 hS)) (cz O O O O (YS r0) (cz O O O O (YI r13) (cz O O O O (YI r17) ?_)))))))))))))))))))
    refine cz O O O O (oC O O (ck ω)) (cz O O O O (YI r16) (cz O O O O (mX (r:=((i+j - far:Nat):Int)) O O (iw ⟨ω,ω⟩)) (cz O O O O (ci (i+j - far) aZ O O O ω) (cz O O O O (ef bD O (H.old hx2 hS)) (cz O O O O (qi O O) (Sp (dQ O O) (Sn (tn ?_))))))))
    by_cases hxx:x1=x2
    case neg =>
     refine CF O ω (Cx (ax (ax (br (tn ?_)))))
     exact ⟨j,hj1,hj2,hall,r0,r1,r2,r3,r4,r11,r12,r13,r14,r15,r16,r17,H⟩
    refine CT O ω (Ck (tn (Cb (Cr (ai r17 (ao O O (ck (b:=1) ω) (az O (Ln (aF (tn ?_))))))))))
    refine ⟨px.length - (j+1),ω,j+1,O,ω,ω,fun q hq => ?_,r0,r1,r2,r3,r4,r11,r12,r13,r14,r15,r16,O,H⟩
    by_cases hqj:q=j
    ·subst hqj
     rw [List.getElem?_eq_getElem hc1,List.getElem?_eq_getElem (show i+q - far<px.length by omega),← e1,← e2,hxx]
    ·exact hall q ω
   case refine_2 =>
   clear H r0 r1 r2 r3 r4 r11 r12 r13 r14 r15 r16
   rintro ρ w8 ⟨j,hj1,hj2,hall,r0,r1,r2,r3,r4,r11,r12,r13,r14,r15,r16,r17,H⟩
   refine Cy (ai r17 (Lp (e9 O O) (Lt ?_)))
   by_cases hj0:j > 0
   case neg =>
    refine CF O ω (Ck (tn ?_))
    exact ⟨0,0,1,k2,.inl ⟨O,O,O⟩,ω,ω,r0,r1,r2,r3,r4,r11,r12,r13,r14,r15,H⟩
   refine CT O ω (Cy (bH r4 (ai r17 (gh H 3 O hw hcbB hB j ω ω ω O O O ?_))))
   intro w rm hrm H
   refine ao O O (ck (a:=1) ω) (az O (Lt (Cr (ai O (ai r16 (ai r1 (bH r4 (Df H 3 O (hw.keep H.frm hcbB) hB ω far wide hf1 ω ω O O O O ?_))))))))
   intro w fc k3 hfc1 hfc2 hfc3 hk7 hk8 H
   refine aU j3 r14 (bC (m:=((1+rm:Nat):Int)) H 0 k_ O O O O ?_)
   intro w H
   refine aU zy r14 (bC (m:=((fc:Nat):Int)) H 0 k_ O O O O ?_)
   intro w H
   simp only [List.set] at H
   refine Lt ?_
   exact ⟨fc,1+rm,1+rm,k3,.inr ⟨O,hpg,ω,ω,ω,hfc1,hfc2,by rw [hfc3];exact hf2,fun q hq => by rw [hfc3];exact hall q ω⟩,ω,ω,r0,r1,r2,r3,r4,r11,r12,r13,r14,O,H⟩
  case refine_2 =>
  clear H r0 r1 r2 r3 r4 r11 r12 r13 r14 r15 r42
  rintro ρ w7 ⟨f,l,m,k2,hfl,hk5,hk6,r0,r1,r2,r3,r4,r11,r12,r13,r14,r15,H⟩
  refine Cs (Cy (bU r0 (ai r13 (Lp (ci i aZ O O O hlt) (aC bD O (H.old hcell hS) (ai r2 (Lp (xY O O (LW (b:=1))) (bZ O DJ (ur _ p (Max.max bits 1) hp32 ω ω) O (az O (Lt (Cs ?_)))))))))))
  refine aH (fun ρ w' => ∃ (T:Bool) (k3:Nat),ρ 133=.bool T∧(T=true→0<bits∧l=0∧dv bits (px.take i) (dZ bits p)=p)∧k2≤k3∧k3≤k2+1∧ρ 0=.slice (some ⟨pb,po,none⟩) px.length pc∧ρ 1=iT wide∧ρ 2=iT bits∧ρ 3=gv∧ρ 4=pT cb∧ρ 11=.slice (aT ab) (2 ^ bits:Nat) (2 ^ bits:Nat)∧ρ 12=.slice a ts.length cap∧ρ 13=iT i∧ρ 14=pT b14∧ρ 15=iT m∧ρ 18=iT (dZ (Max.max bits 1) p) ∧
   St W [cb] [aa b14 (zx p (-1) f l (G i)) 88,aA a cap 88 5 ts.length (bN ts),aa ab (bM .u32 (gz bits (px.take i)) (2 ^ bits)) 36,aa cb (dt v k3) 39] w') ?_ ?_
  case refine_1 =>
   by_cases hb0:0<bits
   case neg =>
    refine ar 20 aJ κ ?_
    intro w hsame
    replace H:=H.same hsame
    refine bW r2 (Sp (bE (b:=false) O O (decide_eq_false ω)) (yu O (aY O O O O O (aY O O O O O (aY O O O O O (Sp (dQ O O) (yu O (aY O O O O O (aY O O O O O (aY O O O O O (aY O O O O O (aY O O O O O (aY O O O O O (aY O O O O O (aY O O O O O (aY O O O O O (Sp (dQ O O) (yu O (aY O O O O O ?_)))))))))))))))))))
    refine Sn (Lk (Lk (ay O O (Lt ?_))))
    exact ⟨false,k2,O,by simp,ω,ω,r0,r1,r2,r3,r4,r11,r12,r13,r14,r15,O,H⟩
   have emax:Max.max bits 1=bits:=ω
   have hslot:dZ bits p<2 ^ bits:=mM hb0 hbits
   have hcache:(bM .u32 (gz bits (px.take i)) (2 ^ bits))[dZ bits p]?=some (.int .u32 ((dv bits (px.take i) (dZ bits p):Nat):Int)):=by rw [af hslot];unfold gz;rw [if_neg ω]
   rw [emax]
   by_cases hl0:l=0
   case neg =>
    refine ar 20 aJ κ ?_
    intro w hsame
    replace H:=H.same hsame
    refine bW r2 (Sp (bE (b:=true) O O (decide_eq_true ω)) (yu O (cz O O O O (iQ j3 r14) (cz O O O O (ef a_ O (H.cell 0 (v:=iT l) O O)) (cz O O O O (bR (b:=false) O O (decide_eq_false ω)) (Sp (dQ O O) (yu O (aY O O O O O (aY O O O O O (aY O O O O O (aY O O O O O (aY O O O O O (aY O O O O O (aY O O O O O (aY O O O O O (aY O O O O O (Sp (dQ O O) (yu O (aY O O O O O ?_)))))))))))))))))))
    refine Sn (Lk (Lk (ay O O (Lt ?_))))
    exact ⟨false,k2,O,by simp,ω,ω,r0,r1,r2,r3,r4,r11,r12,r13,r14,r15,O,H⟩
   by_cases hcp:dv bits (px.take i) (dZ bits p)=p
   case neg =>
    refine ar 20 aJ κ ?_
    intro w hsame
    replace H:=H.same hsame
    refine bW r2 (Sp (bE (b:=true) O O (decide_eq_true ω)) (yu O (cz O O O O (iQ j3 r14) (cz O O O O (ef a_ O (H.cell 0 (v:=iT l) O O)) (cz O O O O (bR (b:=true) O O (decide_eq_true ω)) (Sp (dQ O O) (yu O (cz O O O O (YS r11) (cz O O O O (YI O) (cz O O O O (bO (dZ bits p) aZ O (by rw [← emax];rfl) O hslot) (cz O O O O (ef bD O (H.cell 2 O hcache)) (cz O O O O (YS r0) (cz O O O O (YI r13) (cz O O O O (ci i aZ O O O hlt) (cz O O O O (ef bD O (H.old hcell hS)) (cz O O O O (bR (b:=false) O O (decide_eq_false ω)) (Sp (dQ O O) (yu O (aY O O O O O ?_)))))))))))))))))))
    refine Sn (Lk (Lk (ay O O (Lt ?_))))
    exact ⟨false,k2,O,by simp,ω,ω,r0,r1,r2,r3,r4,r11,r12,r13,r14,r15,O,H⟩
   refine ar 20 aJ κ ?_
   intro w hsame
   replace H:=H.same hsame
   refine bW r2 (Sp (bE (b:=true) O O (decide_eq_true ω)) (yu O (cz O O O O (iQ j3 r14) (cz O O O O (ef a_ O (H.cell 0 (v:=iT l) O O)) (cz O O O O (bR (b:=true) O O (decide_eq_true ω)) (Sp (dQ O O) (yu O (cz O O O O (YS r11) (cz O O O O (YI O) (cz O O O O (bO (dZ bits p) aZ O (by rw [← emax];rfl) O hslot) (cz O O O O (ef bD O (H.cell 2 O hcache)) (cz O O O O (YS r0) (cz O O O O (YI r13) (cz O O O O (ci i aZ O O O hlt) (cz O O O O (ef bD O (H.old hcell hS)) (cz O O O O (bR (b:=true) O O (decide_eq_true ω)) (Sp (dQ O O) (yu O (cz O O O O (YP r4) ?_)))))))))))))))))))
   refine Sn (kP H 3 O hw hcbB hB 4 ω ω ω O O O O O O ?_)
   intro w rq hrq H
   simp only [List.set] at H
   refine Lg (e9 O O) (ay O O (Lt ?_))
   exact ⟨_,k2+1,O,fun _ => ⟨hb0,hl0,hcp⟩,ω,ω,r0,r1,r2,r3,r4,r11,r12,r13,r14,r15,O,H⟩
  case refine_2 =>
  clear H r0 r1 r2 r3 r4 r11 r12 r13 r14 r15
  rintro ρ w8 ⟨T2,k3,r133,hT2,hk7,hk8,r0,r1,r2,r3,r4,r11,r12,r13,r14,r15,r18,H⟩
  refine aH (fun ρ w' => ∃ (s:Int) (t:Tk),t.cells (G i)=zx p s f l (G i)∧t.Ok wide bits px i∧t.fits∧t.len=m∧ρ 0=.slice (some ⟨pb,po,none⟩) px.length pc∧ρ 1=iT wide∧ρ 2=iT bits∧ρ 3=gv∧ρ 4=pT cb∧ρ 11=.slice (aT ab) (2 ^ bits:Nat) (2 ^ bits:Nat)∧ρ 12=.slice a ts.length cap∧ρ 13=iT i∧ρ 14=pT b14∧ρ 15=iT m ∧
   St W [cb] [aa b14 (zx p s f l (G i)) 88,aA a cap 88 5 ts.length (bN ts),aa ab (bM .u32 (gz bits (px.take i)) (2 ^ bits)) 36,aa cb (dt v k3) 39] w') ?_ ?_
  case refine_1 =>
   cases T2
   case false =>
    refine Cq r133 (Ck (tn ?_))
    rcases hfl with ⟨rfl,rfl,rfl⟩ | ⟨rfl,hok⟩
    ·exact ⟨-1,.lit p,O,hpg,hp32,O,r0,r1,r2,r3,r4,r11,r12,r13,r14,r15,H⟩
    ·obtain ⟨_,q1,q2,_,q3,q4,_⟩:=id hok
     exact ⟨-1,.cp p f l,O,hok,⟨hp32,q1,q2,q3,q4⟩,O,r0,r1,r2,r3,r4,r11,r12,r13,r14,r15,H⟩
   obtain ⟨hb0,hl0,hcp⟩:=hT2 rfl
   have hslot:dZ bits p<2 ^ bits:=mM hb0 hbits
   rw [show Max.max bits 1=bits by omega] at r18
   refine Cp r133 ?_
   refine Cr (ai r18 (aU qX r14 (bC (m:=((dZ bits p:Nat):Int)) H 0 k_ O O O O ?_)))
   intro w H
   simp only [List.set] at H
   refine Lt ?_
   rcases hfl with ⟨rfl,rfl,rfl⟩ | ⟨rfl,hok⟩
   ·exact ⟨(dZ bits p:Nat),.hit p (dZ bits p),O,⟨hpg,hb0,hslot,hcp⟩,⟨hp32,ω⟩,O,r0,r1,r2,r3,r4,r11,r12,r13,r14,r15,H⟩
   ·obtain ⟨_,q1,_⟩:=id hok
    omega
  case refine_2 =>
  clear H r0 r1 r2 r3 r4 r11 r12 r13 r14 r15 r18 hfl
  rintro ρ w9 ⟨s,t,htc,hok,hfit,hlen,r0,r1,r2,r3,r4,r11,r12,r13,r14,r15,H⟩
  have hpos:=hok.pos
  rw [hlen] at hpos
  have hpci:i<pc:=ω
  refine Cs (Cy (bU r0 (ai r13 (ai r13 (ai r15 (ao O O (ck ω) (Lp (yN i (i+m) aZ O O O O O ω ω hpci) (bG (l:=i+m - i) aZ O (ai O (Lt ?_))))))))))
  refine aH (fun ρ w' => ρ 0=.slice (some ⟨pb,po,none⟩) px.length pc∧ρ 1=iT wide∧ρ 2=iT bits∧ρ 3=gv∧ρ 4=pT cb∧ρ 11=.slice (aT ab) (2 ^ bits:Nat) (2 ^ bits:Nat)∧ρ 12=.slice a ts.length cap∧ρ 13=iT i∧ρ 14=pT b14∧ρ 15=iT m ∧
   St W [cb] [aa b14 (zx p s f l (G i)) 88,aA a cap 88 5 ts.length (bN ts),aa ab (bM .u32 (gz bits (px.take (i+m))) (2 ^ bits)) 36,aa cb (dt v k3) 39] w') ?_ ?_
  case refine_1 =>
   refine Cb ?_
   refine Cl (fun mm ρ w' => ∃ j,mm=m - j∧j≤m∧ρ 0=.slice (some ⟨pb,po,none⟩) px.length pc∧ρ 1=iT wide∧ρ 2=iT bits∧ρ 3=gv∧ρ 4=pT cb∧ρ 11=.slice (aT ab) (2 ^ bits:Nat) (2 ^ bits:Nat)∧ρ 12=.slice a ts.length cap∧ρ 13=iT i∧ρ 14=pT b14∧ρ 15=iT m∧ρ 141=.slice (some ⟨pb,po+i * 1,none⟩) (i+m - i) (pc - i)∧ρ 142=iT m∧ρ 143=iT j ∧
    St W [cb] [aa b14 (zx p s f l (G i)) 88,aA a cap 88 5 ts.length (bN ts),aa ab (bM .u32 (gz bits (px.take (i+j))) (2 ^ bits)) 36,aa cb (dt v k3) 39] w') m
    ⟨0,rfl,ω,r0,r1,r2,r3,r4,r11,r12,r13,r14,r15,rfl,by show Value.int .i64 ((i+m - i:Nat):Int)=_;rw [Nat.add_sub_cancel_left],rfl,H⟩ ?_
   clear H r0 r1 r2 r3 r4 r11 r12 r13 r14 r15
   rintro mm ρ w10 ⟨j,hmm3,hjm,r0,r1,r2,r3,r4,r11,r12,r13,r14,r15,r141,r142,r143,H⟩
   refine Cy (bP r143 r142 (Lt ?_))
   by_cases hjlt:j<m
   case neg =>
    obtain rfl:j=m:=ω
    refine Cs (CF O ω (Cx (ax (ax (br (tn ?_))))))
    exact ⟨r0,r1,r2,r3,r4,r11,r12,r13,r14,r15,H⟩
   have hij:i+j<px.length:=ω
   have hx1:=hr (i+j) hij
   obtain ⟨x1,e1⟩:∃ x,x=px[i+j]:=⟨_,rfl⟩
   have hx32:x1<2 ^ 32:=by rw [e1];exact h32 _ (List.getElem_mem hij)
   have hxg:px.getD (i+j) 0=x1:=by simp [hij,e1]
   rw [← e1,show po+(i+j)=po+i * 1+j by omega] at hx1
   have hstep:∀ q,gz bits (px.take (i+(j+1))) q=if bits=0 then 0 else if q=dZ bits x1 then x1 else dv bits (px.take (i+j)) q:=fun q => by
    unfold gz
    split
    ·rfl
    ·rw [show i+(j+1)=i+j+1 by omega,vv hij,hxg]
   refine Cs (CT O ω (Ck (tn (Cs (Cb (Cy (Lp (ci j aZ r141 r143 O ω) (aC bD O (H.old hx1 hS) (az O (Lt (Cy (ai r2 (Lp (e9 O O) (Lt ?_))))))))))))))
   refine iC (fun ρ w' => ρ 0=.slice (some ⟨pb,po,none⟩) px.length pc∧ρ 1=iT wide∧ρ 2=iT bits∧ρ 3=gv∧ρ 4=pT cb∧ρ 11=.slice (aT ab) (2 ^ bits:Nat) (2 ^ bits:Nat)∧ρ 12=.slice a ts.length cap∧ρ 13=iT i∧ρ 14=pT b14∧ρ 15=iT m∧ρ 141=.slice (some ⟨pb,po+i * 1,none⟩) (i+m - i) (pc - i)∧ρ 142=iT m∧ρ 143=iT j ∧
    St W [cb] [aa b14 (zx p s f l (G i)) 88,aA a cap 88 5 ts.length (bN ts),aa ab (bM .u32 (gz bits (px.take (i+(j+1)))) (2 ^ bits)) 36,aa cb (dt v k3) 39] w') ?_ ?_
   case refine_1 =>
    by_cases hb0:bits > 0
    case neg =>
     refine CF O ω (Ck (aF (tn ?_)))
     refine ⟨r0,r1,r2,r3,r4,r11,r12,r13,r14,r15,r141,r142,r143,?_⟩
     rw [aW (g:=gz bits (px.take (i+j)))]
     ·exact H
     ·intro q _
      rw [hstep q]
      unfold gz
      rw [if_pos ω,if_pos ω]
    have hslot:dZ bits x1<2 ^ bits:=mM hb0 hbits
    refine CT O ω (Cr (bU r11 (ai O (ai r2 (bZ O DJ (ur _ x1 bits hx32 hb0 hbits) O (ai O (Lp (bO (dZ bits x1) aZ O O O hslot) (aP (v:=x1) H 2 dY O O O hslot ?_))))))))
    intro w H
    simp only [List.set] at H
    refine Ln (aF (tn ?_))
    refine ⟨r0,r1,r2,r3,r4,r11,r12,r13,r14,r15,r141,r142,r143,?_⟩
    rw [aW (g:=fun q => if q=dZ bits x1 then x1 else gz bits (px.take (i+j)) q)]
    ·exact H
    ·intro q _
     show (if q=dZ bits x1 then x1 else gz bits (px.take (i+j)) q)=_
     rw [hstep q,if_neg (show ¬ bits=0 by omega)]
     unfold gz
     rw [if_neg (show ¬ bits=0 by omega)]
   case refine_2 =>
   clear H r0 r1 r2 r3 r4 r11 r12 r13 r14 r15 r141 r142 r143
   rintro ρ w11 ⟨r0,r1,r2,r3,r4,r11,r12,r13,r14,r15,r141,r142,r143,H⟩
   refine Cr (ao r143 O (ck (b:=1) ω) (ai O (Lt ?_)))
   exact ⟨m - (j+1),ω,j+1,O,ω,r0,r1,r2,r3,r4,r11,r12,r13,r14,r15,r141,r142,O,H⟩
  case refine_2 =>
  clear H r0 r1 r2 r3 r4 r11 r12 r13 r14 r15
  rintro ρ w10 ⟨r0,r1,r2,r3,r4,r11,r12,r13,r14,r15,H⟩
  refine Cy (bU r12 (Lp (fH (cs:=zx p s f l (G i)) wH r14 O (fun j hj => by rw [Nat.zero_add];exact (H.blk (i:=0) O).cell j)) (cH H Jy (zx p s f l (G i)) O O δ δ κ ?_)))
  intro w b158 hn158 hb158 H
  refine dH H 2 Jy δ O O O O (news:=zx p s f l (G i)) O (fun j u hj => by rw [Nat.zero_add];exact H.cell 0 O hj) (D6 _ _ _ _ _) (by simp only [maxLen];omega) ω ?_
  intro a' c' w hfa H
  simp only [List.set] at H
  refine gS O (Lt (Cr (ai r13 (ai r15 (ao O O (ck ω) (az O (Ln (aF (tn ?_)))))))))
  have hT':=hT.snoc hlt hok hfit
  rw [hlen] at hT'
  refine ⟨px.length - (i+m),ω,i+m,ts++[(t,G i)],a',c',k3,ω,O,hT',ω,ω,r0,r1,r2,r3,r4,r11,?_,O,?_⟩
  ·rw [List.length_append];rfl
  ·rw [yd,List.length_append,htc]
   exact H.sub [2,3,4] O (by simp)
 case refine_2 =>
 clear H
 rintro ρ w5 ⟨ts,a,cap,kk,r12,hT,hk1,hk2,H⟩
 refine Cy (bU r12 (gS O (Lt (Ct ?_))))
 exact ak O O ⟨ts,a,cap,kk,O,hT,H,hk1,hk2⟩
end Go.Proofs.YtmgemcffhbnpfaaGreatDoor
set_option maxHeartbeats 2000000
namespace Go.Proofs.YtmgemcffhbnpfaaGreatDoor
open Go
theorem Bd (ls:List Nat) (h15:∀ x ∈ ls,x≤15) (hn:ls.length≤65536) (s:Nat):dq ls s<2 ^ 62:=by
 have h:ls.getD s 0≤16:=by
  rw [List.getD_eq_getElem?_getD]
  cases e:ls[s]? with
  | none => simp
  | some y => have:=h15 y (List.mem_of_getElem? e);simp;omega
 have h1:=xa ls hn h
 have h2:(ls.take s).count (ls.getD s 0)≤ls.length:=Nat.le_trans (im ls s _) List.count_le_length
 unfold dq
 omega
theorem tA:∀ (rs:List qW) (q j:Nat) (r:qW),rs[q]?=some r→j<3→(cO rs)[q * 3+j]?=(eE r)[j]?
 | [],q,j,r,h,_ => by simp at h
 | x :: rs,0,j,r,h,hj => by
  simp only [List.getElem?_cons_zero,Option.some.injEq] at h
  subst h
  rw [Nat.zero_mul,Nat.zero_add]
  exact List.getElem?_append_left (by show j<3;exact hj)
 | x :: rs,q+1,j,r,h,hj => by
  have:=tA rs q j r (by simpa using h) hj
  rw [show (q+1) * 3+j=(q * 3+j)+3 by omega]
  exact (List.getElem?_append_right (by show 3≤_;omega)).trans (by rw [← this];rfl)
theorem qv {w:World} {g cap e:Nat} {rs:List qW} {q:Nat} {r:qW} (h:bT w (aT g) cap e 3 rs.length (cO rs)) (hq:rs[q]?=some r):∀ j,j<3→w.cell? ⟨g,0+q * 3+j,none⟩=(eE r)[j]?:=fun j hj => by
 have:=tA rs q j r hq hj
 rw [Nat.zero_add]
 cases e2:(eE r)[j]? with
 | none =>
  have:=List.getElem?_eq_none_iff.1 e2
  simp only [eE,List.length_cons,List.length_nil] at this
  omega
 | some u => exact bT.cellS h (this.trans e2)
theorem yg (rs:List qW) (q s:Nat) (r:qW) (h:rs[q]?=some r):(rs.take (q+1)).any (fun x => x.1 == s)=(decide (s=r.1) || (rs.take q).any (fun x => x.1 == s)):=by
 obtain ⟨h1,h2⟩:=List.getElem?_eq_some_iff.1 h
 rw [List.take_succ_eq_append_getElem h1,List.any_append,h2]
 simp only [List.any_cons,List.any_nil,Bool.or_false]
 rw [Bool.or_comm]
 congr 1
 by_cases e:r.1=s
 ·subst e;simp
 ·rw [decide_eq_false (fun h => e h.symm)]
  simpa using e
theorem uH (f:Nat→Nat):∀ n,((List.range n).flatMap fun q => aV (f q) 3).length=3 * n
 | 0 => rfl
 | n+1 => by rw [List.range_succ,List.flatMap_append,List.length_append,uH f n];simp [kZ];omega
theorem vR {A n:Nat} {ccl ls:List Nat} {M:aM} (hc:ccl.length=19) (h7:∀ x ∈ ccl,x≤7) (hn4:4≤n) (hn:n≤19) (hz:∀ i,n≤i→i<19→ccl.getD (ry i) 0=0) (hd:d7 (mf A ccl) M ls) {t:T} (ht:dX ls=some t) :
  d7 (kv A) (aV (n - 4) 4++(((List.range n).flatMap fun q => aV (ccl.getD (ry q) 0) 3)++M)) t:=by
 obtain ⟨f,hf,hfl⟩:=Fg ccl hc h7 n hn hz
 refine (cJ (show n - 4<2 ^ 4 by omega)).pb ?_
 rw [if_neg ω,show n - 4+4=n by omega]
 refine hf.pb ?_
 rw [hfl]
 refine fU hd ?_
 rw [ht]
 exact d7.ret t
structure GH (ls:List Nat) (rs rs':List qW) (M:aM):Prop where
 reads:∀ (ccl:List Nat) (t:T) (cd:Nat→aM),dX ccl=some t→(∀ r ∈ rs,me r∧d7 t.walk (cd r.1) r.1)→d7 (mf ls.length ccl) (M++fR cd rs') ls
 pre:∃ e,rs'=rs.take e
 len:M.length≤30
theorem Cv (W:World) (wb c0:Nat) (a0:Option Addr) (X:aM) (cb B k:Nat) (v:Value) (H:St W (wb :: cb :: bQ a0) [eI wb a0 c0 X,aa cb (dt v k) 39] W) (lb lo lc:Nat) (ls:List Nat) (hr:l7 W .i64 lb lo ls) (hlb:lb ∉ wb :: cb :: bQ a0) (h15:∀ x ∈ ls,x≤15) (h1:1≤ls.length) (hn:ls.length≤4096)
  (hw:jA B v W) (hB:∀ b ∈ wb :: cb :: bQ a0,B≠b) (hk:k≤4611686018427200000) (hX:X.length≤1099511000000) :
  Calls Tryz.prog 58 #[pT wb,.slice (some ⟨lb,lo,none⟩) ls.length lc,pT cb] W fun e w' => ∃ a c Z k',e=.returned (.tuple #[])∧St W (wb :: cb :: bQ a0) [eI wb a c (X++Z),aa cb (dt v k') 39] w' ∧
   (∀ t,dX ls=some t→d7 (kv ls.length) Z t)∧Z.length≤60000∧k≤k'∧k'≤k+3 * ls.length+2:=by
 have hcbB:B≠cb:=hB cb (by simp)
 have hB0:B<W.heap.size:=hw.1
 have hlc2:lb≠cb:=fun e => hlb (by simp [e])
 obtain ⟨S,hS⟩:∃ S,S=wb :: cb :: bQ a0:=⟨_,rfl⟩
 rw [← hS] at hlb hB H ⊢
 refine enter (m:=173) Tryz.func58 O Tryz.ntmps58 O (Cy (bU O (bH O (I6 H 1 O hw hcbB ω hr hlc2 h15 hn O O O ?_))))
 intro w rs a cap k1 hR hk1 hk2 H
 simp only [List.set] at H
 refine gS O (Lt ?_)
 have hrl:=hR.len
 have hrs:1≤rs.length:=by
  refine Nat.pos_of_ne_zero fun h0 => ?_
  have e:rs=[]:=List.length_eq_zero_iff.1 h0
  have ho:=hR.out
  rw [e,List.take_length] at ho
  rw [← ho] at h1
  simp [ep] at h1
 obtain ⟨g,rfl,_⟩:=(H.get (i:=0) rfl:bT _ _ _ _ _ _ _).cell ω
 have hrow:∀ q,q<rs.length→∃ r,rs[q]?=some r∧r.1≤18∧r.2.2≤7∧r.2.1<128:=fun q hq => ⟨rs[q],List.getElem?_eq_getElem hq,(hR.ok _ (List.getElem_mem hq)).bits⟩
 refine Cy (iJ H yv 19 19 O O O O ω ω ω O ?_)
 intro w ob hn7 hob H
 rw [dz,lp] at H
 refine gS O (Lt (Cs (Cy (bU O (bG nj O (ai O (Lt ?_)))))))
 refine aH (fun ρ w' => ρ 0=pT wb∧ρ 2=pT cb∧ρ 6=.slice (aT g) rs.length cap∧ρ 7=.slice (aT ob) 19 19 ∧
  St W S [aa ob (ii (fun s => rs.any (fun x => x.1 == s)) 19) 4,aA (aT g) cap 166 3 rs.length (cO rs),eI wb a0 c0 X,aa cb (dt v k1) 39] w') ?_ ?_
 case refine_1 =>
  refine Cb ?_
  refine Cl (fun mm ρ w' => ∃ q,q≤rs.length∧mm=rs.length - q∧ρ 0=pT wb∧ρ 2=pT cb∧ρ 6=.slice (aT g) rs.length cap∧ρ 7=.slice (aT ob) 19 19∧ρ 26=.slice (aT g) rs.length cap∧ρ 27=iT rs.length∧ρ 28=iT q ∧
   St W S [aa ob (ii (fun s => (rs.take q).any (fun x => x.1 == s)) 19) 4,aA (aT g) cap 166 3 rs.length (cO rs),eI wb a0 c0 X,aa cb (dt v k1) 39] w') rs.length
   ⟨0,ω,rfl,rfl,rfl,rfl,rfl,rfl,rfl,rfl,H⟩ ?_
  clear H
  rintro mm ρ w5 ⟨q,hq,hmm,r0,r2,r6,r7,r26,r27,r28,H⟩
  refine Cy (bP r28 r27 (Lt ?_))
  by_cases hlt:q<rs.length
  case neg =>
   obtain rfl:q=rs.length:=ω
   refine Cs (CF O ω (Cx (ax (ax (br (tn ?_))))))
   rw [List.take_length] at H
   exact ⟨r0,r2,r6,r7,H⟩
  obtain ⟨r,hrq,hr18,_,_⟩:=hrow q hlt
  have hcell:=qv (H.get (i:=1) rfl) hrq
  refine Cs (CT O ω (Ck (tn (Cs (Cb (Cy (Lp (gm q nj r26 r28 O hlt) (Lp (fH (cs:=eE r) Em O O hcell) (cE H DQ O ?_)))))))))
  intro w b9 hn9 hb9 H
  refine dG (vs:=eE r) H 0 Eb O O O O O (kr _) ?_
  intro w H
  refine Lt (Cr (bU r7 (aU lZ O (aC a_ O (H.cell 0 (v:=iT r.1) O O) (Lp (bO r.1 rz O O O ω) (ud H 1 lU O O O (m_ ω) ?_))))))
  intro w H
  simp only [List.set] at H
  rw [xH (v:=fun s => (rs.take (q+1)).any (fun x => x.1 == s)) (fun s _ => yg rs q s r hrq)] at H
  refine Ln (aF (tn (Cr (ao r28 O (ck (b:=1) ω) (ai O (Lt ?_))))))
  exact ⟨rs.length - (q+1),ω,q+1,ω,O,r0,r2,r6,r7,r26,r27,O,H.sub [1,2,3,4] O δ⟩
 case refine_2 =>
 clear H
 rintro ρ w5 ⟨r0,r2,r6,r7,H⟩
 obtain ⟨u,hu⟩:∃ u:Nat→Bool,u=fun s => rs.any (fun x => x.1 == s):=⟨_,rfl⟩
 rw [← hu] at H
 have hus:∀ r ∈ rs,r.1<19∧u r.1=true:=fun r hr => ⟨by have:=(hR.ok r hr).bits;omega,by rw [hu];exact List.any_eq_true.2 ⟨r,hr,by simp⟩⟩
 have hune:bS u 19≠[]:=fun e => by
  have:=hus _ (List.getElem_mem hrs)
  have hm:=(fu u 19 _).2 this
  rw [e] at hm
  cases hm
 refine Cy (bU r7 (Lp (nx LF) (fM H (cs:=dt (.slice none 0 0) 0) O O O ?_)))
 intro w nb hn39 hnb H
 refine tW (B:=B) (u:=u) H 0 O ⟨Nat.lt_of_lt_of_le hw.1 H.frm.size,none,0,0,O,ω,.inl rfl⟩ (by have:=hw.1;omega) ω (fun j hj => by rw [Nat.zero_add];exact (H.blk (i:=1) O).cellv (m_ hj)) (by have:=dl H.apart (i:=0) (j:=1) O O δ nb (by simp [aa]);simpa [aa,eq_comm] using this) ω (.inr ⟨O,ω⟩) O O O O ?_
 intro w l gl k2 hL _ _ _ H
 simp only [List.set] at H
 refine gS O (Lt ?_)
 replace H:St W S [aa gl (nums .i64 l) 3,aa ob (ii u 19) 4,aA (aT g) cap 166 3 rs.length (cO rs),eI wb a0 c0 X,aa cb (dt v k1) 39] w:=H.sub [0,2,3,4,5] rfl δ
 have hl19:=hL.len
 have hl7:=hL.most
 have hl7':∀ s,l.getD s 0≤7:=fun s => by
  rw [List.getD_eq_getElem?_getD]
  cases e:l[s]? with
  | none => simp
  | some y => exact hl7 y (List.mem_of_getElem? e)
 refine Cy (az O (Lt (Cs ?_)))
 refine aH (fun ρ w' => ∃ n,4≤n∧n≤19∧(∀ i,n≤i→i<19→l.getD (ry i) 0=0)∧ρ 0=pT wb∧ρ 2=pT cb∧ρ 6=.slice (aT g) rs.length cap∧ρ 7=.slice (aT ob) 19 19∧ρ 10=.slice (aT gl) 19 19∧ρ 11=iT n ∧
  St W S [aa gl (nums .i64 l) 3,aa ob (ii u 19) 4,aA (aT g) cap 166 3 rs.length (cO rs),eI wb a0 c0 X,aa cb (dt v k1) 39] w') ?_ ?_
 case refine_1 =>
  refine Cb ?_
  refine Cl (fun mm ρ w' => ∃ n,mm=n∧4≤n∧n≤19∧(∀ i,n≤i→i<19→l.getD (ry i) 0=0)∧ρ 0=pT wb∧ρ 2=pT cb∧ρ 6=.slice (aT g) rs.length cap∧ρ 7=.slice (aT ob) 19 19∧ρ 10=.slice (aT gl) 19 19∧ρ 11=iT n ∧
   St W S [aa gl (nums .i64 l) 3,aa ob (ii u 19) 4,aA (aT g) cap 166 3 rs.length (cO rs),eI wb a0 c0 X,aa cb (dt v k1) 39] w') 19
   ⟨19,rfl,ω,ω,fun i h1 h2 => ω,r0,r2,r6,r7,rfl,rfl,H⟩ ?_
  clear H r0 r2 r6 r7
  rintro mm ρ w6 ⟨n,hmm,hn4,hn19,hz,r0,r2,r6,r7,r10,r11,H⟩
  by_cases hn5:4<n
  case neg =>
   refine Cs (Cy (ai r11 (Lp (bE (b:=false) O O (decide_eq_false ω)) (dh O (Lk (Lk (Lk (Lk (Lk (Lk (Lk (Lk (Lk (ay O O (Lt (Cq O (Cx (ax (ax (br (tn ?_)))))))))))))))))))))
   exact ⟨n,hn4,hn19,hz,r0,r2,r6,r7,r10,r11,H⟩
  have ho:=xk (n - 1) ω
  by_cases hzn:l.getD (ry (n - 1)) 0=0
  case neg =>
   refine Cs (Cy (ai r11 (Lp (bE (b:=true) O O (decide_eq_true ω)) (dh O (Lg (YS r10) (zg H O O O O ?_))))))
   intro w og hog H
   refine Lg (YI r11) (Lg (mX O O (iw (b:=1) ω)) (Lg (bO (n - 1) bh O O O ω) (Lg (ef a_ O (H.cell 0 O (qS ω))) (Lg (bO (ry (n - 1)) bh O O O ho) (Lg (ef a_ O (H.cell 1 O (de ω))) (Lg (bR (b:=false) O O (decide_eq_false ω)) (ay O O (Lt (Cq O (Cx (ax (ax (br (tn ?_))))))))))))))
   exact ⟨n,hn4,hn19,hz,r0,r2,r6,r7,r10,r11,H.sub [1,2,3,4,5] O δ⟩
  refine Cs (Cy (ai r11 (Lp (bE (b:=true) O O (decide_eq_true ω)) (dh O (Lg (YS r10) (zg H O O O O ?_))))))
  intro w og hog H
  refine Lg (YI r11) (Lg (mX O O (iw (b:=1) ω)) (Lg (bO (n - 1) bh O O O ω) (Lg (ef a_ O (H.cell 0 O (qS ω))) (Lg (bO (ry (n - 1)) bh O O O ho) (Lg (ef a_ O (H.cell 1 O (de ω))) (Lg (bR (b:=true) O O (decide_eq_true ω)) (ay O O (Lt ?_))))))))
  refine Cp O ?_
  refine Ck (tn (Cb (Cr (ai r11 (bw O O (iw (b:=1) ω) (az O (Ln (aF (tn ?_)))))))))
  refine ⟨n - 1,ω,n - 1,O,ω,ω,fun i h1 h2 => ?_,r0,r2,r6,r7,r10,O,H.sub [1,2,3,4,5] O δ⟩
  by_cases hi:i=n - 1
  ·rw [hi];exact hzn
  ·exact hz i ω h2
 case refine_2 =>
 clear H r0 r2 r6 r7
 rintro ρ w6 ⟨n,hn4,hn19,hz,r0,r2,r6,r7,r10,r11,H⟩
 refine Cy (bH r0 (ai r11 (bw O O (iw (b:=4) ω) (di H 3 O (n - 4) 4 ω ω ω O O O O ?_))))
 intro w a1 c1 H
 simp only [List.set] at H
 refine Lt (Cs (Cy (Bu H O ?_)))
 intro w og hog H
 refine ai r11 (Lp (ll n bh O O O ω) (bG bh O (ai O (Lt ?_))))
 refine aH (fun ρ w' => ∃ a c,ρ 0=pT wb∧ρ 2=pT cb∧ρ 6=.slice (aT g) rs.length cap∧ρ 7=.slice (aT ob) 19 19∧ρ 10=.slice (aT gl) 19 19 ∧
  St W S [aa gl (nums .i64 l) 3,aa ob (ii u 19) 4,aA (aT g) cap 166 3 rs.length (cO rs),eI wb a c (X++aV (n - 4) 4++((List.range n).flatMap fun q => aV (l.getD (ry q) 0) 3)),aa cb (dt v k1) 39] w') ?_ ?_
 case refine_1 =>
  refine Cb ?_
  refine Cl (fun mm ρ w' => ∃ q a c,q≤n∧mm=n - q∧ρ 0=pT wb∧ρ 2=pT cb∧ρ 6=.slice (aT g) rs.length cap∧ρ 7=.slice (aT ob) 19 19∧ρ 10=.slice (aT gl) 19 19 ∧
   ρ 62=.slice (aT og) n 19∧ρ 63=iT n∧ρ 64=iT q ∧
   St W S [aa og (nums .i64 bY) 3,aa gl (nums .i64 l) 3,aa ob (ii u 19) 4,aA (aT g) cap 166 3 rs.length (cO rs),eI wb a c (X++aV (n - 4) 4++((List.range q).flatMap fun q => aV (l.getD (ry q) 0) 3)),aa cb (dt v k1) 39] w') n
   ⟨0,a1,c1,ω,rfl,r0,r2,r6,r7,r10,rfl,rfl,rfl,by simpa using H⟩ ?_
  clear H r0 r2 r6 r7 r10
  rintro mm ρ w7 ⟨q,a2,c2,hq,hmm,r0,r2,r6,r7,r10,r62,r63,r64,H⟩
  refine Cy (bP r64 r63 (Lt ?_))
  by_cases hlt:q<n
  case neg =>
   obtain rfl:q=n:=ω
   refine Cs (CF O ω (Cx (ax (ax (br (tn ?_))))))
   exact ⟨a2,c2,r0,r2,r6,r7,r10,H.sub [1,2,3,4,5] O δ⟩
  have ho:=xk q ω
  have hl8:=hl7' (ry q)
  have hZl:((List.range q).flatMap fun q => aV (l.getD (ry q) 0) 3).length=3 * q:=uH _ q
  refine Cs (CT O ω (Ck (tn (Cs (Cb (Cy (Lp (bO q bh r62 r64 O hlt) (aC a_ O (H.cell 0 O (qS ω)) (az O (Lt (Cr (bH r0 (bU r10 (ai O (Lp (bO (ry q) bh O O O ho) (aC a_ O (H.cell 1 O (de ω)) (di H 4 O (l.getD (ry q) 0) 3 ω ω (by simp only [List.length_append,kZ,hZl];omega) O O O O ?_)))))))))))))))))
  intro w a3 c3 H
  simp only [List.set] at H
  refine Ln (aF (tn (Cr (ao r64 O (ck (b:=1) ω) (ai O (Lt ?_))))))
  refine ⟨n - (q+1),ω,q+1,a3,c3,ω,O,r0,r2,r6,r7,r10,r62,r63,O,?_⟩
  rw [List.range_succ,List.flatMap_append,← List.append_assoc]
  simpa using H
 case refine_2 =>
 clear H r0 r2 r6 r7 r10
 rintro ρ w7 ⟨a2,c2,r0,r2,r6,r7,r10,H⟩
 obtain ⟨Zl,hZl⟩:∃ Zl,Zl=(List.range n).flatMap fun q => aV (l.getD (ry q) 0) 3:=⟨_,rfl⟩
 have hZll:Zl.length=3 * n:=by rw [hZl];exact uH _ n
 rw [← hZl] at H
 have hXl:(X++aV (n - 4) 4++Zl).length≤X.length+61:=by simp only [List.length_append,kZ];omega
 obtain ⟨X1,hX1⟩:∃ X1,X1=X++aV (n - 4) 4++Zl:=⟨_,rfl⟩
 rw [← hX1] at H hXl
 refine Cy (bU r6 (bG nj O (az O (Lt (Cs ?_)))))
 refine aH (fun ρ w' => ∃ e,e≤rs.length∧(∀ r ∈ rs.drop e,vZ r)∧ρ 0=pT wb∧ρ 2=pT cb∧ρ 6=.slice (aT g) rs.length cap∧ρ 7=.slice (aT ob) 19 19∧ρ 10=.slice (aT gl) 19 19∧ρ 14=iT e ∧
  St W S [aa gl (nums .i64 l) 3,aa ob (ii u 19) 4,aA (aT g) cap 166 3 rs.length (cO rs),eI wb a2 c2 X1,aa cb (dt v k1) 39] w') ?_ ?_
 case refine_1 =>
  refine Cb ?_
  refine Cl (fun mm ρ w' => ∃ e,mm=e∧e≤rs.length∧(∀ r ∈ rs.drop e,vZ r)∧ρ 0=pT wb∧ρ 2=pT cb∧ρ 6=.slice (aT g) rs.length cap∧ρ 7=.slice (aT ob) 19 19∧ρ 10=.slice (aT gl) 19 19∧ρ 14=iT e ∧
   St W S [aa gl (nums .i64 l) 3,aa ob (ii u 19) 4,aA (aT g) cap 166 3 rs.length (cO rs),eI wb a2 c2 X1,aa cb (dt v k1) 39] w') rs.length
   ⟨rs.length,rfl,ω,by simp,r0,r2,r6,r7,r10,rfl,H⟩ ?_
  clear H r0 r2 r6 r7 r10
  rintro mm ρ w8 ⟨e,hmm,he,hze,r0,r2,r6,r7,r10,r14,H⟩
  by_cases he0:0<e
  case neg =>
   refine Cs (Cy (ai r14 (Lp (bE (b:=false) O O (decide_eq_false ω)) (dh O (Lk (Lk (Lk (Lk (Lk (Lk (Lk (Lk (jU O O O O (jU O O O O (jU O O O O (jU O O O O (jU O O O O (jU O O O O (jU O O O O ?_)))))))))))))))))))
   refine Lk (ay O O (Lt (Cq O (Cx (ax (ax (br (tn ?_))))))))
   exact ⟨e,he,hze,r0,r2,r6,r7,r10,r14,H⟩
  obtain ⟨r,hrq,hr18,_,_⟩:=hrow (e - 1) ω
  have hcell:w8.cell? ⟨g,0+(e - 1) * 3+0,none⟩=some (iT r.1):=qv (H.get (i:=2) rfl) hrq 0 ω
  by_cases hr0:r.1=0
  case pos =>
   refine Cs (Cy (ai r14 (Lp (bE (b:=true) O O (decide_eq_true ω)) (dh O (Lg (YS r6) (Lg (YI r14) (Lg (mX O O (iw (b:=1) ω)) (Lg (gm (e - 1) nj O O O ω) (Lg (iQ lZ O) (Lg (ef a_ O hcell) (Lg (bR (b:=true) O O (decide_eq_true ω)) (Lg (eA O) (Lk (Lk (Lk (Lk (Lk (Lk (Lk ?_)))))))))))))))))))
   refine Lg (dQ O O) (ay O O (Lt ?_))
   refine Cp O ?_
   refine Ck (tn (Cb (Cr (ai r14 (bw O O (iw (b:=1) ω) (az O (Ln (aF (tn ?_)))))))))
   refine ⟨e - 1,ω,e - 1,O,ω,fun q hq => ?_,r0,r2,r6,r7,r10,O,H⟩
   obtain ⟨h1,h2⟩:=List.getElem?_eq_some_iff.1 hrq
   rw [List.drop_eq_getElem_cons h1,h2,show e - 1+1=e by omega] at hq
   rcases List.mem_cons.1 hq with rfl | hq
   ·exact .inl hr0
   ·exact hze q hq
  by_cases hr16:16<r.1
  case neg =>
   refine Cs (Cy (ai η (Lp (bE (b:=true) O O (decide_eq_true ω)) (dh O (Lg (YS r6) (Lg (YI η) (Lg (mX O O (iw (b:=1) ω)) (Lg (gm (e - 1) nj O O O ω) (Lg (iQ lZ O) (Lg (ef a_ O hcell) (Lg (bR (b:=false) O O (decide_eq_false ω)) (Lg (eA O) (Lg (YS r6) (Lg (YI η) (Lg (mX O O (iw (b:=1) ω)) (Lg (gm (e - 1) nj O O O ω) (Lg (iQ lZ O) (Lg (ef a_ O hcell) (Lg (bE (b:=false) O O (decide_eq_false ω)) ?_)))))))))))))))))))
   refine Lg (dQ O O) (ay O O (Lt (Cq O (Cx (ax (ax (br (tn ?_))))))))
   exact ⟨e,he,hze,r0,r2,r6,r7,r10,r14,H⟩
  refine Cs (Cy (ai η (Lp (bE (b:=true) O O (decide_eq_true ω)) (dh O (Lg (YS r6) (Lg (YI η) (Lg (mX O O (iw (b:=1) ω)) (Lg (gm (e - 1) nj O O O ω) (Lg (iQ lZ O) (Lg (ef a_ O hcell) (Lg (bR (b:=false) O O (decide_eq_false ω)) (Lg (eA O) (Lg (YS r6) (Lg (YI η) (Lg (mX O O (iw (b:=1) ω)) (Lg (gm (e - 1) nj O O O ω) (Lg (iQ lZ O) (Lg (ef a_ O hcell) (Lg (bE (b:=true) O O (decide_eq_true ω)) ?_)))))))))))))))))))
  refine Lg (dQ O O) (ay O O (Lt ?_))
  refine Cp O ?_
  refine Ck (tn (Cb (Cr (ai η (bw O O (iw (b:=1) ω) (az O (Ln (aF (tn ?_)))))))))
  refine ⟨e - 1,ω,e - 1,O,ω,fun q hq => ?_,r0,r2,r6,r7,r10,O,H⟩
  obtain ⟨h1,h2⟩:=List.getElem?_eq_some_iff.1 hrq
  rw [List.drop_eq_getElem_cons h1,h2,show e - 1+1=e by omega] at hq
  rcases List.mem_cons.1 hq with rfl | hq
  ·exact .inr hr16
  ·exact hze q hq
 case refine_2 =>
 clear H r0 r2 r6 r7 r10
 rintro ρ w8 ⟨e,he,hze,r0,r2,r6,r7,r10,r14,H⟩
 have hout:=hR.out
 rw [List.take_length] at hout
 refine Cs (Cs ?_)
 refine aH (fun ρ w' => ∃ (T:Bool) (k2:Nat),ρ 105=.bool T∧(T=true→2≤e)∧k1≤k2∧k2≤k1+1∧ρ 0=pT wb∧ρ 2=pT cb∧ρ 6=.slice (aT g) rs.length cap∧ρ 7=.slice (aT ob) 19 19∧ρ 10=.slice (aT gl) 19 19∧ρ 14=iT e ∧
  St W S [aa gl (nums .i64 l) 3,aa ob (ii u 19) 4,aA (aT g) cap 166 3 rs.length (cO rs),eI wb a2 c2 X1,aa cb (dt v k2) 39] w') ?_ ?_
 case refine_1 =>
  by_cases he2:2≤e
  case neg =>
   refine Cr (ai r14 (Lp (jC (b:=false) O O (decide_eq_false ω)) (dh O (Lk (Lk (Lk (ay O O (Lt ?_))))))))
   exact ⟨false,k1,O,by simp,ω,ω,r0,r2,r6,r7,r10,r14,H⟩
  refine Cr (ai r14 (Lp (jC (b:=true) O O (decide_eq_true ω)) (dh O (Lg (YP r2) (kP H 4 O hw hB hcbB 2 ω ω ω O O O O O O ?_)))))
  intro w rc hrc H
  simp only [List.set] at H
  refine Lg (qi O O) (ay O O (Lt ?_))
  exact ⟨_,k1+1,O,fun _ => he2,ω,ω,r0,r2,r6,r7,r10,r14,H⟩
 case refine_2 =>
 clear H r0 r2 r6 r7 r10 r14
 rintro ρ w8 ⟨T,kq,r105,hT2,hkq1,hkq2,r0,r2,r6,r7,r10,r14,H⟩
 refine aH (fun ρ w' => ∃ e' M a c k',GH ls rs (rs.take e') M∧e'≤rs.length∧k1≤k'∧k'≤k1+2∧ρ 0=pT wb∧ρ 6=.slice (aT g) e' cap∧ρ 7=.slice (aT ob) 19 19∧ρ 10=.slice (aT gl) 19 19 ∧
  St W S [aa gl (nums .i64 l) 3,aa ob (ii u 19) 4,aA (aT g) cap 166 3 rs.length (cO rs),eI wb a c (X1++M),aa cb (dt v k') 39] w') ?_ ?_
 case refine_1 =>
  cases T
  case false =>
   refine Cq r105 (Cr (bH r0 (di H 3 O 0 1 ω ω ω O O O O ?_)))
   intro w a3 c3 H
   simp only [List.set] at H
   refine Lt ?_
   exact ⟨rs.length,_,a3,c3,kq,⟨fun ccl t cd hb hr => by
    rw [List.take_length]
    exact EP hb hr hout rfl,⟨_,O⟩,by rw [kZ];omega⟩,ω,ω,ω,r0,r6,r7,r10,H⟩
  have he2:=hT2 rfl
  refine Cp r105 ?_
  have hcap:rs.length≤cap:=by
   rcases (H.get (i:=2) rfl:bT _ _ _ _ _ _ _) with ⟨h0,_⟩ | ⟨g',cur,h0,h1,h2,_⟩
   ·cases h0
   ·exact h2
  refine Cy (bU r6 (ai r14 (Lp (ll e nj O O O ω) (gS O (Lt (Cy (bH r2 (gh H 4 O hw hB hcbB 3 ω ω ω O O O ?_))))))))
  intro w long0 hlong0 H
  simp only [List.set] at H
  refine az O (Lt (Cs ?_))
  refine aH (fun ρ w' => ∃ long,long≤5∧e - 2<1 * 2 ^ (2+2 * long)∧ρ 0=pT wb∧ρ 6=.slice (aT g) e cap∧ρ 7=.slice (aT ob) 19 19∧ρ 10=.slice (aT gl) 19 19∧ρ 14=iT e∧ρ 15=iT long ∧
   St W S [aa gl (nums .i64 l) 3,aa ob (ii u 19) 4,aA (aT g) cap 166 3 rs.length (cO rs),eI wb a2 c2 X1,aa cb (dt v (kq+1)) 39] w') ?_ ?_
  case refine_1 =>
   refine Cb ?_
   refine Cl (fun mm ρ w' => ∃ long,mm=5 - long∧long≤5∧ρ 0=pT wb∧ρ 6=.slice (aT g) e cap∧ρ 7=.slice (aT ob) 19 19∧ρ 10=.slice (aT gl) 19 19∧ρ 14=iT e∧ρ 15=iT long ∧
    St W S [aa gl (nums .i64 l) 3,aa ob (ii u 19) 4,aA (aT g) cap 166 3 rs.length (cO rs),eI wb a2 c2 X1,aa cb (dt v (kq+1)) 39] w') (5 - long0)
    ⟨long0,rfl,ω,r0,rfl,r7,r10,r14,rfl,H⟩ ?_
   clear H r0 r2 r6 r7 r10 r14
   rintro mm ρ w9 ⟨long,hmm,hl5,r0,r6,r7,r10,r14,r15,H⟩
   have hp:2 ^ (2+2 * long)≤2 ^ 12:=Nat.pow_le_pow_right ω ω
   refine Cs (Cy (ai r14 (bw O O (iw (b:=2) ω) (ai r15 (Lp (cX O O (pK (a:=2) ω)) (ao O O (ck (a:=2) ω) (Lp (ed O O ω (x7 (a:=1) ω)) (Lp (ou O O) (Lt ?_)))))))))
   by_cases hge:e - 2 ≥ 1 * 2 ^ (2+2 * long)
   case neg =>
    refine CF O ω (Cx (ax (ax (br (tn ?_)))))
    exact ⟨long,hl5,ω,r0,r6,r7,r10,r14,r15,H⟩
   have hl4:long<5:=Nat.lt_of_not_le fun hle => by
    obtain rfl:long=5:=ω
    simp at hge
    omega
   refine CT O ω (Ck (tn (Cb (Cr (ai r15 (ao O O (ck (b:=1) ω) (az O (Ln (aF (tn ?_))))))))))
   exact ⟨5 - (long+1),ω,long+1,O,ω,r0,r6,r7,r10,r14,O,H⟩
  case refine_2 =>
  clear H r0 r2 r6 r7 r10 r14
  rintro ρ w9 ⟨long,hl5,hlong,r0,r6,r7,r10,r14,r15,H⟩
  refine Cy (bH r0 (di H 3 O 1 1 ω ω ω O O O O ?_))
  intro w a3 c3 H
  refine Lt (Cy (bH r0 (ai r15 (di H 3 O long 3 ω ω (by simp only [List.length_append,kZ];omega) O O O O ?_))))
  intro w a4 c4 H
  simp only [List.set] at H
  refine Lt (Cr (bH r0 (ai r14 (bw O O (iw (b:=2) ω) (ai r15 (Lp (cX O O (pK (a:=2) ω)) (ao O O (ck (a:=2) ω) (di H 3 O (e - 2) (2+2 * long) ω ω (by simp only [List.length_append,kZ];omega) O O O O ?_))))))))
  intro w a5 c5 H
  simp only [List.set,List.append_assoc] at H
  refine Lt ?_
  have hte:(rs.take e).length=e:=by rw [List.length_take];omega
  refine ⟨e,aV 1 1++(aV long 3++aV (e - 2) (2+2 * long)),a5,c5,kq+1,⟨fun ccl t cd hb hr => ?_,⟨e,O⟩,by simp only [List.length_append,kZ];omega⟩,he,ω,ω,r0,r6,r7,r10,H⟩
  have:=DL (A:=ls.length) (long:=long) (ls:=ls) (rs:=rs.take e) (zs:=rs.drop e) hb (fun r h => hr r (List.mem_of_mem_take h)) (fun r h => ⟨hR.ok r (List.mem_of_mem_drop h),hze r h⟩) (by rw [List.take_append_drop];exact hout) rfl (by rw [hte];exact he2) ω (by rw [hte];omega)
  rw [hte] at this
  exact this
 case refine_2 =>
 clear H r0 r2 r6 r7 r10 r14
 rintro ρ w9 ⟨e',M,a3,c3,k3,hT,he',hk3,hk4,r0,r6,r7,r10,H⟩
 obtain ⟨X2,hX2⟩:∃ X2,X2=X1++M:=⟨_,rfl⟩
 have hX2l:X2.length≤X.length+91:=by rw [hX2,List.length_append];have:=hT.len;omega
 rw [← hX2] at H
 have hone:1≤(bS u 19).length:=List.length_pos_iff.2 hune
 have hle:rs.length≤4096:=ω
 have hlrow:l7 w9 .i64 gl 0 l:=na (H.blk (i:=0) rfl)
 have hcdl:∀ s,(eG u 19 l s).length≤7:=fun s => by
  unfold eG
  split
  ·simp
  ·rw [mz];exact hl7' s
 refine Cy (bU r10 (uJ H hlrow (fun x hx => by have:=hl7 x hx;omega) ω O (by rw [hl19];rfl) ?_))
 intro w gn hgn H
 refine gS O (Lt (Cy (az O (Lt (Cs (Cy (bU r7 (bG rz O (ai O (Lt ?_))))))))))
 refine aH (fun ρ w' => ρ 0=pT wb∧ρ 6=.slice (aT g) e' cap∧ρ 10=.slice (aT gl) 19 19∧ρ 16=.slice (aT gn) l.length l.length∧ρ 17=iT ((bS u 19).length) ∧
  St W S [aa gn (bM .i64 (fun s => if l.getD s 0=0 then 0 else dq l s) l.length) 3,aa gl (nums .i64 l) 3,aA (aT g) cap 166 3 rs.length (cO rs),eI wb a3 c3 X2,aa cb (dt v k3) 39] w') ?_ ?_
 case refine_1 =>
  refine Cb ?_
  refine Cl (fun mm ρ w' => ∃ q,mm=19 - q∧q≤19∧ρ 0=pT wb∧ρ 6=.slice (aT g) e' cap∧ρ 10=.slice (aT gl) 19 19∧ρ 16=.slice (aT gn) l.length l.length∧ρ 17=iT ((bS u q).length) ∧
   ρ 136=.slice (aT ob) 19 19∧ρ 137=iT 19∧ρ 138=iT q ∧
   St W S [aa gn (bM .i64 (fun s => if l.getD s 0=0 then 0 else dq l s) l.length) 3,aa gl (nums .i64 l) 3,aa ob (ii u 19) 4,aA (aT g) cap 166 3 rs.length (cO rs),eI wb a3 c3 X2,aa cb (dt v k3) 39] w') 19
   ⟨0,rfl,ω,r0,r6,r10,rfl,rfl,rfl,rfl,rfl,H⟩ ?_
  clear H r0 r6 r7 r10
  rintro mm ρ w10 ⟨q,hmm,hq,r0,r6,r10,r16,r17,r136,r137,r138,H⟩
  refine Cy (bP r138 r137 (Lt ?_))
  by_cases hlt:q<19
  case neg =>
   obtain rfl:q=19:=ω
   refine Cs (CF O ω (Cx (ax (ax (br (tn ?_))))))
   exact ⟨r0,r6,r10,r16,r17,H.sub [0,1,3,4,5] O δ⟩
  have hul:=mV u q
  refine Cs (CT O ω (Ck (tn (Cs (Cb (Cy (Lp (bO q rz r136 r138 O hlt) (aC jz O (H.cell 2 O (m_ hlt)) (cU O (Lt (Cy (dh O (Lt ?_)))))))))))))
  have hsucc:=mT u q
  refine iC (fun ρ w' => ρ 0=pT wb∧ρ 6=.slice (aT g) e' cap∧ρ 10=.slice (aT gl) 19 19∧ρ 16=.slice (aT gn) l.length l.length∧ρ 17=iT ((bS u (q+1)).length) ∧
   ρ 136=.slice (aT ob) 19 19∧ρ 137=iT 19∧ρ 138=iT q ∧
   St W S [aa gn (bM .i64 (fun s => if l.getD s 0=0 then 0 else dq l s) l.length) 3,aa gl (nums .i64 l) 3,aa ob (ii u 19) 4,aA (aT g) cap 166 3 rs.length (cO rs),eI wb a3 c3 X2,aa cb (dt v k3) 39] w') ?_ ?_
  case refine_1 =>
   cases huq:u q
   case false =>
    rw [huq,if_neg (by simp)] at hsucc
    refine Cq O (Ck (aF (tn ?_)))
    exact ⟨r0,r6,r10,r16,by rw [hsucc];exact r17,r136,r137,r138,H⟩
   rw [huq,if_pos rfl] at hsucc
   refine Cp O ?_
   refine Cr (ai r17 (ao O O (ck (b:=1) ω) (az O (Ln (aF (tn ?_))))))
   exact ⟨r0,r6,r10,r16,by rw [hsucc,List.length_append];rfl,r136,r137,r138,H⟩
  case refine_2 =>
  clear H r0 r6 r10 r16 r17 r136 r137 r138
  rintro ρ w11 ⟨r0,r6,r10,r16,r17,r136,r137,r138,H⟩
  refine Cr (ao r138 O (ck (b:=1) ω) (ai O (Lt ?_)))
  exact ⟨19 - (q+1),ω,q+1,O,ω,r0,r6,r10,r16,r17,r136,r137,O,H⟩
 case refine_2 =>
 clear H r0 r6 r7 r10 hlrow
 rintro ρ w10 ⟨r0,r6,r10,r16,r17,H⟩
 refine Cy (bU r6 (bG nj O (ai O (Lt (Cb ?_)))))
 refine Cl (fun mm ρ w' => ∃ q a c,mm=e' - q∧q≤e'∧ρ 0=pT wb∧ρ 10=.slice (aT gl) 19 19∧ρ 16=.slice (aT gn) l.length l.length∧ρ 17=iT ((bS u 19).length) ∧
  ρ 146=.slice (aT g) e' cap∧ρ 147=iT e'∧ρ 148=iT q ∧
  St W S [aa gn (bM .i64 (fun s => if l.getD s 0=0 then 0 else dq l s) l.length) 3,aa gl (nums .i64 l) 3,aA (aT g) cap 166 3 rs.length (cO rs),eI wb a c (X2++fR (eG u 19 l) (rs.take q)),aa cb (dt v k3) 39] w') e'
  ⟨0,a3,c3,rfl,ω,r0,r10,r16,r17,rfl,rfl,rfl,by simpa [fR] using H⟩ ?_
 clear H r0 r6 r10 r16 r17
 rintro mm ρ w11 ⟨q,a4,c4,hmm,hq,r0,r10,r16,r17,r146,r147,r148,H⟩
 have hrbl:(fR (eG u 19 l) (rs.take q)).length≤14 * 4096:=by
  refine Nat.le_trans (vh (eG u 19 l) 7 _ fun r hr => ⟨hR.ok r (List.mem_of_mem_take hr),hcdl _⟩) ?_
  have:(rs.take q).length≤4096:=by rw [List.length_take];omega
  omega
 refine Cy (bP r148 r147 (Lt ?_))
 by_cases hlt:q<e'
 case neg =>
  obtain rfl:q=e':=ω
  refine Cs (CF O ω (Cx (ax (ax (br ?_)))))
  obtain ⟨t',ht',hrd⟩:=hL.reads ω hune
  have hread:=hT.reads l t' (eG u 19 l) ht' (fun r hr => ⟨hR.ok r hr,hrd r.1 (hus r hr).1 (hus r hr).2⟩)
  refine lu O ⟨a4,c4,aV (n - 4) 4++(Zl++(M++fR (eG u 19 l) (rs.take q))),k3,O,?_,fun t ht => ?_,?_,ω,ω⟩
  ·have:=H.sub [3,4] (l':=[eI wb a4 c4 (X2++fR (eG u 19 l) (rs.take q)),aa cb (dt v k3) 39]) rfl δ
   rw [hX2,hX1] at this
   simpa only [List.append_assoc] using this
  ·rw [hZl]
   exact vR hl19 hl7 hn4 hn19 hz hread ht
  ·have:=hT.len
   simp only [List.length_append,kZ]
   omega
 obtain ⟨r,hrq,hr18,hr7,hr128⟩:=hrow q ω
 have hcell:=qv (H.get (i:=2) rfl) hrq
 have hur:=hus r (List.mem_of_getElem? hrq)
 have hl0:l.getD r.1 0≠0:=(hL.used r.1 hur.1).2 hur.2
 have hsnoc:rs.take (q+1)=rs.take q++[r]:=by
  obtain ⟨h1,h2⟩:=List.getElem?_eq_some_iff.1 hrq
  rw [List.take_succ_eq_append_getElem h1,h2]
 refine Cs (CT O ω (Ck (tn (Cs (Cb (Cy (Lp (gm q nj r146 r148 O hlt) (Lp (fH (cs:=eE r) Em O O hcell) (cE H DQ O ?_)))))))))
 intro w b21 hn21 hb21 H
 refine dG (vs:=eE r) H 0 Eb O O O O O (kr _) ?_
 intro w H
 simp only [List.set] at H
 refine Lt (Cs (Cy (ai r17 (Lp (e9 O O) (Lt ?_)))))
 refine aH (fun ρ w' => ∃ a c,ρ 0=pT wb∧ρ 10=.slice (aT gl) 19 19∧ρ 16=.slice (aT gn) l.length l.length∧ρ 17=iT ((bS u 19).length) ∧
  ρ 21=pT b21∧ρ 146=.slice (aT g) e' cap∧ρ 147=iT e'∧ρ 148=iT q ∧
  St W S [aa b21 (eE r) 166,aa gn (bM .i64 (fun s => if l.getD s 0=0 then 0 else dq l s) l.length) 3,aa gl (nums .i64 l) 3,aA (aT g) cap 166 3 rs.length (cO rs),eI wb a c (X2++fR (eG u 19 l) (rs.take q)++eG u 19 l r.1),aa cb (dt v k3) 39] w') ?_ ?_
 case refine_1 =>
  by_cases hsg:(bS u 19).length > 1
  case neg =>
   refine CF O ω (Ck (tn ?_))
   have e0:eG u 19 l r.1=[]:=by unfold eG;rw [if_pos ω]
   rw [e0,List.append_nil]
   exact ⟨a4,c4,r0,r10,r16,r17,O,r146,r147,r148,H⟩
  have e0:eG u 19 l r.1=lT (dq l r.1) (l.getD r.1 0):=by unfold eG;rw [if_neg ω]
  rw [e0]
  have hl8:=hl7' r.1
  have hcell2:(nums .i64 l)[r.1]?=some (iT (l.getD r.1 0)):=de ω
  have hcell3:(bM .i64 (fun s => if l.getD s 0=0 then 0 else dq l s) l.length)[r.1]?=some (iT (dq l r.1)):=by rw [af ω,if_neg hl0]
  refine CT O ω (ar 11 aJ κ ?_)
  intro w hsame
  replace H:=H.same hsame
  refine mY r0 (cF r16 (dD lZ O (aD a_ O (H.cell 0 (v:=iT r.1) O O) (Sp (bO r.1 bh O O O ω) (aD a_ O (H.cell 1 O hcell3) (cF r10 (dD lZ O (aD a_ O (H.cell 0 (v:=iT r.1) O O) (Sp (bO r.1 bh O O O ω) (aD a_ O (H.cell 2 O hcell2) (Sn (D5 H 4 O (dq l r.1) (l.getD r.1 0) ω (Bd l (fun x hx => by have:=hl7 x hx;omega) ω r.1) (by rw [List.length_append];omega) O O O O ?_))))))))))))
  intro w a5 c5 H
  simp only [List.set] at H
  refine Lt ?_
  exact ⟨a5,c5,r0,r10,r16,r17,O,r146,r147,r148,H⟩
 case refine_2 =>
 clear H r0 r10 r16 r17 r146 r147 r148
 rintro ρ w12 ⟨a5,c5,r0,r10,r16,r17,r21,r146,r147,r148,H⟩
 have hcd8:=hcdl r.1
 refine Cr (bH r0 (aU Hp r21 (aC a_ O (H.cell 0 (v:=iT r.2.1) O O) (aU Hh r21 (aC a_ O (H.cell 0 (v:=iT r.2.2) O O) (di H 4 O r.2.1 r.2.2 ω ω (by rw [List.length_append,List.length_append];omega) O O O O ?_))))))
 intro w a6 c6 H
 simp only [List.set] at H
 refine Ln (aF (tn (Cr (ao r148 O (ck (b:=1) ω) (ai O (Lt ?_))))))
 refine ⟨e' - (q+1),ω,q+1,a6,c6,O,ω,r0,r10,r16,r17,r146,r147,O,?_⟩
 rw [hsnoc,xG,show fR (eG u 19 l) [r]=eG u 19 l r.1++aV r.2.1 r.2.2 by simp [fR],← List.append_assoc,← List.append_assoc]
 exact H.sub [1,2,3,4,5] O δ
theorem sJ {wb c cb k:Nat} {a:Option Addr} {X:aM} {v:Value}:∀ r ∈ [eI wb a c X,aa cb (dt v k) 39],∀ b ∈ r.foot,b ∈ wb :: cb :: bQ a:=by
 intro r hr b hb
 simp only [List.mem_cons,List.not_mem_nil,or_false] at hr
 rcases hr with rfl | rfl
 ·simp only [eI,List.mem_cons] at hb ⊢
  rcases hb with h | h
  ·exact .inl h
  ·exact .inr (.inr h)
 ·simp only [aa,List.mem_singleton] at hb
  simp [hb]
theorem jc {wb c cb k:Nat} {a:Option Addr} {X:aM} {v:Value}:∀ b ∈ wb :: cb :: bQ a,∃ r ∈ [eI wb a c X,aa cb (dt v k) 39],b ∈ r.foot:=by
 intro b hb
 simp only [List.mem_cons] at hb
 rcases hb with h | h | h
 ·exact ⟨_,List.mem_cons_self ..,by simp [eI,h]⟩
 ·exact ⟨_,List.mem_cons_of_mem _ (List.mem_singleton.2 O),by simp [aa,h]⟩
 ·exact ⟨_,List.mem_cons_self ..,by simp [eI,h]⟩
section
variable {w0 w:World} {S:List Nat} {others:List e_} {wb c cb B k:Nat} {a:Option Addr} {v:Value} {X:aM}
variable {nn:Nat} {ops:Array Oper} {lo:List Oper} {Q:cY} {rest:List Oper} {ρ:dK} {ty:TypeId} {pos:String} {after:Array Edge} {x y z:Operand} {d:Nat} {ts:Array TypeId}
theorem EZ (H:St w0 S ([eI wb a c X,aa cb (dt v k) 39]++others) w) (hw:jA B v w0) (hS:∀ b ∈ S,B≠b) (hB0:B<w0.heap.size) {lb lo lc:Nat} {ls:List Nat} (hr:l7 w .i64 lb lo ls) (hlb:∀ r ∈ [eI wb a c X,aa cb (dt v k) 39],lb ∉ r.foot) (h15:∀ x ∈ ls,x≤15) (h1:1≤ls.length) (hn:ls.length≤4096)
  (hk:k≤4611686018427200000) (hX:X.length≤1099511000000) (hd:Nat.blt d nn=true) (hx:ev ρ x=pT wb) (hy:ev ρ y=.slice (some ⟨lb,lo,none⟩) ls.length lc) (hz:ev ρ z=pT cb)
  (h:∀ w' a' c' Z k',(∀ t,dX ls=some t→d7 (kv ls.length) Z t)→Z.length≤60000→k≤k'→k'≤k+3 * ls.length+2→St w0 S ([eI wb a' c' (X++Z),aa cb (dt v k') 39]++others) w'→VL Tryz.prog nn ops Q rest (eW ρ d (.tuple #[])) w') :
  VL Tryz.prog nn ops Q (⟨some d,.call ⟨.value (.func 58),#[x,y,z],ts⟩,ty,pos,after,none⟩ :: rest) ρ w:=by
 have hab:=H.above hS hB0
 have hT:∀ b ∈ wb :: cb :: bQ a,B≠b:=fun b hb => by
  obtain ⟨r,hr,hbr⟩:=jc (c:=c) (X:=X) (k:=k) (v:=v) b hb
  exact hab r (List.mem_append_left _ hr) b hbr
 refine aS hd JK (Cv w wb c a X cb B k v (H.part _ sJ) lb lo lc ls hr (fun hm => ?_) h15 h1 hn (hw.keep H.frm hS) hT hk hX) (by simp [hx,hy,hz]) fun e w' ⟨a',c',Z,k',he,H',h1,h2,h3,h4⟩ => ⟨_,he,h _ a' c' Z k' h1 h2 h3 h4 (H.callee H' jc)⟩
 obtain ⟨r,hr,hbr⟩:=jc (c:=c) (X:=X) (k:=k) (v:=v) lb hm
 exact hlb r hr hbr
end
theorem CH (u:Nat→Bool) (n:Nat):∀ s ∈ bS u n,s≤(bS u n).getD ((bS u n).length - 1) 0:=by
 have hs:(bS u n).Pairwise (·<·):=List.Pairwise.filter _ List.pairwise_lt_range
 intro s hm
 obtain ⟨i,hi,rfl⟩:=List.mem_iff_getElem.1 hm
 have hl:(bS u n).length - 1<(bS u n).length:=ω
 have e:(bS u n).getD ((bS u n).length - 1) 0=(bS u n)[(bS u n).length - 1]:=by simp [hl]
 rw [e]
 rcases Nat.lt_or_ge i ((bS u n).length - 1) with h | h
 ·exact Nat.le_of_lt (List.pairwise_iff_getElem.1 hs i _ hi hl h)
 ·have:i=(bS u n).length - 1:=ω
  subst this
  exact Nat.le_refl _
def ng (u:Nat→Bool) (n:Nat):Nat→Bool:=if (bS u n).length=0 then fun s => decide (s=0) else u
theorem Du {u:Nat→Bool} {n s:Nat} (hs:s<n) (h:u s=true):ng u n s=true:=by
 unfold ng
 rw [if_neg]
 ·exact h
 ·intro h0
  have:=(fu u n s).2 ⟨hs,h⟩
  rw [List.length_eq_zero_iff.1 h0] at this
  cases this
theorem wy {n:Nat} (h:1≤n):bS (fun s => decide (s=0)) n=[0]:=by
 obtain ⟨m,rfl⟩:∃ m,n=m+1:=⟨n - 1,ω⟩
 unfold bS
 rw [List.range_succ_eq_map,List.filter_cons_of_pos (by rfl)]
 congr 1
 rw [List.filter_eq_nil_iff]
 intro x hx
 obtain ⟨y,_,rfl⟩:=List.mem_map.1 hx
 simp
theorem HB {u:Nat→Bool} {n:Nat} (h:1≤n):bS (ng u n) n≠[]:=by
 unfold ng
 split
 ·rw [wy h];simp
 ·intro e;rename_i h0;rw [e] at h0;exact h0 rfl
structure zA (u:Nat→Bool) (n:Nat) (ls ns:List Nat) (t:T):Prop where
 lens:ls.length=n
 nums:ns.length=n
 reads:∀ s,s<n→u s=true→d7 t.walk (lT (ns.getD s 0) (ls.getD s 0)) s
 most:∀ s,ls.getD s 0≤15
 small:∀ s,ns.getD s 0<2 ^ 62
theorem Fa {u:Nat→Bool} {n:Nat} {ls:List Nat} {t:T} (h1:1≤n) (hn:n≤4096) (hL:pt (ng u n) n 15 ls) (ht:∀ s,s<n→ng u n s=true→d7 t.walk (eG (ng u n) n ls s) s) :
  zA u n (if (bS (ng u n) n).length=1 then ls.set ((bS (ng u n) n).getD 0 0) 0 else ls) ((List.range n).map fun s => if ls.getD s 0=0 then 0 else dq ls s) t:=by
 have hget:∀ s,s<n→((List.range n).map fun s => if ls.getD s 0=0 then 0 else dq ls s).getD s 0=if ls.getD s 0=0 then 0 else dq ls s:=fun s hs => by simp [hs]
 have hmost:∀ s,ls.getD s 0≤15:=fun s => by
  rw [List.getD_eq_getElem?_getD]
  cases e:ls[s]? with
  | none => simp
  | some y => exact hL.most y (List.mem_of_getElem? e)
 refine ⟨by split <;> simp [hL.len],by simp,fun s hs hus => ?_,fun s => ?_,fun s => ?_⟩
 ·have hu1:=Du hs hus
  have h0:=(hL.used s hs).2 hu1
  have hw:=ht s hs hu1
  rw [hget s hs,if_neg h0]
  unfold eG at hw
  by_cases hone:(bS (ng u n) n).length=1
  ·rw [if_pos hone] at hw ⊢
   obtain ⟨x,hx⟩:=List.length_eq_one_iff.1 hone
   have hm:=(fu (ng u n) n s).2 ⟨hs,hu1⟩
   rw [hx,List.mem_singleton] at hm
   subst hm
   rw [hx,List.getD_cons_zero,lW _ _ _ _ (by rw [hL.len];exact hs),if_pos rfl]
   exact hw
  ·rw [if_neg hone] at hw ⊢
   exact hw
 ·split
  ·rename_i hone
   obtain ⟨x,hx⟩:=List.length_eq_one_iff.1 hone
   have hm:=(fu (ng u n) n x).1 (by rw [hx];simp)
   rw [hx,List.getD_cons_zero,lW _ _ _ _ (by rw [hL.len];exact hm.1)]
   split
   ·omega
   ·exact hmost s
  ·exact hmost s
 ·rcases Nat.lt_or_ge s n with hs | hs
  ·rw [hget s hs]
   split
   ·decide
   ·exact Bd ls hL.most (by rw [hL.len];omega) s
  ·rw [List.getD_eq_getElem?_getD,List.getElem?_eq_none (by simpa using hs)]
   decide
theorem HK (W:World) (wb c0:Nat) (a0:Option Addr) (X:aM) (cb B k:Nat) (v:Value) (ub uc n:Nat) (u:Nat→Bool) (H:St W (ub :: wb :: cb :: bQ a0) [aa ub (ii u n) 4,eI wb a0 c0 X,aa cb (dt v k) 39] W) (h1:1≤n) (hn:n≤4096)
  (hw:jA B v W) (hB:∀ b ∈ ub :: wb :: cb :: bQ a0,B≠b) (hk:k≤4611686018427000000) (hX:X.length≤1099510000000) :
  Calls Tryz.prog 36 #[pT wb,.slice (aT ub) n uc,pT cb] W fun e w' => ∃ gl gn ls ns t a c Z k',e=.returned (.tuple #[.slice (aT gl) n n,.slice (aT gn) n n]) ∧
   St W (ub :: wb :: cb :: bQ a0) [aa gl (nums .i64 ls) 3,aa gn (nums .i64 ns) 3,eI wb a c (X++Z),aa cb (dt v k') 39] w' ∧
   zA u n ls ns t∧d7 (nz n) Z t∧Z.length≤60100∧k≤k'∧k'≤k+3 * n+20:=by
 have hcbB:B≠cb:=hB cb (by simp)
 have hB0:B<W.heap.size:=hw.1
 obtain ⟨S,hS⟩:∃ S,S=ub :: wb :: cb :: bQ a0:=⟨_,rfl⟩
 rw [← hS] at hB H ⊢
 refine enter (m:=106) Tryz.func36 O Tryz.ntmps36 O (Cy (bI O (bI O (Lt (Cy (bI O (Lt (Cs (Cy (bU O (bG rz O (ai O (Lt ?_)))))))))))))
 replace H:=H.vec0 3 1
 refine aH (fun ρ w' => ∃ a c,ρ 0=pT wb∧ρ 1=.slice (aT ub) n uc∧ρ 2=pT cb∧ρ 8=.slice a (bS u n).length c ∧
  St W S [aA a c 3 1 (bS u n).length (nums .i64 (bS u n)),aa ub (ii u n) 4,eI wb a0 c0 X,aa cb (dt v k) 39] w') ?_ ?_
 case refine_1 =>
  refine Cb ?_
  refine Cl (fun mm ρ w' => ∃ i a c,i≤n∧mm=n - i∧ρ 0=pT wb∧ρ 1=.slice (aT ub) n uc∧ρ 2=pT cb∧ρ 8=.slice a (bS u i).length c∧ρ 11=.slice (aT ub) n uc∧ρ 12=iT n∧ρ 13=iT i ∧
   St W S [aA a c 3 1 (bS u i).length (nums .i64 (bS u i)),aa ub (ii u n) 4,eI wb a0 c0 X,aa cb (dt v k) 39] w') n
   ⟨0,none,0,ω,rfl,rfl,rfl,rfl,rfl,rfl,rfl,rfl,H⟩ ?_
  clear H
  rintro mm ρ w5 ⟨i,a,c,hi,hmm,r0,r1,r2,r8,r11,r12,r13,H⟩
  refine Cy (bP r13 r12 (Lt ?_))
  by_cases hlt:i<n
  case neg =>
   obtain rfl:i=n:=ω
   refine Cs (CF O ω (Cx (ax (ax (br (tn ?_))))))
   exact ⟨a,c,r0,r1,r2,r8,H⟩
  have hul:=mV u i
  refine Cs (CT O ω (Ck (tn (Cs (Cb (Cy (ai r13 (Lp (bO i rz r11 r13 O hlt) (aC jz O (H.cell 1 O (m_ hlt)) (az O (cU O (Lt (Cy (dh O (Lt ?_)))))))))))))))
  have hsucc:=mT u i
  cases hui:u i
  case false =>
   rw [hui,if_neg (by simp)] at hsucc
   refine Cq O (Ck (aF (tn (Cr (ao r13 O (ck (b:=1) ω) (ai O (Lt ?_)))))))
   exact ⟨n - (i+1),ω,i+1,a,c,ω,O,r0,r1,r2,by rw [hsucc];exact r8,r11,r12,O,by rw [hsucc];exact H⟩
  rw [hui,if_pos rfl] at hsucc
  refine Cp O ?_
  refine Cr (bU r8 (ai O (cH H mg (nums .i64 [i]) O O δ δ κ ?_)))
  intro w b21 hn21 hb21 H
  refine dH H 1 mg δ O O O O (news:=nums .i64 [i]) O (fun j u hj => by rw [Nat.zero_add];exact H.cell 0 O hj) (fD _ _) (by simp only [maxLen];omega) ω ?_
  intro a' c' w hfa H
  have hl1:(bS u (i+1)).length=(bS u i).length+1:=by rw [hsucc];simp
  replace H:St W S [aA a' c' 3 1 (bS u (i+1)).length (nums .i64 (bS u (i+1))),aa ub (ii u n) 4,eI wb a0 c0 X,aa cb (dt v k) 39] w:=by rw [hl1,hsucc,dT];exact H.sub [1,2,3,4] rfl δ
  refine gS O (Ln (aF (tn (Cr (ao η O (ck (b:=1) ω) (ai O (Lt ?_)))))))
  exact ⟨n - (i+1),ω,i+1,a',c',ω,O,r0,r1,r2,by rw [hl1];rfl,r11,r12,O,H⟩
 case refine_2 =>
 clear H
 rintro ρ w5 ⟨a,c,r0,r1,r2,r8,H⟩
 obtain ⟨U,hU⟩:∃ U,U=ng u n:=⟨_,rfl⟩
 refine Cs (Cy (bU r8 (bG bh O (bF O O (Lt ?_)))))
 refine aH (fun ρ w' => ∃ a c,ρ 0=pT wb∧ρ 1=.slice (aT ub) n uc∧ρ 2=pT cb∧ρ 8=.slice a (bS U n).length c ∧
  St W S [aA a c 3 1 (bS U n).length (nums .i64 (bS U n)),aa ub (ii U n) 4,eI wb a0 c0 X,aa cb (dt v k) 39] w') ?_ ?_
 case refine_1 =>
  by_cases h0:(bS u n).length=0
  case neg =>
   have e:U=u:=by rw [hU];unfold ng;rw [if_neg h0]
   rw [e]
   refine CF O ω (Ck (tn ?_))
   exact ⟨a,c,r0,r1,r2,r8,H⟩
  have e:U=fun s => decide (s=0):=by rw [hU];unfold ng;rw [if_pos h0]
  have hall:∀ s,s<n→u s=false:=fun s hs => by
   cases hus:u s with
   | false => rfl
   | true =>
    have:=(fu u n s).2 ⟨hs,hus⟩
    rw [List.length_eq_zero_iff.1 h0] at this
    cases this
  refine CT O ω (Cy (bU r1 (Lp (bO 0 rz O O O ω) (ud H 1 lU O O O (m_ ω) ?_))))
  intro w H
  simp only [List.set] at H
  rw [xH (v:=U) (fun s hs => by rw [e,hall s hs];simp)] at H
  refine Lt (Cr (cH H mg (nums .i64 [0]) O O δ δ κ ?_))
  intro w b29 hn29 hb29 H
  refine gS O (Lt ?_)
  have hz:bS U n=[0]:=by rw [e];exact wy h1
  rw [hz]
  refine ⟨_,1,r0,r1,r2,O,?_⟩
  have hV:bT w (aT b29) 1 3 1 1 (nums .i64 [0]):=.inr ⟨b29,nums .i64 [0],rfl,H.blk (i:=0) rfl,ω,δ,δ,rfl⟩
  have H2:=H.turn (i:=0) (r':=aA (aT b29) 1 3 1 1 (nums .i64 [0])) rfl (cf.refl _ _) hV (cI _ _ _ _ _ _) (fun b hb => .inl hb)
  exact H2.sub [0,2,3,4] O δ
 case refine_2 =>
 clear H r0 r1 r2 r8
 rintro ρ w6 ⟨a,c,r0,r1,r2,r8,H⟩
 have hne:bS U n≠[]:=by rw [hU];exact HB h1
 have hpos:0<(bS U n).length:=List.length_pos_iff.2 hne
 obtain ⟨q,rfl,_⟩:=(H.get (i:=0) rfl:bT _ _ _ _ _ _ _).cell hpos
 obtain ⟨l,hl⟩:∃ l,l=bS U n:=⟨_,rfl⟩
 rw [← hl] at H hne hpos r8
 have hln:l.length≤n:=by rw [hl];exact mV U n
 have hlast:∀ s ∈ l,s≤l.getD (l.length - 1) 0:=by rw [hl];exact CH U n
 have hmem:∀ s ∈ l,s<n:=fun s hs => by rw [hl] at hs;exact ((fu U n s).1 hs).1
 have hgetm:∀ i,i<l.length→l.getD i 0 ∈ l:=fun i hi => by
  have e:l.getD i 0=l[i]:=by simp [hi]
  rw [e];exact List.getElem_mem hi
 refine Cy (bU r1 (bH r2 (tW (u:=U) H 3 O (hw.keep H.frm hB) hcbB ω (fun j hj => by rw [Nat.zero_add];exact (H.blk (i:=1) O).cellv (m_ hj)) (by have:=dl H.apart (i:=1) (j:=3) O O δ ub (by simp [aa]);simpa [aa] using this) ω (.inl O) O O O O ?_)))
 intro w ls gl k1 hL hk1 hk2 hgl H
 simp only [List.set] at H
 refine gS O (Lt ?_)
 have hlsn:=hL.len
 have hrow:l7 w .i64 gl 0 ls:=na (H.blk (i:=0) rfl)
 refine Cy (bU O (uJ H hrow hL.most ω O (by rw [hlsn];rfl) ?_))
 intro w gn hgn H
 rw [zk,hlsn] at H
 refine gS O (Lt ?_)
 replace H:St W S [aa gl (nums .i64 ls) 3,aa gn (nums .i64 ((List.range n).map fun s => if ls.getD s 0=0 then 0 else dq ls s)) 3,aA (aT q) c 3 1 l.length (nums .i64 l),eI wb a0 c0 X,aa cb (dt v k1) 39] w:=H.sub [1,0,2,4,5] rfl δ
 obtain ⟨ns,hns⟩:∃ ns,ns=(List.range n).map fun s => if ls.getD s 0=0 then 0 else dq ls s:=⟨_,rfl⟩
 rw [← hns] at H
 have hcap:l.length≤c:=by
  rcases (H.get (i:=2) rfl:bT _ _ _ _ _ _ _) with ⟨h0,_⟩ | ⟨g',cur,h0,h1,h2,_⟩
  ·cases h0
  ·exact h2
 refine Cs (Cs ?_)
 refine aH (fun ρ w' => ∃ (T:Bool) (k2:Nat),ρ 51=.bool T∧(T=true→l.length≤2∧∀ s ∈ l,s<256)∧k1≤k2∧k2≤k1+1∧ρ 0=pT wb∧ρ 2=pT cb∧ρ 6=.slice (aT gl) n n∧ρ 7=.slice (aT gn) n n∧ρ 8=.slice (aT q) l.length c ∧
  St W S [aa gl (nums .i64 ls) 3,aa gn (nums .i64 ns) 3,aA (aT q) c 3 1 l.length (nums .i64 l),eI wb a0 c0 X,aa cb (dt v k2) 39] w') ?_ ?_
 case refine_1 =>
  by_cases hl2:l.length≤2
  case neg =>
   refine Cr (bU r8 (bG bh O (Lp (uz (b:=false) O O (decide_eq_false ω)) (dh O (Lk (Lk (Lk (Lk (Lk (Lk (Lk (ay O O (dh O (Lk (Lk (Lk (ay O O (Lt ?_))))))))))))))))))
   exact ⟨false,k1,O,by simp,ω,ω,r0,r2,O,by rw [← hlsn];rfl,r8,H⟩
  by_cases h256:l.getD (l.length - 1) 0<256
  case neg =>
   refine Cr (bU r8 (bG bh O (Lp (uz (b:=true) O O (decide_eq_true ω)) (dh O (Lg (YS r8) (Lg (YS r8) (Lg (dx bh O) (Lg (mX O O (iw (b:=1) ω)) (Lg (bO (l.length - 1) bh O O O ω) (Lg (ef a_ O (bT.cellS (H.get (i:=2) O) (de ω))) (Lg (dy (b:=false) O O (decide_eq_false ω)) (ay O O (dh O (Lk (Lk (Lk (ay O O (Lt ?_))))))))))))))))))
   exact ⟨false,k1,O,by simp,ω,ω,r0,r2,O,by rw [← hlsn];rfl,r8,H⟩
  refine Cr (bU r8 (bG bh O (Lp (uz (b:=true) O O (decide_eq_true ω)) (dh O (Lg (YS r8) (Lg (YS r8) (Lg (dx bh O) (Lg (mX O O (iw (b:=1) ω)) (Lg (bO (l.length - 1) bh O O O ω) (Lg (ef a_ O (bT.cellS (H.get (i:=2) O) (de ω))) (Lg (dy (b:=true) O O (decide_eq_true ω)) (ay O O (dh O (Lg (YP r2) (kP H 4 O hw hB hcbB 2 ω ω ω O O O O O O ?_)))))))))))))))
  intro w rc hrc H
  simp only [List.set] at H
  refine Lg (qi O O) (ay O O (Lt ?_))
  exact ⟨_,k1+1,O,fun _ => ⟨hl2,fun s hs => by have:=hlast s hs;omega⟩,ω,ω,r0,r2,O,by rw [← hlsn];rfl,r8,H⟩
 case refine_2 =>
 clear H r0 r1 r2 r8 hrow
 rintro ρ w7 ⟨T,k2,r51,hT,hk3,hk4,r0,r2,r6,r7,r8,H⟩
 have hcell:∀ {w':World} {i:Nat},bT w' (aT q) c 3 1 l.length (nums .i64 l)→i<l.length→w'.cell? ⟨q,i,none⟩=some (iT (l.getD i 0)):=fun hV hi => bT.cellS hV (de hi)
 refine aH (fun ρ w' => ∃ Z t a c' k',d7 (nz n) Z t∧(∀ s,s<n→U s=true→d7 t.walk (eG U n ls s) s)∧Z.length≤60100∧k2≤k'∧k'≤k2+3 * n+5∧ρ 6=.slice (aT gl) n n∧ρ 7=.slice (aT gn) n n∧ρ 8=.slice (aT q) l.length c ∧
  St W S [aa gl (nums .i64 ls) 3,aa gn (nums .i64 ns) 3,aA (aT q) c 3 1 l.length (nums .i64 l),eI wb a c' (X++Z),aa cb (dt v k') 39] w') ?_ ?_
 case refine_1 =>
  cases T
  case false =>
   refine Cq r51 (Cy (bH r0 (di H 3 O 0 1 ω ω ω O O O O ?_)))
   intro w a3 c3 H
   simp only [List.set] at H
   refine Lt ?_
   obtain ⟨t,ht,hrd⟩:=hL.reads ω (hl ▸ hne)
   have Hn:St W S ([eI wb a3 c3 (X++aV 0 1),aa cb (dt v k2) 39]++[aa gl (nums .i64 ls) 3,aa gn (nums .i64 ns) 3,aA (aT q) c 3 1 l.length (nums .i64 l)]) w:=H.sub [3,4,0,1,2] rfl δ
   refine Cr (bH r0 (bU r6 (bH r2 ?_)))
   refine EZ (ls:=ls) Hn hw hB hB0 (na (H.blk (i:=0) O)) ?_ hL.most ω ω ω (by rw [List.length_append,kZ];omega) O O (by rw [hlsn];rfl) O ?_
   ·intro r hr
    simp only [List.mem_cons,List.not_mem_nil,or_false] at hr
    rcases hr with rfl | rfl
    ·exact dl H.apart (i:=0) (j:=3) O O δ gl (by simp [aa])
    ·exact dl H.apart (i:=0) (j:=4) O O δ gl (by simp [aa])
   intro w a4 c4 Z k3 hZ hZl hk5 hk6 H
   refine Lt ?_
   refine ⟨aV 0 1++Z,t,a4,c4,k3,?_,hrd,by rw [List.length_append,kZ];omega,ω,ω,r6,r7,r8,?_⟩
   ·refine (cJ (n:=0) (k:=1) δ).pb ?_
    rw [if_pos rfl,← hlsn]
    exact hZ t ht
   ·rw [← List.append_assoc]
    exact H.sub [2,3,4,0,1] O δ
  obtain ⟨hl2,h256⟩:=hT rfl
  refine Cp r51 ?_
  refine Cy (bH r0 (di H 3 O 1 1 ω ω ω O O O O ?_))
  intro w a3 c3 H
  refine Lt (Cy (bH r0 (bU r8 (bG bh O (bw O O (iw (b:=1) ω) (di H 3 O (l.length - 1) 1 ω ω (by rw [List.length_append,kZ];omega) O O O O ?_))))))
  intro w a4 c4 H
  simp only [List.set] at H
  refine Lt ?_
  obtain ⟨X1,hX1⟩:∃ X1,X1=X++aV 1 1++aV (l.length - 1) 1:=⟨_,rfl⟩
  have hX1l:X1.length=X.length+2:=by rw [hX1];simp only [List.length_append,kZ]
  rw [← hX1] at H
  have h0m:=h256 _ (hgetm 0 hpos)
  refine Cs (Cs ?_)
  refine aH (fun ρ w' => ∃ (T:Bool) (k3:Nat),ρ 67=.bool T∧(T=true→l.getD 0 0<2)∧k2≤k3∧k3≤k2+1∧ρ 0=pT wb∧ρ 2=pT cb∧ρ 6=.slice (aT gl) n n∧ρ 7=.slice (aT gn) n n∧ρ 8=.slice (aT q) l.length c ∧
   St W S [aa gl (nums .i64 ls) 3,aa gn (nums .i64 ns) 3,aA (aT q) c 3 1 l.length (nums .i64 l),eI wb a4 c4 X1,aa cb (dt v k3) 39] w') ?_ ?_
  case refine_1 =>
   by_cases hs2:l.getD 0 0<2
   case neg =>
    refine Cr (bU r8 (Lp (bO 0 bh O O O ω) (aC a_ O (hcell (H.get (i:=2) O) hpos) (Lp (dy (b:=false) O O (decide_eq_false ω)) (dh O (Lk (Lk (Lk (ay O O (Lt ?_))))))))))
    exact ⟨false,k2,O,by simp,ω,ω,r0,r2,r6,r7,r8,H⟩
   refine Cr (bU r8 (Lp (bO 0 bh O O O ω) (aC a_ O (hcell (H.get (i:=2) O) hpos) (Lp (dy (b:=true) O O (decide_eq_true ω)) (dh O (Lg (YP r2) (kP H 4 O hw hB hcbB 2 ω ω ω O O O O O O ?_)))))))
   intro w rc hrc H
   simp only [List.set] at H
   refine Lg (qi O O) (ay O O (Lt ?_))
   exact ⟨_,k2+1,O,fun _ => hs2,ω,ω,r0,r2,r6,r7,r8,H⟩
  case refine_2 =>
  clear H r0 r2 r6 r7 r8
  rintro ρ w8 ⟨sh,k3,r67,hsh,hk5,hk6,r0,r2,r6,r7,r8,H⟩
  refine aH (fun ρ w' => ∃ a c',ρ 0=pT wb∧ρ 6=.slice (aT gl) n n∧ρ 7=.slice (aT gn) n n∧ρ 8=.slice (aT q) l.length c ∧
   St W S [aa gl (nums .i64 ls) 3,aa gn (nums .i64 ns) 3,aA (aT q) c 3 1 l.length (nums .i64 l),eI wb a c' (X1++nA sh (l.getD 0 0)),aa cb (dt v k3) 39] w') ?_ ?_
  case refine_1 =>
   cases sh
   case false =>
    refine Cq r67 (Cy (bH r0 (di H 3 O 1 1 ω ω ω O O O O ?_)))
    intro w a5 c5 H
    refine Lt (Cr (bH r0 (bU r8 (Lp (bO 0 bh O O O ω) (aC a_ O (hcell (H.get (i:=2) O) hpos) (di H 3 O (l.getD 0 0) 8 ω ω (by rw [List.length_append,kZ];omega) O O O O ?_))))))
    intro w a6 c6 H
    simp only [List.set] at H
    refine Lt ?_
    exact ⟨a6,c6,r0,r6,r7,r8,by rw [List.append_assoc] at H;exact H⟩
   have hs2:=hsh rfl
   refine Cp r67 ?_
   refine Cy (bH r0 (di H 3 O 0 1 ω ω ω O O O O ?_))
   intro w a5 c5 H
   refine Lt (Cr (bH r0 (bU r8 (Lp (bO 0 bh O O O ω) (aC a_ O (hcell (H.get (i:=2) O) hpos) (di H 3 O (l.getD 0 0) 1 ω ω (by rw [List.length_append,kZ];omega) O O O O ?_))))))
   intro w a6 c6 H
   simp only [List.set] at H
   refine Lt ?_
   exact ⟨a6,c6,r0,r6,r7,r8,by rw [List.append_assoc] at H;exact H⟩
  case refine_2 =>
  clear H r0 r2 r6 r7 r8
  rintro ρ w9 ⟨a5,c5,r0,r6,r7,r8,H⟩
  have hfl:(nA sh (l.getD 0 0)).length≤9:=by
   unfold nA
   split <;> simp only [List.length_append,kZ] <;> omega
  have hsim:=Ac (sh:=sh) hL hl.symm hne hl2 h256 hsh
  obtain ⟨t,ht,hrd⟩:=hsim
  have hfin:d7 (nz n) (aV 1 1++(aV (l.length - 1) 1++(nA sh (l.getD 0 0)++(if l.length=2 then aV (l.getD 1 0) 8 else [])))) t:=by
   refine (cJ (n:=1) (k:=1) δ).pb ?_
   rw [if_neg δ]
   exact ht
  have hfin2:(aV 1 1++(aV (l.length - 1) 1++(nA sh (l.getD 0 0)++(if l.length=2 then aV (l.getD 1 0) 8 else [])))).length≤60100:=by
   have h8:(if l.length=2 then aV (l.getD 1 0) 8 else []).length≤8:=by split <;> simp [kZ]
   simp only [List.length_append,kZ]
   omega
  refine Cy (bU r8 (bG bh O (bF O O (Lt ?_))))
  by_cases hl22:l.length=2
  case neg =>
   rw [if_neg hl22,List.append_nil] at hfin hfin2
   refine CF O ω (Ck (tn ?_))
   refine ⟨_,t,a5,c5,k3,hfin,hrd,hfin2,ω,ω,r6,r7,r8,?_⟩
   rw [← List.append_assoc,← List.append_assoc,← hX1]
   exact H
  rw [if_pos hl22] at hfin hfin2
  have h1m:=h256 _ (hgetm 1 ω)
  refine CT O ω (Cr (bH r0 (bU r8 (Lp (bO 1 bh O O O ω) (aC a_ O (hcell (H.get (i:=2) O) ω) (di H 3 O (l.getD 1 0) 8 ω ω (by rw [List.length_append];omega) O O O O ?_))))))
  intro w a6 c6 H
  simp only [List.set] at H
  refine Lt ?_
  refine ⟨_,t,a6,c6,k3,hfin,hrd,hfin2,ω,ω,r6,r7,r8,?_⟩
  rw [← List.append_assoc,← List.append_assoc,← hX1,← List.append_assoc]
  exact H
 case refine_2 =>
 clear H r0 r2 r6 r7 r8
 rintro ρ w8 ⟨Z,t,a6,c6,k3,hZ,hrd,hZl,hk5,hk6,r6,r7,r8,H⟩
 have hcode:=Fa (u:=u) h1 hn (hU ▸ hL) (hU ▸ hrd)
 rw [← hU,← hl,← hns] at hcode
 refine Cs (Cy (bU r8 (bG bh O (bF O O (Lt ?_)))))
 by_cases hone:l.length=1
 case neg =>
  rw [if_neg hone] at hcode
  refine CF O ω (Ck (tn (Cy (bU r6 (bU r7 (gS O (gS O (Lt (Ct ?_)))))))))
  exact cr O O O ⟨gl,gn,ls,ns,t,a6,c6,Z,k3,O,H.sub [0,1,3,4] O δ,hcode,hZ,hZl,ω,ω⟩
 rw [if_pos hone] at hcode
 have h0m:=hmem _ (hgetm 0 hpos)
 refine CT O ω (Cr (bU η (bU r8 (Lp (bO 0 bh O O O ω) (aC a_ O (hcell (H.get (i:=2) O) hpos) (Lp (bO (l.getD 0 0) bh O O O h0m) (bC (m:=((0:Nat):Int)) H 0 k_ O O O (de ω) ?_)))))))
 intro w H
 simp only [List.set,jR] at H
 refine Lt (Cy (bU η (bU η (gS O (gS O (Lt (Ct ?_)))))))
 exact cr O O O ⟨gl,gn,_,ns,t,a6,c6,Z,k3,O,H.sub [0,1,3,4] O δ,hcode,hZ,hZl,ω,ω⟩
theorem cV {w w2:World} {a:Addr} {v:Value} (h:CI w w2) (hc:w.cell? a=some v):w2.cell? a=some v:=h.frm.cell hc (by simp)
theorem wG (W:World) (i:Nat):Calls Tryz.prog 31 #[iT i] W fun e w' => e=.returned (iT 0)∧cf [] W w':=by
 refine enter (m:=3) Tryz.func31 O Tryz.ntmps31 O (Cy (az O (Lt (Cy (az O (Lt (Ct ?_)))))))
 exact ak O O ⟨O,cf.refl _ _⟩
theorem Dy (W:World) (i wide hb across gb b17 b8 b15 b16:Nat) (gpx:List Nat) (hr:l7 W .u32 gb 0 gpx) (h32:∀ p ∈ gpx,p<2 ^ 32) (hi:i≤1000000) (hw1:1≤wide) (hw2:wide≤1000000) (hhb:hb≤9) (hac:across≤1000000)
  (h17:W.cell? ⟨b17,0,none⟩=some (.slice (aT gb) gpx.length gpx.length)) (h8:W.cell? ⟨b8,0,none⟩=some (iT wide)) (h15:W.cell? ⟨b15,0,none⟩=some (iT hb)) (h16:W.cell? ⟨b16,0,none⟩=some (iT across))
  (hlt:i / wide / 2 ^ hb * across+i % wide / 2 ^ hb<gpx.length) :
  Calls Tryz.prog 32 #[iT i,pT b17,pT b8,pT b15,pT b16] W fun e w' => e=.returned (iT (aI (gpx.getD (i / wide / 2 ^ hb * across+i % wide / 2 ^ hb) 0) 8))∧cf [] W w':=by
 have H:St W [] [] W:=St.nil W []
 have d1:i / wide≤i:=Nat.div_le_self _ _
 have d2:i / wide / 2 ^ hb≤i / wide:=Nat.div_le_self _ _
 have d3:i % wide≤i:=Nat.mod_le _ _
 have d4:i % wide / 2 ^ hb≤i % wide:=Nat.div_le_self _ _
 have d5:i / wide / 2 ^ hb * across≤1000000 * 1000000:=Nat.mul_le_mul ω hac
 obtain ⟨j,hj⟩:∃ j,j=i / wide / 2 ^ hb * across+i % wide / 2 ^ hb:=⟨_,rfl⟩
 have hcell:=hr _ hlt
 have hg:gpx[i / wide / 2 ^ hb * across+i % wide / 2 ^ hb]=gpx.getD (i / wide / 2 ^ hb * across+i % wide / 2 ^ hb) 0:=by simp [hlt]
 have hp32:gpx.getD (i / wide / 2 ^ hb * across+i % wide / 2 ^ hb) 0<2 ^ 32:=by rw [← hg];exact h32 _ (List.getElem_mem hlt)
 rw [hg,Nat.zero_add] at hcell
 refine enter (m:=24) Tryz.func32 O Tryz.ntmps32 O (Cy (az O (Lt (Cs (Cd aJ κ ?_)))))
 intro w hsame
 replace H:=H.same hsame
 refine aD gw O (cV hsame h17) (bW O (aD a_ O (cV hsame h8) (Sp (ki O O ω (Dt ω)) (aD a_ O (cV hsame h15) (Sp (d6 O O ω (jd (k:=.i64) (by show _≤(64:Nat);omega))) (aD a_ O (cV hsame h16) (Sp (cX O O (pK ω)) (bW O (aD a_ O (cV hsame h8) (Sp (gI O O ω (rN)) (aD a_ O (cV hsame h15) (Sp (d6 O O ω (jd (k:=.i64) (by show _≤(64:Nat);omega))) (aG O O (ck ω) (Sp (bO (i / wide / 2 ^ hb * across+i % wide / 2 ^ hb) aZ O O O hlt) (aD bD O (cV hsame hcell) (jY _ 8 hp32 ω O O O (oZ O (Sn (tn ?_)))))))))))))))))))
 refine Ct ?_
 exact ak O O ⟨O,H.frm⟩
theorem ID (W:World) (wb c0:Nat) (a0:Option Addr) (X:aM) (q g s long B7:Nat) (b6 b22 b33 b34 b21 vn vl gn gl n:Nat) (mn ml cn cl:Nat) (five:List Int) (cells:List Value)
  (hP:Ia wb a0 c0 X W) (h6:W.cell? ⟨b6,0,none⟩=some (pT wb)) (h33:ff W b33 cells 88) (h33g:cells[4]?=some (iT g)) (h34:ff W b34 (lP five) 89) (hq:q<5) (hs:five[q]?=some (s:Int))
  (h22:W.cell? ⟨b22,0,none⟩=some (.slice (aT vn) mn cn)) (h21:W.cell? ⟨b21,0,none⟩=some (.slice (aT vl) ml cl)) (hgn:g<mn) (hgl:g<ml)
  (hvn:W.cell? ⟨vn,g * 5+q,none⟩=some (.slice (aT gn) n n)) (hvl:W.cell? ⟨vl,g * 5+q,none⟩=some (.slice (aT gl) n n)) (hsn:s<n)
  (hnum:W.cell? ⟨gn,s,none⟩=some (iT B7)) (hlong:W.cell? ⟨gl,s,none⟩=some (iT long)) (hl15:long≤15) (hnum2:B7<2 ^ 62) (hX:X.length≤1099511000000) :
  Calls Tryz.prog 37 #[iT q,pT b6,pT b22,pT b33,pT b34,pT b21] W fun e w' => ∃ a c,e=.returned (.tuple #[])∧Ia wb a c (X++lT B7 long) w'∧(∀ x ∈ bQ a,x ∈ bQ a0∨W.heap.size≤x)∧cf (wb :: bQ a0) W w':=by
 have H:St W (wb :: bQ a0) [eI wb a0 c0 X] W:=St.one hP (qZ _ _ _ _) (fun b hb => hb)
 have hfive:(lP five)[q]?=some (.int .i64 (s:Int)):=by unfold lP;rw [List.getElem?_map,hs];rfl
 refine enter (m:=33) Tryz.func37 O Tryz.ntmps37 O (ar 25 aJ κ ?_)
 intro w hsame
 replace H:=H.same hsame
 refine aD qj O (cV hsame h6) (aD El O (cV hsame h22) (dD zH O (aD a_ O (cV hsame (h33.cellv h33g)) (bW O (Sp (gm g Jp O O O hgn) (Sp (fo q DP O O O hq) (aD zn O (by rw [Nat.zero_add];exact cV hsame hvn) (bW O (Sp (jB q Jw O O O hq) (aD a_ O (cV hsame (h34.cellv hfive)) (Sp (bO s bh O O O hsn) (aD a_ O (cV hsame hnum) (aD El O (cV hsame h21) (dD zH O (aD a_ O (cV hsame (h33.cellv h33g)) (bW O (Sp (gm g Jp O O O hgl) (Sp (fo q DP O O O hq) (aD zn O (by rw [Nat.zero_add];exact cV hsame hvl) ?_)))))))))))))))))))
 refine bW O (Sp (jB q Jw O O O hq) (aD a_ O (cV hsame (h34.cellv hfive)) (Sp (bO s bh O O O hsn) (aD a_ O (cV hsame hlong) (Sn (D5 H 0 O B7 long ω hnum2 ω O O O O ?_))))))
 intro w a c H
 simp only [List.set] at H
 refine Ln ?_
 exact lu O ⟨a,c,O,H.wrEnd⟩
section
variable {w0 w w':World} {S T:List Nat} {used rest l:List e_}
theorem St.keepBut (h:St w0 S (used++rest) w) (hf:cf T w w') (hT:∀ b ∈ T,∃ r ∈ used,b ∈ r.foot):∀ r ∈ rest,r.pred w':=fun r hr => by
 have hm:=List.mem_append_right used hr
 have hap:=List.pairwise_append.1 h.apart
 refine (h.loc r hm).1 w w' (fun b hb => hf.block b ((h.loc r hm).2 w (h.has r hm) b hb) fun hbT => ?_) (h.has r hm)
 obtain ⟨s,hs,hbs⟩:=hT b hbT
 exact hap.2.2 s hs r hr b hbs hb
theorem St.notIn (h:St w0 S (used++rest) w) (hT:∀ b ∈ T,∃ r ∈ used,b ∈ r.foot):∀ r ∈ rest,∀ b ∈ r.foot,b ∉ T:=fun r hr b hb hbT => by
 have hap:=List.pairwise_append.1 h.apart
 obtain ⟨s,hs,hbs⟩:=hT b hbT
 exact hap.2.2 s hs r hr b hbs hb
theorem St.left (h:St w0 S (used++rest) w):St w0 S used w :=
 ⟨h.frm,fun r hr => h.has r (List.mem_append_left _ hr),fun r hr => h.loc r (List.mem_append_left _ hr),fun r hr => h.own r (List.mem_append_left _ hr),(List.pairwise_append.1 h.apart).1⟩
theorem St.right (h:St w0 S (used++rest) w):St w0 S rest w :=
 ⟨h.frm,fun r hr => h.has r (List.mem_append_right _ hr),fun r hr => h.loc r (List.mem_append_right _ hr),fun r hr => h.own r (List.mem_append_right _ hr),(List.pairwise_append.1 h.apart).2.1⟩
end
theorem St.subL {w0 w:World} {S:List Nat} {l rest:List e_} (h:St w0 S (l++rest) w) (is:List Nat) {l':List e_} (hl:is.map (fun i => l[i]?)=l'.map some) (hn:is.Pairwise (·≠·)):St w0 S (l'++rest) w:=by
 have hlt:∀ i ∈ is,i<l.length:=fun i hi => by
  have h1:l[i]? ∈ l'.map some:=by rw [← hl];exact List.mem_map_of_mem hi
  obtain ⟨r,_,hr⟩:=List.mem_map.1 h1
  exact (List.getElem?_eq_some_iff.1 hr.symm).1
 refine h.sub (is++(List.range rest.length).map (l.length+·)) ?_ ?_
 ·rw [List.map_append,List.map_append]
  congr 1
  ·rw [← hl]
   exact List.map_congr_left fun i hi => List.getElem?_append_left (hlt i hi)
  ·apply List.ext_getElem
   ·simp
   ·intro j h1 h2
    have hj:j<rest.length:=by simpa using h2
    simp [List.getElem?_append_right,hj]
 ·refine List.pairwise_append.2 ⟨hn,?_,fun i hi j hj => ?_⟩
  ·refine List.pairwise_map.2 ((List.nodup_range (n:=rest.length)).imp fun hne e => hne ω)
  ·obtain ⟨q,_,rfl⟩:=List.mem_map.1 hj
   have:=hlt i hi
   omega
def If (D:List Nat) (i:Nat) (r r':e_):e_:=if i ∈ D then r else r'
theorem iW {D:List Nat} {i j:Nat} {r r':e_} (h:i≠j):If (D.erase j) i r r'=If D i r r':=by
 unfold If
 by_cases e:i ∈ D
 ·rw [if_pos e,if_pos ((List.mem_erase_of_ne h).2 e)]
 ·rw [if_neg e,if_neg (fun h2 => e ((List.mem_erase_of_ne h).1 h2))]
theorem Cc {D:List Nat} {i:Nat} {r r':e_} (h:D.Nodup):If (D.erase i) i r r'=r':=if_neg h.not_mem_erase
theorem my {D:List Nat} {i:Nat} {r r':e_} (h:i ∈ D):If D i r r'=r:=if_pos h
theorem At {i:Nat} {r r':e_}:If [] i r r'=r':=if_neg (by simp)
theorem vY {D:List Nat} {i:Nat} {r:e_} (h:i ∉ D):zl D i r=[r]:=if_neg h
section
variable {P:Program} {w w0:World} {t ty el by_:Nat} {zs:List Value} {a:Option Addr} {c n m c2 b off:Nat} {xs news:List Value} {S:List Nat} {l:List e_} {nn d:Nat} {Q:cY} {lo:List Oper} {ρ:dK} {pos:String} {after:Array Edge} {s x:Operand} {K:dK→World→Prop}
theorem rn {i:Nat} (hio:lo[i]?=some ⟨some d,.call ⟨.builtin .append,#[s,x],#[t,t]⟩,ty,pos,after,none⟩) (H:St w0 S l w) (j:Nat) (F:MK P t el by_ zs) (hz:0<zs.length) (hd:Nat.blt d nn=true) (hs:ev ρ s=.slice a n c) (hi:l[j]?=some (aA a c el zs.length n xs)) (hx:ev ρ x=.slice (some ⟨b,off,none⟩) m c2)
  (hl:news.length=m * zs.length) (hc:∀ j u,news[j]?=some u→w.cell? ⟨b,off+j,none⟩=some u) (h1:∀ u ∈ news,u.oneCell'=true) (h63:n+m≤maxLen) (hby:(n+m) * by_≤140737488355328)
  (h:∀ a' c' w',cf (bQ a) w w'→St w0 S (l.set j (aA a' c' el zs.length (n+m) (xs++news))) w'→K (eW ρ d (.slice a' (n+m) c')) w'):VO P nn lo.toArray Q i K ρ w:=by
 obtain ⟨a',c',w',hr,hV,hf,hfoot⟩:=su (ty:=ty) (c2:=c2) F hz (H.get hi) hl hc h1 h63 hby
 refine pp hio hd (v:=.slice a' (n+m) c') (w':=w') ?_ (h a' c' w' hf (H.turn hi hf hV (cI _ _ _ _ _ _) hfoot))
 unfold dE
 simp only [execOp,resolve,Sem.run_bind,Sem.run_pure,Result.andThen_ok,Go.invoke,builtin,List.map_toArray,List.map_cons,List.map_nil,hs,hx,hr]
variable {parts:Array (Nat × Operand)} {len:Nat}
theorem qK {i:Nat} (hio:lo[i]?=some ⟨some d,.buildSlice t len parts,ty,pos,after,none⟩) (H:St w0 S l w) (F:MK P t el by_ zs) (cs:List Value) (hd:Nat.blt d nn=true) {ps:List (Nat × Value)} (hp:(parts.toList.map fun q => (q.1,ev ρ q.2))=ps) (h24:len * zs.length≤2 ^ 24) (h0:len * zs.length≠0)
  (hf:Instr.fill (fun i => some (i * zs.length,zs.length)) (dk len zs).toArray ps=some cs.toArray)
  (h:∀ w' b,w.heap.size≤b→cf [] w w'→St w0 S (aa b cs el :: l) w'→K (eW ρ d (.slice (aT b) len len)) w'):VO P nn lo.toArray Q i K ρ w:=by
 obtain ⟨hu,i2,z,h1,h2,h3,h4,h5⟩:=F
 have hz:z.cells=zs.toArray:=by rw [← h3]
 have hzs:z.cells.size=zs.length:=by rw [hz];simp
 have hr:=run_buildSlice (P:=P) w t el len (parts.map fun q => (q.1,ev ρ q.2)) cs.toArray i2 z hu h1 h2 (by rw [h4];omega) (by rw [h4];exact h0) (by
  have e:madeCells zs.toArray (len * zs.length)=(dk len zs).toArray:=by rw [← iE]
  rw [h4,hz,Array.toList_map,hp,← hf,← e]
  rfl)
 refine pp hio hd (v:=.slice (some ⟨w.heap.size,0,none⟩) len len) (w':=w.alloc (.cells cs.toArray el)) ?_ (h _ _ (Nat.le_refl _) (cf.new _ _ _) (H.new _ el))
 unfold dE
 simp only [execOp,Sem.run_bind,hr,Result.andThen_ok]
 rfl
end
def eY (ts:List (Tk × Nat)) (g q s:Nat):Bool:=ts.any fun t => t.2 == g && t.1.syms.contains (q,s)
theorem BC (ts:List (Tk × Nat)) (t:Tk × Nat) (g q s:Nat):eY (ts++[t]) g q s=(eY ts g q s || (t.2 == g && t.1.syms.contains (q,s))):=by simp [eY]
theorem j1 {cc:Nat} (h:cc≤11) (q:Nat):1≤bm cc q∧bm cc q≤2328:=by
 have:2 ^ cc≤2 ^ 11:=Nat.pow_le_pow_right ω h
 have:=Nat.two_pow_pos cc
 unfold bm
 split
 ·split <;> omega
 ·split <;> omega
theorem F3 (t:Tk) {q:Nat} (hq:q<5):(∃ s:Nat,t.five[q]?=some (s:Int)∧∀ s',t.syms.contains (q,s')=decide (s'=s))∨(t.five[q]?=some (-1)∧∀ s',t.syms.contains (q,s')=false):=by
 have hc:q=0∨q=1∨q=2∨q=3∨q=4:=ω
 cases t with
 | lit p =>
  rcases hc with rfl | rfl | rfl | rfl | rfl
  ·exact .inl ⟨_,O,fun s' => by simp [Tk.syms]⟩
  ·exact .inl ⟨_,O,fun s' => by simp [Tk.syms]⟩
  ·exact .inl ⟨_,O,fun s' => by simp [Tk.syms]⟩
  ·exact .inl ⟨_,O,fun s' => by simp [Tk.syms]⟩
  ·exact .inr ⟨O,fun s' => by simp [Tk.syms]⟩
 | hit p k =>
  rcases hc with rfl | rfl | rfl | rfl | rfl
  ·exact .inl ⟨_,O,fun s' => by simp [Tk.syms]⟩
  ·exact .inr ⟨O,fun s' => by simp [Tk.syms]⟩
  ·exact .inr ⟨O,fun s' => by simp [Tk.syms]⟩
  ·exact .inr ⟨O,fun s' => by simp [Tk.syms]⟩
  ·exact .inr ⟨O,fun s' => by simp [Tk.syms]⟩
 | cp p far long =>
  rcases hc with rfl | rfl | rfl | rfl | rfl
  ·exact .inl ⟨_,O,fun s' => by simp [Tk.syms]⟩
  ·exact .inr ⟨O,fun s' => by simp [Tk.syms]⟩
  ·exact .inr ⟨O,fun s' => by simp [Tk.syms]⟩
  ·exact .inr ⟨O,fun s' => by simp [Tk.syms]⟩
  ·exact .inl ⟨_,O,fun s' => by simp [Tk.syms]⟩
theorem Tk.Ok.sym {w cc at_:Nat} {px:List Nat} {t:Tk} (h:t.Ok w cc px at_) {q s:Nat} (hs:t.syms.contains (q,s)=true):q<5∧s<bm cc q:=by
 have hm:(q,s) ∈ t.syms:=by simpa using hs
 cases t with
 | lit p =>
  have:=bX p
  simp only [Tk.syms,List.mem_cons,List.not_mem_nil,or_false,Prod.mk.injEq] at hm
  rcases hm with ⟨rfl,rfl⟩ | ⟨rfl,rfl⟩ | ⟨rfl,rfl⟩ | ⟨rfl,rfl⟩
  ·exact ⟨ω,by unfold bm;rw [if_pos rfl];omega⟩
  ·exact ⟨ω,by unfold bm;rw [if_neg ω,if_neg ω];omega⟩
  ·exact ⟨ω,by unfold bm;rw [if_neg ω,if_neg ω];omega⟩
  ·exact ⟨ω,by unfold bm;rw [if_neg ω,if_neg ω];omega⟩
 | hit p k =>
  simp only [Tk.syms,List.mem_cons,List.not_mem_nil,or_false,Prod.mk.injEq] at hm
  obtain ⟨rfl,rfl⟩:=hm
  obtain ⟨_,h1,h2,_⟩:=h
  exact ⟨ω,by unfold bm;rw [if_pos rfl,if_neg ω];omega⟩
 | cp p far long =>
  obtain ⟨_,h1,h2,_,h3,h4,_⟩:=h
  have s1:=(jS h1 ω).2.1 h2
  have s2:=(jS h3 h4).1
  simp only [Tk.syms,List.mem_cons,List.not_mem_nil,or_false,Prod.mk.injEq] at hm
  rcases hm with ⟨rfl,rfl⟩ | ⟨rfl,rfl⟩
  ·exact ⟨ω,by unfold bm;rw [if_pos rfl];omega⟩
  ·exact ⟨ω,by unfold bm;rw [if_neg ω,if_pos rfl];omega⟩
def qN (ub:Nat→Nat) (u:Nat→Nat→Bool) (cc lo m:Nat):List e_:=(List.range' lo m).map fun q => aa (ub q) (ii (u q) (bm cc q)) 4
theorem IA {ub:Nat→Nat} {u:Nat→Nat→Bool} {cc q:Nat} (h:q<5) (rest:List e_):(qN ub u cc 0 5++rest)[q]?=some (aa (ub q) (ii (u q) (bm cc q)) 4):=by
 rw [List.getElem?_append_left (by simpa [qN] using h)]
 simp [qN,h]
theorem I4 {ub:Nat→Nat} {u v:Nat→Nat→Bool} {cc q:Nat} (h:q<5) (rest:List e_) (hv:∀ q',q'<5→q'≠q→v q'=u q') :
  (qN ub u cc 0 5++rest).set q (aa (ub q) (ii (v q) (bm cc q)) 4)=qN ub v cc 0 5++rest:=by
 rw [List.set_append_left _ _ (by simpa [qN] using h)]
 congr 1
 apply List.ext_getElem
 ·simp [qN]
 ·intro j h1 h2
  have hj:j<5:=by simpa [qN] using h2
  rw [List.getElem_set]
  by_cases e:q=j
  ·subst e
   simp [qN]
  ·rw [if_neg e]
   simp [qN,hv j hj (fun h => e h.symm)]
theorem Cz {ub:Nat→Nat} {u v:Nat→Nat→Bool} {cc lo m:Nat} (h:∀ q s,u q s=v q s):qN ub u cc lo m=qN ub v cc lo m:=by
 have:u=v:=funext fun q => funext fun s => h q s
 rw [this]
theorem Hm {ub:Nat→Nat} {u:Nat→Nat→Bool} {cc q:Nat} (h:q<5) (r:e_):(r :: qN ub u cc 0 5)[q+1]?=some (aa (ub q) (ii (u q) (bm cc q)) 4):=by
 have:=IA (ub:=ub) (u:=u) (cc:=cc) h []
 rw [List.append_nil] at this
 rw [List.getElem?_cons_succ]
 exact this
theorem HP {ub:Nat→Nat} {u v:Nat→Nat→Bool} {cc q:Nat} (h:q<5) (r:e_) (hv:∀ q',q'<5→q'≠q→v q'=u q') :
  (r :: qN ub u cc 0 5).set (q+1) (aa (ub q) (ii (v q) (bm cc q)) 4)=r :: qN ub v cc 0 5:=by
 have:=I4 (ub:=ub) (cc:=cc) h [] hv
 rw [List.append_nil,List.append_nil] at this
 rw [List.set_cons_succ,this]
theorem Ea {ub:Nat→Nat} {u v:Nat→Nat→Bool} {cc:Nat} (h:∀ q,q<5→∀ s,u q s=v q s):qN ub u cc 0 5=qN ub v cc 0 5:=by
 apply List.map_congr_left
 intro q hq
 have hq5:q<5:=by simpa using hq
 have:u q=v q:=funext fun s => h q hq5 s
 rw [this]
theorem Hg (ub:Nat→Nat) (u:Nat→Nat→Bool) (cc lo m:Nat):qN ub u cc lo (m+1)=aa (ub lo) (ii (u lo) (bm cc lo)) 4 :: qN ub u cc (lo+1) m:=by
 unfold qN
 rw [List.range'_succ,List.map_cons]
def kC (ub:Nat→Nat) (cc:Nat):List Value:=(List.range 5).map fun q => .slice (some ⟨ub q,0,none⟩) (bm cc q) (bm cc q)
theorem fq {ub:Nat→Nat} {cc q:Nat} (h:q<5):(kC ub cc)[q]?=some (.slice (some ⟨ub q,0,none⟩) (bm cc q) (bm cc q)):=by simp [kC,h]
theorem A4 {α:Type} (x:α) (A B C:List α):(x :: (A++(B++C))).Perm (A++(B++(x :: C))):=by simpa only [List.append_assoc] using (List.perm_middle (a:=x) (l₁:=A++B) (l₂:=C)).symm
theorem Gj {α:Type} (x:α) (A B D C:List α):(x :: (A++(B++(D++C)))).Perm (A++(B++(D++(x :: C)))):=by simpa only [List.append_assoc] using (List.perm_middle (a:=x) (l₁:=A++B++D) (l₂:=C)).symm
theorem GB {α:Type} (x:α) (A B D E C:List α):(x :: (A++(B++(D++(E++C))))).Perm (A++(B++(D++(E++(x :: C))))):=by simpa only [List.append_assoc] using (List.perm_middle (a:=x) (l₁:=A++B++D++E) (l₂:=C)).symm
theorem F5 {α:Type} (x:α) (A B D E F C:List α):(x :: (A++(B++(D++(E++(F++C)))))).Perm (A++(B++(D++(E++(F++(x :: C)))))):=by simpa only [List.append_assoc] using (List.perm_middle (a:=x) (l₁:=A++B++D++E++F) (l₂:=C)).symm
theorem dr (t:Tk) (g:Nat):(t.cells g).length=5:=by cases t <;> rfl
theorem qz (t:Tk) (g:Nat):(t.cells g)[4]?=some (iT g):=by cases t <;> rfl
theorem tw (t:Tk) (g:Nat):∀ u ∈ t.cells g,u.oneCell'=true:=by
 intro u hu
 cases t <;> simp only [Tk.cells,List.mem_cons,List.not_mem_nil,or_false] at hu <;> rcases hu with rfl | rfl | rfl | rfl | rfl <;> rfl
theorem t7:∀ (ts:List (Tk × Nat)) (q j:Nat) (t:Tk × Nat),ts[q]?=some t→j<5→(bN ts)[q * 5+j]?=(t.1.cells t.2)[j]?
 | [],q,j,t,h,_ => by simp at h
 | x :: ts,0,j,t,h,hj => by
  simp only [List.getElem?_cons_zero,Option.some.injEq] at h
  subst h
  rw [Nat.zero_mul,Nat.zero_add]
  exact List.getElem?_append_left (by rw [dr];exact hj)
 | x :: ts,q+1,j,t,h,hj => by
  have:=t7 ts q j t (by simpa using h) hj
  rw [show (q+1) * 5+j=(q * 5+j)+5 by omega]
  refine (List.getElem?_append_right (by rw [dr];omega)).trans ?_
  rw [dr,Nat.add_sub_cancel]
  exact this
theorem wA {w:World} {g cap e:Nat} {ts:List (Tk × Nat)} {q:Nat} {t:Tk × Nat} (h:bT w (aT g) cap e 5 ts.length (bN ts)) (hq:ts[q]?=some t):∀ j,j<5→w.cell? ⟨g,0+q * 5+j,none⟩=(t.1.cells t.2)[j]?:=fun j hj => by
 have:=t7 ts q j t hq hj
 rw [Nat.zero_add]
 cases e2:(t.1.cells t.2)[j]? with
 | none =>
  have:=List.getElem?_eq_none_iff.1 e2
  rw [dr] at this
  omega
 | some u => exact bT.cellS h (this.trans e2)
theorem u_ {ts:List (Tk × Nat)} {j:Nat} {t:Tk × Nat} (h:ts[j]?=some t) (g q s:Nat):eY (ts.take (j+1)) g q s=(eY (ts.take j) g q s || (t.2 == g && t.1.syms.contains (q,s))):=by
 obtain ⟨h1,h2⟩:=List.getElem?_eq_some_iff.1 h
 rw [List.take_succ_eq_append_getElem h1,BC,h2]
structure En where
 ls:List Nat
 ns:List Nat
 t:T
 gl:Nat
 gn:Nat
def fe (e:En):Value:=.slice (some ⟨e.gl,0,none⟩) e.ls.length e.ls.length
def fb (e:En):Value:=.slice (some ⟨e.gn,0,none⟩) e.ns.length e.ns.length
def gy (vs:List Value):List Value:=vs++List.replicate (5 - vs.length) (.slice none 0 0)
theorem yw {vs:List Value} (h:vs.length<5):(gy vs)[vs.length]?=some (.slice none 0 0):=by
 unfold gy
 rw [List.getElem?_append_right (Nat.le_refl _),Nat.sub_self,List.getElem?_replicate,if_pos ω]
theorem za {vs:List Value} (h:vs.length<5) (v:Value):(gy vs).set vs.length v=gy (vs++[v]):=by
 unfold gy
 rw [List.set_append_right _ _ (Nat.le_refl _),Nat.sub_self,List.length_append,List.length_singleton,show 5 - vs.length=(5 - (vs.length+1))+1 by omega,List.replicate_succ,List.set_cons_zero,List.append_assoc]
 rfl
theorem y_ {vs:List Value} (h:vs.length=5):gy vs=vs:=by unfold gy;rw [h];simp
theorem Hr (es:List En):∀ u ∈ es.map fe,u.oneCell'=true:=by
 intro u hu
 obtain ⟨e,_,rfl⟩:=List.mem_map.1 hu
 rfl
theorem GZ (es:List En):∀ u ∈ es.map fb,u.oneCell'=true:=by
 intro u hu
 obtain ⟨e,_,rfl⟩:=List.mem_map.1 hu
 rfl
def fE (qs:List (Nat × List Nat)):e_:=⟨qs.map (·.1),fun w => ∀ q ∈ qs,ff w q.1 (nums .i64 q.2) 3⟩
theorem vA (qs:List (Nat × List Nat)):(fE qs).Local∧(fE qs).In:=by
 refine ⟨fun w w' h hp q hq => (h q.1 (List.mem_map_of_mem hq)).trans (hp q hq),fun w hp b hb => ?_⟩
 obtain ⟨q,hq,rfl⟩:=List.mem_map.1 hb
 exact (hp q hq).lt
theorem St.rows0 {w0 w:World} {S:List Nat} {l:List e_} (H:St w0 S l w):St w0 S (fE [] :: l) w :=
 H.cons (fun q hq => by cases hq) (vA _) (by simp [fE]) (by simp [fE])
theorem St.rows2 {w0 w:World} {S:List Nat} {l:List e_} {b1 b2:Nat} {l1 l2:List Nat} {qs:List (Nat × List Nat)} (H:St w0 S (aa b1 (nums .i64 l1) 3 :: aa b2 (nums .i64 l2) 3 :: fE qs :: l) w):St w0 S (fE ((b1,l1) :: (b2,l2) :: qs) :: l) w:=by
 have H2:St w0 S l w:=⟨H.frm,fun r hr => H.has r (by simp [hr]),fun r hr => H.loc r (by simp [hr]),fun r hr => H.own r (by simp [hr]),by
  have:=H.apart
  simp only [yU,List.pairwise_cons] at this ⊢
  exact this.2.2.2⟩
 have hb1:ff w b1 (nums .i64 l1) 3:=H.blk (i:=0) rfl
 have hb2:ff w b2 (nums .i64 l2) 3:=H.blk (i:=1) rfl
 have hq:(fE qs).pred w:=H.get (i:=2) rfl
 refine H2.cons (r:=fE ((b1,l1) :: (b2,l2) :: qs)) ?_ (vA _) ?_ ?_
 ·intro q hq2
  simp only [List.mem_cons] at hq2
  rcases hq2 with rfl | rfl | h
  ·exact hb1
  ·exact hb2
  ·exact hq q h
 ·intro b hb
  simp only [fE,List.map_cons,List.mem_cons] at hb
  rcases hb with rfl | rfl | h
  ·exact H.own _ (List.mem_cons_self ..) b (by simp [aa])
  ·exact H.own (aa b (nums .i64 l2) 3) (by simp) b (by simp [aa])
  ·exact H.own (fE qs) (by simp) b h
 ·intro s hs b hb
  have hap:=H.apart
  simp only [yU,List.pairwise_cons,List.mem_cons,forall_eq_or_imp] at hap
  simp only [fE,List.map_cons,List.mem_cons] at hb
  rcases hb with rfl | rfl | h
  ·exact hap.1.2.2 s hs b (by simp [aa])
  ·exact hap.2.1.2 s hs b (by simp [aa])
  ·exact hap.2.2.1 s hs b h
theorem Fj {ub n wb c cb k:Nat} {u:Nat→Bool} {a:Option Addr} {X:aM} {v:Value}:∀ r ∈ [aa ub (ii u n) 4,eI wb a c X,aa cb (dt v k) 39],∀ b ∈ r.foot,b ∈ ub :: wb :: cb :: bQ a:=by
 intro r hr b hb
 rcases List.mem_cons.1 hr with rfl | hr
 ·simp only [aa,List.mem_singleton] at hb
  simp [hb]
 ·exact List.mem_cons_of_mem _ (sJ r hr b hb)
theorem x5 {ub n wb c cb k:Nat} {u:Nat→Bool} {a:Option Addr} {X:aM} {v:Value}:∀ b ∈ ub :: wb :: cb :: bQ a,∃ r ∈ [aa ub (ii u n) 4,eI wb a c X,aa cb (dt v k) 39],b ∈ r.foot:=by
 intro b hb
 rcases List.mem_cons.1 hb with rfl | hb
 ·exact ⟨_,List.mem_cons_self ..,by simp [aa]⟩
 ·obtain ⟨r,hr,hbr⟩:=jc (c:=c) (X:=X) (k:=k) (v:=v) b hb
  exact ⟨r,List.mem_cons_of_mem _ hr,hbr⟩
def LZ (es:List En):List (Nat × List Nat):=es.flatMap fun e => [(e.gl,e.ls),(e.gn,e.ns)]
structure ma (ts:List (Tk × Nat)) (cc:Nat) (es:List En) (Z:aM):Prop where
 go:∀ m Z' l,d7 (eC cc m es.length) Z' l→d7 (eC cc (es.length+m) 0) (Z++Z') (es.map (·.t)++l)
 ok:∀ j e,es[j]?=some e→zA (eY ts (j / 5) (j % 5)) (bm cc (j % 5)) e.ls e.ns e.t
 len:Z.length≤60100 * es.length
theorem ma.nil (ts:List (Tk × Nat)) (cc:Nat):ma ts cc [] []:=⟨fun m Z' l h => by simpa using h,fun j e h => by simp at h,by simp⟩
theorem ma.snoc {ts:List (Tk × Nat)} {cc:Nat} {es:List En} {Z Z1:aM} {e:En} (h:ma ts cc es Z) (hc:zA (eY ts (es.length / 5) (es.length % 5)) (bm cc (es.length % 5)) e.ls e.ns e.t) (hr:d7 (nz (bm cc (es.length % 5))) Z1 e.t) (hl:Z1.length≤60100) :
  ma ts cc (es++[e]) (Z++Z1):=by
 refine ⟨fun m Z' l hd => ?_,fun j e' hj => ?_,?_⟩
 ·have:=h.go (m+1) (Z1++Z') (e.t :: l) (by
   rw [eC]
   refine hr.pb ?_
   rw [List.length_append,List.length_singleton] at hd
   exact fU hd (d7.ret _))
  rw [List.length_append,List.length_singleton,List.append_assoc,List.map_append,List.append_assoc,show es.length+1+m=es.length+(m+1) by omega]
  exact this
 ·by_cases hlt:j<es.length
  ·rw [List.getElem?_append_left hlt] at hj
   exact h.ok j e' hj
  ·have hj2:=(List.getElem?_eq_some_iff.1 hj).1
   rw [List.length_append,List.length_singleton] at hj2
   obtain rfl:j=es.length:=ω
   rw [List.getElem?_append_right ω,Nat.sub_self] at hj
   simp only [List.getElem?_cons_zero,Option.some.injEq] at hj
   subst hj
   exact hc
 ·have:=h.len
  simp only [List.length_append,List.length_singleton]
  omega
theorem ma.reads {ts:List (Tk × Nat)} {cc:Nat} {es:List En} {Z:aM} (h:ma ts cc es Z):d7 (eC cc es.length 0) Z (es.map (·.t)):=by
 have:=h.go 0 [] [] (d7.ret _)
 simpa using this
def kL (es:List En) (g q s:Nat):aM:=match es[5 * g+q]? with
 | some e => lT (e.ns.getD s 0) (e.ls.getD s 0)
 | none => []
theorem vm {es:List En} {g q s:Nat} {e:En} (h:es[5 * g+q]?=some e):kL es g q s=lT (e.ns.getD s 0) (e.ls.getD s 0):=by unfold kL;rw [h]
theorem Ca {ts:List (Tk × Nat)} {cc:Nat} {es:List En} {Z:aM} (h:ma ts cc es Z) (g q s:Nat):(kL es g q s).length≤15:=by
 unfold kL
 split
 ·rename_i e he
  rw [mz]
  exact (h.ok _ e he).most s
 ·simp
theorem Dq {c:Nat→Nat→aM} (hc:∀ q s,(c q s).length≤15) {t:Tk} (hf:t.fits):(t.bits c).length≤66:=by
 cases t with
 | lit p =>
  have:=hc 0 (pG p)
  have:=hc 1 (pR p)
  have:=hc 2 (pB p)
  have:=hc 3 (pA p)
  simp only [Tk.bits,List.length_append]
  omega
 | hit p k =>
  have:=hc 0 (280+k)
  simp only [Tk.bits]
  omega
 | cp p far long =>
  obtain ⟨_,h1,h2,h3,h4⟩:=hf
  have:=hc 0 (256+kh long)
  have:=hc 4 (kh far)
  have:=(jS h1 ω).2.2.2.1
  have:=(jS h3 h4).2.2.2.1
  simp only [Tk.bits,List.length_append,kZ]
  omega
theorem vz {c:Nat→Nat→Nat→aM} (hc:∀ g q s,(c g q s).length≤15):∀ (ts:List (Tk × Nat)),(∀ t ∈ ts,t.1.fits)→(i_ c ts).length≤66 * ts.length
 | [],h => by simp [i_]
 | t :: ts,h => by
  have h1:=Dq (hc t.2) (h t (by simp))
  have h2:=vz hc ts fun x hx => h x (List.mem_cons_of_mem _ hx)
  simp only [i_,List.flatMap_cons,List.length_append,List.length_cons] at h2 ⊢
  omega
theorem yc {mt:jh (Nat × List Nat)} {w h cc hb:Nat} {hpx px:List Nat} {Zc Zm Ze:aM} {ts:List (Tk × Nat)} {es:List En} (hc:d7 ut Zc cc) (hm:d7 mt Zm (hb,hpx)) (he:ma ts cc es Ze) (hel:es.length=5 * (bB hpx+1)) (hpl:px.length=w * h) (h32:∀ p ∈ px,p<2 ^ 32)
  (hts:wQ w cc (dF hb (aq w hb) hpx w) px ts px.length) (hg:∀ t ∈ ts,t.2≤bB hpx) :
  d7 (qR mt w h) (Zc++(Zm++(Ze++i_ (kL es) ts))) px:=by
 refine hc.pb ?_
 rw [← List.append_assoc Zm]
 refine d7.pb (v:=((hb,hpx),es.map (·.t))) ?_ ?_
 ·refine hm.pb ?_
  rw [← hel]
  exact fU he.reads (d7.ret _)
 ·have hall:=hts.go [] rfl
  rw [List.append_nil] at hall
  have key:=rI (n:=w * h) (G:=fun g j => (es.map (·.t)).getD (5 * g+j) (.leaf 0)) (c:=kL es) hpl h32 ts (w * h) 0 hall ω (fun t ht q hq => by
   obtain ⟨i,hi,_,hok⟩:=(hts.fits t ht).2
   have hcon:t.1.syms.contains (q.1,q.2)=true:=by simpa using hq
   have hs:=hok.sym hcon
   have hgt:=hg t ht
   have hlt:5 * t.2+q.1<es.length:=ω
   have hge:=List.getElem?_eq_getElem hlt
   have hco:=he.ok _ _ hge
   rw [show (5 * t.2+q.1) / 5=t.2 by omega,show (5 * t.2+q.1) % 5=q.1 by omega] at hco
   have e1:(es.map (·.t)).getD (5 * t.2+q.1) (.leaf 0)=es[5 * t.2+q.1].t:=by simp [hlt]
   rw [e1,vm hge]
   refine hco.reads q.2 hs.2 ?_
   unfold eY
   exact List.any_eq_true.2 ⟨t,ht,by simp [hq]⟩)
  rw [List.take_zero] at key
  exact key
end Go.Proofs.YtmgemcffhbnpfaaGreatDoor
set_option maxHeartbeats 1000000
namespace Go.Proofs.YtmgemcffhbnpfaaGreatDoor
open Go
theorem lF {w0 w:World} {S:List Nat} {wb c cb k:Nat} {a:Option Addr} {v:Value} {X:aM} {nn:Nat} {ops:Array Oper} {Q:cY} {rest:List Oper} {ρ:dK} {ty:TypeId} {pos:String} {after:Array Edge} {x cl:Operand} {d:Nat} {tys:Array TypeId}
  {b6 b21 b22 b33 b34 vl vn cL cN ct cc many:Nat} {at_:Option Addr} {ts:List (Tk × Nat)} {es:List En} {qs:List (Nat × List Nat)} {Ze:aM} {tk:Tk} {g:Nat}
  (H:St w0 S [aa b34 (lP tk.five) 89,aa b33 (tk.cells g) 88,eI wb a c X,aa cb (dt v k) 39,aa b6 [pT wb] 40,aA at_ ct 88 5 ts.length (bN ts),aa b21 [.slice (aT vl) many cL] 84,aa b22 [.slice (aT vn) many cN] 84,aA (aT vl) cL 91 5 many (es.map fe),aA (aT vn) cN 91 5 many (es.map fb),fE qs] w)
  (hes:es.length=5 * many) (hqs:∀ e ∈ es,(e.gl,e.ls) ∈ qs∧(e.gn,e.ns) ∈ qs) (hEn:ma ts cc es Ze) (hg:g<many) (q s:Nat) (hs:tk.five[q]?=some (s:Int)) (hsc:tk.syms.contains (q,s)=true) {wd i:Nat} {px:List Nat} (hok:tk.Ok wd cc px i) (hX:X.length≤1099511000000)
  (hd:Nat.blt d nn=true) (hcl:ev ρ cl=.func (.func 37) ([]:List Value).toArray [pT b6,pT b22,pT b33,pT b34,pT b21].toArray) (hx:ev ρ x=iT q)
  (h:∀ w' a' c',St w0 S [aa b34 (lP tk.five) 89,aa b33 (tk.cells g) 88,eI wb a' c' (X++kL es g q s),aa cb (dt v k) 39,aa b6 [pT wb] 40,aA at_ ct 88 5 ts.length (bN ts),aa b21 [.slice (aT vl) many cL] 84,aa b22 [.slice (aT vn) many cN] 84,aA (aT vl) cL 91 5 many (es.map fe),aA (aT vn) cN 91 5 many (es.map fb),fE qs] w'→VL Tryz.prog nn ops Q rest (eW ρ d (.tuple #[])) w') :
  VL Tryz.prog nn ops Q (⟨some d,.call ⟨.value cl,#[x],tys⟩,ty,pos,after,none⟩ :: rest) ρ w:=by
 have hsy:=hok.sym hsc
 have hlt:5 * g+q<es.length:=ω
 obtain ⟨e,he⟩:∃ e,e=es[5 * g+q]:=⟨_,rfl⟩
 have hge:es[5 * g+q]?=some e:=by rw [he];exact List.getElem?_eq_getElem hlt
 have hem:=List.mem_of_getElem? hge
 have hco:=hEn.ok _ _ hge
 rw [show (5 * g+q) / 5=g by omega,show (5 * g+q) % 5=q by omega] at hco
 have hrows:(fE qs).pred w:=H.get (i:=10) rfl
 have b1:ff w e.gl (nums .i64 e.ls) 3:=hrows _ (hqs e hem).1
 have b2:ff w e.gn (nums .i64 e.ns) 3:=hrows _ (hqs e hem).2
 have v1:w.cell? ⟨vl,g * 5+q,none⟩=some (fe e):=bT.cellS (H.get (i:=8) rfl) (by rw [show g * 5+q=5 * g+q by omega,List.getElem?_map,hge];rfl)
 have v2:w.cell? ⟨vn,g * 5+q,none⟩=some (fb e):=bT.cellS (H.get (i:=9) rfl) (by rw [show g * 5+q=5 * g+q by omega,List.getElem?_map,hge];rfl)
 unfold fe at v1
 unfold fb at v2
 rw [hco.lens] at v1
 rw [hco.nums] at v2
 have hput:=ID w wb c a X q g s (e.ls.getD s 0) (e.ns.getD s 0) b6 b22 b33 b34 b21 vn vl e.gn e.gl (bm cc q) many many cN cL tk.five (tk.cells g) (H.get (i:=2) rfl) (H.cell 4 rfl rfl) (H.blk (i:=1) rfl) (qz _ _) (H.blk (i:=0) rfl) hsy.1 hs (H.cell 7 rfl rfl) (H.cell 6 rfl rfl) hg hg v2 v1 hsy.2 (b2.cellv (de (by rw [hco.nums];exact hsy.2))) (b1.cellv (de (by rw [hco.lens];exact hsy.2))) (hco.most s) (hco.small s) hX
 refine tK (fs:=[]) (vs:=[iT q]) (cs:=[pT b6,pT b22,pT b33,pT b34,pT b21]) hd J_ hcl hput (by simp [hx]) fun e2 w' ⟨a',c',he2,hP,hfa,hf⟩ => ⟨_,he2,h _ a' c' ?_⟩
 have H2:=H.wr 2 rfl hP hfa hf
 simp only [List.set] at H2
 rw [vm hge]
 exact H2
theorem oP {c:Nat→Nat→Nat→aM} {ts:List (Tk × Nat)} {j:Nat} {t:Tk × Nat} (h:ts[j]?=some t):i_ c (ts.take (j+1))=i_ c (ts.take j)++t.1.bits (c t.2):=by
 obtain ⟨h1,h2⟩:=List.getElem?_eq_some_iff.1 h
 rw [List.take_succ_eq_append_getElem h1,h2]
 simp [i_]
end Go.Proofs.YtmgemcffhbnpfaaGreatDoor
