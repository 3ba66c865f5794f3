/-
  A picture is written and read: part 4 of 13 (Groups, PixL, Err, Pix, Head, Scan, Trans).
-/
import Derived.Test.YtmgemcffhbnpfaaGreatDoorA03
set_option linter.unusedVariables false
set_option linter.unusedSimpArgs false
set_option maxRecDepth 100000
namespace Go.Proofs.YtmgemcffhbnpfaaGreatDoor
open Go
def Je (σ:pL) (n mc:Nat) (r:Option (List Nat × aM)) (w:World) (e:Ending) (w':World):Prop :=
 (∃ px R' b,r=some (px,R')∧e=.returned (.tuple #[.slice (aT b) (4 * n) (max mc (4 * n)),.nilIface])∧px.length=n∧(∀ p ∈ px,p<2 ^ 32)∧(cD σ R').pred w'∧w.heap.size≤b ∧
  ff w' b (bM .u8 (ap px) (max mc (4 * n))) 5∧cf [σ.d,σ.rd] w w') ∨
 (r=none∧(∃ a,e=.returned (.tuple #[.slice none 0 0,.iface 149 (.pointer (some a))]))∧cf [σ.d,σ.rd] w w')
def yE (top:Bool):Prop:=∀ (σ:pL) (R:aM) (W:World) (w h mc:Nat),(cD σ R).pred W→RO σ W→1≤w→w≤16384→1≤h→h≤16384→mc≤1024 →
 Calls Tryz.prog 52 #[.pointer (some ⟨σ.d,0,none⟩),.int .i32 (w:Nat),.int .i32 (h:Nat),.int .i32 (mc:Nat),.bool top] W (Je σ (w * h) mc (gT top w h R) W)
def ES (B w h:Nat) (wo:World) (hb:Nat) (hpx:List Nat) (hv:Value):Prop :=
 (hb=0∧hpx=[]∧hv=.slice none 0 0) ∨
 (2≤hb∧hb≤9∧hpx.length=aq w hb * aq h hb∧∃ bp cap,hv=.slice (aT bp) (4 * hpx.length) cap∧4 * hpx.length≤cap∧B≤bp∧ff wo bp (bM .u8 (ap hpx) cap) 5)
theorem ES.keep {B w h:Nat} {wo wo':World} {hb:Nat} {hpx:List Nat} {hv:Value} {S:List Nat} (H:ES B w h wo hb hpx hv) (hf:cf S wo wo') (hS:∀ s ∈ S,s<B):ES B w h wo' hb hpx hv:=by
 rcases H with H | ⟨h1,h2,h3,bp,cap,h4,h5,h6,h7⟩
 ·exact .inl H
 ·exact .inr ⟨h1,h2,h3,bp,cap,h4,h5,h6,hf.blk h7 fun hm => by have:=hS _ hm;omega⟩
def KJ (σ:pL) (wd ht:Nat) (r:Option (((Nat × List Nat) × List T) × aM)) (w:World) (e:Ending) (w':World):Prop :=
 (∃ hb hpx ts R' bg cs hv,r=some (((hb,hpx),ts),R')∧e=.returned (.tuple #[.slice (aT bg) (bB hpx+1) (bB hpx+1),hv,.int .u32 (hb:Nat),.nilIface])∧(cD σ R').pred w'∧w.heap.size≤bg∧ff w' bg cs 161 ∧
  (∀ k,k<5 * (bB hpx+1)→li (bg+1) w' cs (129 * k) (ts.getD k (.leaf 0)))∧ES w.heap.size wd ht w' hb hpx hv∧cf [σ.d,σ.rd] w w') ∨
 (r=none∧(∃ a,e=.returned (.tuple #[.slice none 0 0,.slice none 0 0,.int .u32 0,.iface 149 (.pointer (some a))]))∧cf [σ.d,σ.rd] w w')
theorem u5 {zs:List Value} (hz:0<zs.length):∀ (c i:Nat),i<c * zs.length→(dk c zs)[i]?=zs[i % zs.length]?
 | 0,i,h => by simp at h
 | c+1,i,h => by
  rw [o_]
  by_cases h1:i<c * zs.length
  ·rw [List.getElem?_append_left (by rw [nh];exact h1),u5 hz c i h1]
  ·have h2:i=(i - c * zs.length)+c * zs.length:=ω
   rw [List.getElem?_append_right (by rw [nh];omega),nh]
   rw [Nat.succ_mul] at h
   have h3:i % zs.length=i - c * zs.length:=by
    conv => lhs;rw [h2]
    rw [Nat.add_mul_mod_self_right,Nat.mod_eq_of_lt ω]
   rw [h3]
def rL:List Value:=.slice none 0 0 :: List.replicate 128 (.int .u32 0)
theorem Fh (m k:Nat) (hk:k<m):Ep (dk m rL) (129 * k):=by
 have hz:rL.length=129:=by simp [rL]
 have key:∀ y,y<129→(dk m rL)[129 * k+y]?=rL[y]?:=fun y hy => by
  rw [u5 ω m _ (by rw [hz];omega),hz,show (129 * k+y) % 129=y by omega]
 refine ⟨⟨_,by have:=key 0 ω;rw [Nat.add_zero] at this;rw [this];rfl⟩,fun x hx => ?_⟩
 rw [Nat.add_assoc,key (1+x) ω,Nat.add_comm 1 x,rL,List.getElem?_cons_succ,List.getElem?_replicate,if_pos hx]
theorem A2 (a b:Nat) (zs:List Value):dk a (dk b zs)=dk (a * b) zs:=by
 induction a with
 | zero => simp [dk]
 | succ a ih =>
  rw [o_,ih,Nat.succ_mul]
  unfold dk
  rw [← List.flatten_append,List.replicate_append_replicate]
theorem yq {β:Type} (cc k n:Nat) (c:List T→jh β) (R:aM):pb (eC cc (k+1) n) c R=pb (nz (bm cc (n % 5))) (fun t => pb (eC cc k (n+1)) fun ts => c (t :: ts)) R:=by
 rw [eC,eR]
 congr 1
 funext t R1
 rw [eR]
 rfl
theorem lV (px:List Nat):bB px≤65535:=by
 have key:∀ (px:List Nat) (m:Nat),m≤65535→px.foldl (fun m p => max m (p / 256 % 65536)) m≤65535:=by
  intro px
  induction px with
  | nil => intro m h;exact h
  | cons p l ih => intro m h;exact ih _ (Nat.max_le.2 ⟨h,ω⟩)
 exact key px 0 ω
theorem rR {px:List Nat} {k:Nat} (hk:k<px.length):bB (px.take (k+1))=max (bB (px.take k)) (px.getD k 0 / 256 % 65536):=by
 unfold bB
 rw [List.take_succ_eq_append_getElem hk,List.foldl_append,List.foldl_cons,List.foldl_nil]
 simp [hk]
theorem uB (l:List Nat) (j:Nat):ap l j<256:=by
 unfold ap CS pR pG pB pA
 split
 ·exact Nat.mod_lt _ ω
 ·split
  ·exact Nat.mod_lt _ ω
  ·split <;> exact Nat.mod_lt _ ω
theorem zi (l:List Nat) (k:Nat):ap l (4 * k) * 2 ^ 8+ap l (4 * k+1)=l.getD k 0 / 256 % 65536:=by
 unfold ap
 rw [show 4 * k / 4=k by omega,show 4 * k % 4=0 by omega,show (4 * k+1) / 4=k by omega,show (4 * k+1) % 4=1 by omega]
 simp only [CS,pR,pG,if_true,if_neg (show ¬ (1:Nat)=0 by omega)]
 omega
theorem DS {a b n:Nat} (h:b<2 ^ n):a * 2 ^ n ||| b=a * 2 ^ n+b:=by
 rw [← Nat.shiftLeft_eq,Nat.shiftLeft_add_eq_or_of_lt h]
def AO (j:Nat):Nat:=dM.getD j 0
theorem Ig (j:Nat):AO j=dM.getD j 0:=rfl
theorem EK:∀ j,j<5→bm 0 j=AO j∧AO j≤280∧∀ cc,bm cc j=if j=0∧0<cc then AO j+2 ^ cc else AO j:=by
 intro j hj
 have:j=0∨j=1∨j=2∨j=3∨j=4:=ω
 rcases this with rfl | rfl | rfl | rfl | rfl <;> refine ⟨rfl,δ,fun cc => ?_⟩
 ·show 280+(if cc=0 then 0 else 2 ^ cc)=if 0=0∧0<cc then 280+2 ^ cc else 280
  by_cases h:cc=0
  ·subst h;rfl
  ·rw [if_neg h,if_pos ⟨rfl,ω⟩]
 all_goals rfl
attribute [irreducible] AO
theorem CA (top:Bool) (OK:top=true→yE false) (σ:pL) (R:aM) (W:World) (wd ht cc:Nat) (D:(cD σ R).pred W) (ro:RO σ W) (hw:1≤wd) (hw2:wd≤16384) (hh:1≤ht) (hh2:ht≤16384) (hcc:cc≤11) :
  Calls Tryz.prog 70 #[.pointer (some ⟨σ.d,0,none⟩),.int .i32 (wd:Nat),.int .i32 (ht:Nat),.bool top,.int .u32 (cc:Nat)] W (KJ σ wd ht (gL (tj top wd ht) cc R) W):=by
 have hS:=ro.okS
 have H:St W [σ.d,σ.rd] [cD σ R] W:=St.one D (cK σ R) (by simp [cD])
 have hdW:∀ s ∈ [σ.d,σ.rd],s<W.heap.size:=fun s hs => (cK σ R).2 W D s hs
 have hdec:gL (tj top wd ht) cc R=pb (tj top wd ht) (fun m => pb (eC cc (5 * (bB m.2+1)) 0) fun ts => ret (m,ts)) R:=rfl
 refine enter (m:=120) Tryz.func70 O Tryz.ntmps70 O (Cy (bI O (bI O (az O (bI O (Lt (Cy (az O (Lt (Cs (Cy (dh O (Lt ?_)))))))))))))
 refine aH (fun ρ w' => ∃ hb hpx hv R1,gL (tj top wd ht) cc R=pb (eC cc (5 * (bB hpx+1)) 0) (fun ts => ret ((hb,hpx),ts)) R1∧ρ 0=.pointer (some ⟨σ.d,0,none⟩)∧ρ 4=.int .u32 (cc:Nat)∧ρ 11=hv∧ρ 12=.int .u32 (hb:Nat)∧ρ 14=iT (bB hpx) ∧
  ES W.heap.size wd ht w' hb hpx hv∧St W [σ.d,σ.rd] [cD σ R1] w') ?_ ?_
 case refine_1 =>
  cases top with
  | false =>
   refine Cq O (Ck (tn ?_))
   exact ⟨0,[],_,R,hdec,O,O,O,O,O,.inl ⟨O,O,O⟩,H⟩
  | true =>
  rw [show tj true wd ht=pb (rd 1) (fun u => if u=0 then ret (0,[]) else pb (rd 3) fun b => pb (ip (aq wd (b+2)) (aq ht (b+2))) fun px => ret (b+2,px)) from rfl,eR] at hdec
  refine Cp O ?_
  by_cases hR_:1≤R.length
  case neg =>
   rw [dN (iH ω)] at hdec
   refine Cy (bH O (dJ (k:=1) H 0 O ro hS ω ω O O O ?_))
   intro w a H
   refine gr O (av O O (av O O (az O (bI O (Lt (Cs (Cy (db O (Lp (bu aX O O) (Lt ?_))))))))))
   refine Cp O ?_
   refine Cy (db O (bI O (bI O (az O (bI O (Lt (Ct (aE (aE ?_)))))))))
   have hF:=H.frm
   exact fJ O O O O O (.inr ⟨hdec,⟨_,O⟩,hF⟩)
  case pos =>
  rw [dp (ir hR_)] at hdec
  have hu:val (R.take (1))<2 ^ (1):=bK R (1)
  refine Cy (bH O (dB (k:=1) H 0 O ro hS ω hR_ O O O ?_))
  intro w H
  simp only [List.set] at H
  refine gr O (av O O (av O O (az O (bI O (Lt ?_)))))
  generalize val (R.take (1))=u at *
  generalize R.drop (1)=R1 at *
  clear hR_
  refine Cs (Cy (db O (Lp (bj aX O O) (Lt (Cq O (Ck (tn (Cy (ai O (Lp (mh O O) (Lt ?_)))))))))))
  by_cases hu0:u=0
  case pos =>
   rw [if_pos hu0,dp (show ret (0,[]) R1=some ((0,[]),R1) from rfl)] at hdec
   refine CF O ω (Ck (tn ?_))
   exact ⟨0,[],_,R1,hdec,O,O,O,O,O,.inl ⟨O,O,O⟩,H⟩
  case neg =>
  rw [if_neg hu0,eR] at hdec
  refine CT O ω ?_
  by_cases hR_:3≤R1.length
  case neg =>
   rw [dN (iH ω)] at hdec
   refine Cy (bH O (dJ (k:=3) H 0 O ro hS ω ω O O O ?_))
   intro w a H
   refine gr O (av O O (av O O (az O (bI O (Lt (Cs (Cy (db O (Lp (bu aX O O) (Lt ?_))))))))))
   refine Cp O ?_
   refine Cy (db O (bI O (bI O (az O (bI O (Lt (Ct (aE (aE ?_)))))))))
   have hF:=H.frm
   exact fJ O O O O O (.inr ⟨hdec,⟨_,O⟩,hF⟩)
  case pos =>
  rw [dp (ir hR_)] at hdec
  have hb:val (R1.take (3))<2 ^ (3):=bK R1 (3)
  refine Cy (bH O (dB (k:=3) H 0 O ro hS ω hR_ O O O ?_))
  intro w H
  simp only [List.set] at H
  refine gr O (av O O (av O O (az O (bI O (Lt ?_)))))
  generalize val (R1.take (3))=b at *
  generalize R1.drop (3)=R2 at *
  clear hR_
  refine Cs (Cy (db O (Lp (bj aX O O) (Lt (Cq O (Ck (tn ?_)))))))
  rw [eR] at hdec
  refine Cy (ai O (ao O O (nT (b:=2) ω) (az O (Lt ?_))))
  have hb7:b≤7:=ω
  obtain ⟨hw1,hw3⟩:=cu (b:=b+2) hw
  obtain ⟨hh1,hh3⟩:=cu (b:=b+2) hh
  have hP:=OK rfl σ R2 w (aq wd (b+2)) (aq ht (b+2)) 0 (H.get (i:=0) rfl) (ro.frm H hS) hw1 ω hh1 ω ω
  rw [show gT false (aq wd (b+2)) (aq ht (b+2))=ip (aq wd (b+2)) (aq ht (b+2)) from rfl] at hP
  refine Cy (bH O (ai O (ai O (bZ O n0 (ik _ wd (b+2) hw ω ω) O (ai O (ai O (bZ O n0 (ik _ ht (b+2) hh ω ω) O (aS O ss hP O ?_))))))))
  intro e w2 hP2
  clear hP
  obtain ⟨a1,m1,c1,v2,rfl⟩:∃ a1 m1 c1 v2,e=.returned (.tuple #[.slice a1 m1 c1,v2]):=by rcases hP2 with ⟨_,_,_,_,rfl,_⟩ | ⟨_,⟨_,rfl⟩,_⟩ <;> exact ⟨_,_,_,_,rfl⟩
  refine ⟨_,O,?_⟩
  refine gr O (av O O (av O O (gS O (bI O (Lt ?_)))))
  rcases hP2 with ⟨px,R3,bp,hr,he,hlen,hp32,hd2,hnew,hbp,hf⟩ | ⟨hr,⟨a,he⟩,hf⟩
  case inr =>
   simp only [Ending.returned.injEq,Value.tuple.injEq,Array.mk.injEq,List.cons.injEq,Value.slice.injEq,and_true] at he
   obtain ⟨⟨rfl,rfl,rfl⟩,rfl⟩:=he
   rw [dN hr] at hdec
   refine Cs (Cy (db O (Lp (bu aX O O) (Lt ?_))))
   refine Cp O ?_
   refine Cy (db O (bI O (bI O (az O (bI O (Lt (Ct (aE (aE ?_)))))))))
   exact fJ O O O O O (.inr ⟨hdec,⟨_,O⟩,H.frm.then hf (by simp)⟩)
  case inl =>
  simp only [Ending.returned.injEq,Value.tuple.injEq,Array.mk.injEq,List.cons.injEq,Value.slice.injEq,and_true] at he
  obtain ⟨⟨rfl,rfl,rfl⟩,rfl⟩:=he
  rw [dp hr] at hdec
  replace hdec:gL (tj true wd ht) cc R=pb (eC cc (5 * (bB px+1)) 0) (fun ts => ret ((b+2,px),ts)) R3:=hdec
  have hnewW:W.heap.size≤bp:=Nat.le_trans H.high hnew
  replace H:=H.grow (i:=0) rfl hf hd2 (cK σ R3) rfl hbp hnew
  rw [← hlen,Nat.zero_max] at H
  rw [← hlen,Nat.zero_max]
  simp only [List.set] at H
  refine Cs (Cy (db O (Lp (bj aX O O) (Lt (Cq O (Ck (tn (Cy (az O (Lt ?_))))))))))
  have hpl:px.length≤268435456:=by rw [hlen];exact Nat.mul_le_mul (show _≤16384 by omega) (show _≤16384 by omega)
  have hb8:∀ j,ap px j<256:=uB px
  refine Cb ?_
  refine Cl (fun m ρ w' => ∃ k,m=px.length - k∧k≤px.length∧ρ 0=.pointer (some ⟨σ.d,0,none⟩)∧ρ 4=.int .u32 (cc:Nat)∧ρ 11=.slice (aT bp) (4 * px.length) (4 * px.length)∧ρ 12=.int .u32 ((b+2:Nat):Int)∧ρ 14=iT (bB (px.take k))∧ρ 17=iT (4 * k) ∧
   St W [σ.d,σ.rd] [aa bp (bM .u8 (ap px) (4 * px.length)) 5,cD σ R3] w') px.length
   ⟨0,rfl,ω,rfl,rfl,rfl,rfl,rfl,rfl,H⟩ ?_
  clear H
  rintro m ρ w3 ⟨k,rfl,hk,h0,h4,h11,h12,h14,h17,H⟩
  refine Cs (Cy (ai η (bU η (bG am O (bP O O (Lt ?_))))))
  by_cases hlt:k<px.length
  case pos =>
   have hx0:=hb8 (4 * k)
   have hx1:=hb8 (4 * k+1)
   have hRG:=zi px k
   have hmx:=rR hlt
   have hor:=DS (a:=ap px (4 * k)) (b:=ap px (4 * k+1)) (n:=8) hx1
   have hg16:px.getD k 0 / 256 % 65536<65536:=Nat.mod_lt _ ω
   rw [hRG] at hor
   generalize px.getD k 0 / 256 % 65536=gk at *
   have hm16:=lV (px.take k)
   refine CT O ω (Ck (tn (Cs (Cb (Cs (Cd aJ κ ?_))))))
   intro w hsame
   replace H:=H.same hsame
   refine cF η (bW η (aR am O O O (aD aQ O (H.cell 0 O (af ω)) (Sp (rp zV O (fg ω)) (Sp (ed O O ω (x7 (b:=8) ω)) (cF η (bW η (aG O O (ck (b:=1) ω) (aR am O O O (aD aQ O (H.cell 0 O (af ω)) (Sp (rp zV O (fg ω)) (Sp (sH (r:=(gk:Int)) O O (by rw [← hor];exact Mc ω)) (oZ O (Sn (tn (Cy (ai η (ai O ?_))))))))))))))))))
   refine bP O O (Lt ?_)
   by_cases hg:bB (px.take k)<gk
   case pos =>
    refine CT O ω (Cr (ai O (az O (Ln (aF (tn (Cr (ai η (ao O O (ck (b:=4) ω) (az O (Lt ?_)))))))))))
    exact ⟨px.length - (k+1),ω,k+1,O,ω,h0,h4,h11,h12,by rw [hmx,Nat.max_eq_right ω];rfl,O,H⟩
   case neg =>
    refine CF O ω (Ck (aF (tn (Cr (ai η (ao O O (ck (b:=4) ω) (az O (Lt ?_))))))))
    exact ⟨px.length - (k+1),ω,k+1,O,ω,h0,h4,h11,h12,by rw [hmx,Nat.max_eq_left ω];exact h14,O,H⟩
  case neg =>
  obtain rfl:k=px.length:=ω
  rw [List.take_length] at h14
  refine CF O ω (Cx (ax (ax (br (tn ?_)))))
  exact ⟨b+2,px,_,R3,hdec,h0,h4,h11,h12,h14,.inr ⟨ω,ω,hlen,bp,_,O,Nat.le_refl _,hnewW,H.blk (i:=0) rfl⟩,H.sub [1] O (by simp)⟩
 case refine_2 =>
 clear H hdec
 rintro ρ w2 ⟨hb,hpx,hv,R1,hdec,h0,h4,h11,h12,h14,hHP,H0⟩
 have H:=H0.base [σ.d,σ.rd] (by simp [cD])
 have hF0:=H0.frm
 have hW2:=H0.high
 clear H0
 have ro2:RO σ w2:=ro.keep hF0 hS
 have hm16:=lV hpx
 obtain ⟨m,hm⟩:∃ m,m=bB hpx+1:=⟨_,rfl⟩
 obtain ⟨m1,hm1⟩:∃ m1,m1=bB hpx:=⟨_,rfl⟩
 rw [← hm1] at h14
 rw [← hm] at hdec
 have hmm:m=m1+1:=ω
 refine Cy (ai η (ao O O (ck (b:=1) ω) (iJ H KX m m O O ω ω (Nat.le_refl _) ω ω O ?_)))
 intro w bg hn hb2 H
 refine gS O (Lt ?_)
 have hz:([.slice none 0 0]++List.replicate 128 (.int .u32 0)++[.slice none 0 0]++List.replicate 128 (.int .u32 0)++[.slice none 0 0]++List.replicate 128 (.int .u32 0)++[.slice none 0 0]++List.replicate 128 (.int .u32 0)++[.slice none 0 0]++List.replicate 128 (.int .u32 0):List Value)=dk 5 rL:=by rfl
 rw [hz,A2] at H
 have hraw:∀ k,0≤k→k<m * 5→Ep (dk (m * 5) rL) (129 * k):=fun k _ hk => Fh _ _ hk
 have hbgn:nG≤bg:=Nat.le_trans ro2.gl.high hb2
 have hdW2:σ.d<bg∧σ.rd<bg:=by
  have h1:=hdW σ.d (by simp)
  have h2:=hdW σ.rd (by simp)
  omega
 have hsb:=ro2.sbl
 have hne:=ro.ne
 have hS2:zG σ [σ.d,σ.rd,bg]:=by
  refine ⟨fun b hb => ?_,?_⟩
  ·simp only [List.mem_cons,List.not_mem_nil,or_false] at hb
   rcases hb with rfl | rfl | rfl
   ·exact hne.2.1
   ·exact hne.2.2.1
   ·exact hbgn
  ·simp only [List.mem_cons,List.not_mem_nil,or_false,not_or]
   exact ⟨hne.2.2.2.1,hne.2.2.2.2,ω⟩
 replace H:St w2 [σ.d,σ.rd] [aa bg (dk (m * 5) rL) 161,cD σ R1] w:=H
 generalize dk (m * 5) rL=cs0 at *
 refine Cs (Cy (bU O (bG Aq O (ai O (Lt (Cb ?_))))))
 refine Cl (fun mm ρ w' => ∃ (i:Nat) (ts:List T) (cs:List Value) (Ri:aM),mm=m - i∧i≤m∧ts.length=5 * i∧gL (tj top wd ht) cc R=pb (eC cc (5 * m - 5 * i) (5 * i)) (fun ts' => ret ((hb,hpx),ts++ts')) Ri ∧
  ρ 0=.pointer (some ⟨σ.d,0,none⟩)∧ρ 4=.int .u32 (cc:Nat)∧ρ 10=.slice (aT bg) m m∧ρ 11=hv∧ρ 12=.int .u32 (hb:Nat)∧ρ 85=iT m∧ρ 86=iT i ∧
  (∀ k,k<5 * i→li (bg+1) w' cs (129 * k) (ts.getD k (.leaf 0)))∧(∀ k,5 * i≤k→k<m * 5→Ep cs (129 * k))∧St w2 [σ.d,σ.rd] [aa bg cs 161,cD σ Ri] w') m
  ⟨0,[],cs0,R1,rfl,ω,rfl,by rw [hdec,Nat.mul_zero];rfl,h0,h4,rfl,h11,h12,rfl,rfl,fun k hk => ω,hraw,H⟩ ?_
 clear H hdec hraw h0 h4 h11 h12 h14
 clear ρ
 rintro mm ρ w3 ⟨i,ts,cs,Ri,rfl,hi,htl,hdec,h0,h4,h10,h11,h12,h85,h86,hT,hraw,H⟩
 refine Cy (bP η η (Lt ?_))
 by_cases hlt:i<m
 case neg =>
  obtain rfl:i=m:=ω
  rw [Nat.sub_self,eC,dp (show ret [] Ri=some ([],Ri) from rfl),List.append_nil] at hdec
  refine Cs (CF O ω (Cx (ax (ax (br (tn (Cy (bU η (db h11 (ai η (gS O (bI O (az O (bI O (Lt (Ct ?_))))))))))))))))
  exact fJ O O O O O (.inl ⟨hb,hpx,ts,Ri,bg,cs,hv,hdec,by rw [← hm];rfl,H.get (i:=1) rfl,ω,H.blk (i:=0) rfl,by rw [← hm];exact hT,hHP.keep H.frm hdW,hF0.trans H.frm⟩)
 case pos =>
 refine Cs (CT O ω (Ck (tn (Cs (Cb (Cy (ai η (az O (Lt ?_)))))))))
 have hal:∀ j,j<5→w3.cell? ⟨3,0+j,none⟩=(dM.map fun v => Value.int .u32 (v:Nat))[j]?:=fun j hj => by
  rw [H.old (ro2.gl.alpha j hj) (hS.1.g _ rfl)]
  have:j<dM.length:=hj
  simp [List.getElem?_map,List.getD_eq_getElem?_getD,this]
 refine Cy (Lp (fH Im O O hal) (ai O (Lt ?_)))
 clear hal
 refine Cb ?_
 refine Cl (fun mm ρ w' => ∃ (j:Nat) (ts:List T) (cs:List Value) (Ri:aM),mm=5 - j∧j≤5∧ts.length=5 * i+j∧gL (tj top wd ht) cc R=pb (eC cc (5 * m - (5 * i+j)) (5 * i+j)) (fun ts' => ret ((hb,hpx),ts++ts')) Ri ∧
  ρ 0=.pointer (some ⟨σ.d,0,none⟩)∧ρ 4=.int .u32 (cc:Nat)∧ρ 10=.slice (aT bg) m m∧ρ 11=hv∧ρ 12=.int .u32 (hb:Nat)∧ρ 85=iT m∧ρ 86=iT i∧ρ 19=iT i∧ρ 90=iT j ∧
  ρ 89=.agg (dM.map fun v => Value.int .u32 (v:Nat)).toArray ∧
  (∀ k,k<5 * i+j→li (bg+1) w' cs (129 * k) (ts.getD k (.leaf 0)))∧(∀ k,5 * i+j≤k→k<m * 5→Ep cs (129 * k))∧St w2 [σ.d,σ.rd] [aa bg cs 161,cD σ Ri] w') 5
  ⟨0,ts,cs,Ri,rfl,ω,htl,hdec,h0,h4,h10,h11,h12,h85,h86,rfl,rfl,rfl,hT,hraw,H⟩ ?_
 clear H hdec hraw hT htl h0 h4 h10 h11 h12 h85 h86 ts cs Ri
 clear ρ
 rintro mm ρ w4 ⟨j,ts,cs,Ri,rfl,hj,htl,hdec,h0,h4,h10,h11,h12,h85,h86,h19,h90,h89,hT,hraw,H⟩
 refine Cy (bP η O (Lt ?_))
 by_cases hj5:j<5
 case neg =>
  obtain rfl:j=5:=ω
  refine Cs (CF O ω (Cx (ax (ax (br (aF (tn (Cr (ao η O (ck (b:=1) ω) (ai O (Lt ?_)))))))))))
  exact ⟨m - (i+1),ω,i+1,ts,cs,Ri,O,ω,ω,by rw [show 5 * (i+1)=5 * i+5 by omega];exact hdec,h0,h4,h10,h11,h12,h85,O,by rw [show 5 * (i+1)=5 * i+5 by omega];exact hT,by rw [show 5 * (i+1)=5 * i+5 by omega];exact hraw,H⟩
 case pos =>
 obtain ⟨_,hal1,hal2⟩:=EK j hj5
 have haj:=hal2 cc
 have hidx:(dM.map fun v => Value.int .u32 (v:Nat)).toArray[j]?=some (.int .u32 (AO j:Nat)):=by
  have:j<dM.length:=hj5
  rw [Ig]
  simp [List.getElem?_map,this]
 generalize AO j=aj at *
 refine Cs (CT O ω (Ck (tn (Cs (Cb (Cy (ai η (Lp (Gt j I5 h89 h90 O hj5 hidx) (az O (az O (Lt (Cs (Cs ?_)))))))))))))
 refine aH (fun ρ w' => ρ 0=.pointer (some ⟨σ.d,0,none⟩)∧ρ 4=.int .u32 (cc:Nat)∧ρ 10=.slice (aT bg) m m∧ρ 11=hv∧ρ 12=.int .u32 (hb:Nat)∧ρ 85=iT m∧ρ 86=iT i∧ρ 19=iT i∧ρ 90=iT j ∧
  ρ 89=.agg (dM.map fun v => Value.int .u32 (v:Nat)).toArray∧ρ 20=iT j∧ρ 21=.int .u32 (aj:Nat)∧ρ 99=.bool (decide (j=0∧0<cc))∧w4.heap=w'.heap∧w4=w') ?_ ?_
 case refine_1 =>
  by_cases hj0:j=0
  case neg =>
   refine Cr (ai O (Lp (bR O O (decide_eq_false ω)) (dh O (Lk (Lk (ay O O (Lt ?_)))))))
   exact ⟨h0,h4,h10,h11,h12,h85,h86,h19,h90,h89,O,O,by rw [show decide (j=0∧0<cc)=false from decide_eq_false ω];rfl,O,O⟩
  case pos =>
  by_cases hc0:0<cc
  case neg =>
   refine Cr (ai O (Lp (bR O O (decide_eq_true ω)) (dh O (Lg (YI h4) (Lg (bE O O (decide_eq_false ω)) (ay O O (Lt ?_)))))))
   exact ⟨h0,h4,h10,h11,h12,h85,h86,h19,h90,h89,O,O,by rw [show decide (j=0∧0<cc)=false from decide_eq_false ω];rfl,O,O⟩
  case pos =>
   refine Cr (ai O (Lp (bR O O (decide_eq_true ω)) (dh O (Lg (YI h4) (Lg (bE O O (decide_eq_true ω)) (ay O O (Lt ?_)))))))
   exact ⟨h0,h4,h10,h11,h12,h85,h86,h19,h90,h89,O,O,by rw [show decide (j=0∧0<cc)=true from decide_eq_true ω];rfl,O,O⟩
 case refine_2 =>
 clear h0 h4 h10 h11 h12 h85 h86 h19 h90 h89
 clear ρ
 rintro ρ w' ⟨h0,h4,h10,h11,h12,h85,h86,h19,h90,h89,h20,h21,h99,_,rfl⟩
 refine aH (fun ρ w' => ρ 0=.pointer (some ⟨σ.d,0,none⟩)∧ρ 4=.int .u32 (cc:Nat)∧ρ 10=.slice (aT bg) m m∧ρ 11=hv∧ρ 12=.int .u32 (hb:Nat)∧ρ 85=iT m∧ρ 86=iT i∧ρ 19=iT i∧ρ 90=iT j ∧
  ρ 89=.agg (dM.map fun v => Value.int .u32 (v:Nat)).toArray∧ρ 20=iT j∧ρ 21=.int .u32 (bm cc j:Nat)∧w4.heap=w'.heap∧w4=w') ?_ ?_
 case refine_1 =>
  by_cases hc:j=0∧0<cc
  case neg =>
   rw [if_neg hc] at haj
   refine CF h99 hc (Ck (tn ?_))
   exact ⟨h0,h4,h10,h11,h12,h85,h86,h19,h90,h89,h20,by rw [haj];exact h21,O,O⟩
  case pos =>
   rw [if_pos hc] at haj
   have hp:2 ^ cc≤2 ^ 11:=Nat.pow_le_pow_right ω hcc
   refine CT h99 hc (Cr (ai η (ai η (Lp (ed (r:=((2 ^ cc:Nat):Int)) O O ω (by rw [← Nat.one_mul (2 ^ cc)];exact yn (a:=1) ω)) (ao O O (nT ω) (az O (Lt ?_)))))))
   exact ⟨h0,h4,h10,h11,h12,h85,h86,h19,h90,h89,h20,by rw [haj];rfl,O,O⟩
 case refine_2 =>
 clear h0 h4 h10 h11 h12 h85 h86 h19 h90 h89 h20 h21 h99
 clear ρ
 rintro ρ w' ⟨h0,h4,h10,h11,h12,h85,h86,h19,h90,h89,h20,h21,_,rfl⟩
 have hA:bm cc j≤2328:=by
  rw [haj]
  have:2 ^ cc≤2 ^ 11:=Nat.pow_le_pow_right ω hcc
  split <;> omega
 have hA2:bm cc ((5 * i+j) % 5)=bm cc j:=by rw [show (5 * i+j) % 5=j by omega]
 obtain ⟨K,hK⟩:∃ K,5 * m - (5 * i+j)=K+1:=⟨5 * m - (5 * i+j) - 1,ω⟩
 rw [hK,yq,hA2] at hdec
 generalize bm cc j=A at *
 have hHT:=EA σ Ri w4 bg (129 * (5 * i+j)) A cs 161 (H.get (i:=1) rfl) (ro2.frm H hS) (H.blk (i:=0) rfl) (hraw _ (Nat.le_refl _) ω) hS2 ω hbgn ω
 have hoff:bg=bg∧0+i * 645+j * 129=129 * (5 * i+j):=⟨rfl,ω⟩
 refine Cy (bH η (bU η (ai η (ai η (Lp (gm i Aq O O O hlt) (Lp (nC j mS O O O hj5) (ai η ?_)))))))
 rw [hoff.2]
 refine aS O K3 hHT O ?_
 intro e w5 hP
 clear hHT
 obtain ⟨v,rfl⟩:∃ v,e=.returned v:=by rcases hP with ⟨_,_,_,_,rfl,_⟩ | ⟨_,⟨_,rfl⟩,_⟩ <;> exact ⟨_,rfl⟩
 refine ⟨_,O,?_⟩
 refine bI O (Lt ?_)
 rcases hP with ⟨u,Rj,cs',hu,he,hd5,hbg5,hso,htc,hf⟩ | ⟨hu,⟨a,he⟩,hf⟩
 case inr =>
  obtain rfl:=Ending.returned.inj he
  rw [dN hu] at hdec
  refine Cy (db O (Lp (bu aX O O) (Lt ?_)))
  refine Cp O ?_
  refine Cy (db O (bI O (bI O (az O (bI O (Lt (Ct (bL (aE (aE (bL (bL (aE (aE (bL (aE ?_))))))))))))))))
  exact fJ O O O O O (.inr ⟨hdec,⟨_,O⟩,hF0.trans (H.frm.then hf (by simp [hb2]))⟩)
 case inl =>
 obtain rfl:=Ending.returned.inj he
 rw [dp hu] at hdec
 have hlow:∀ s ∈ [σ.d,σ.rd,bg],s<bg+1:=by simp;omega
 have hT2:∀ k,k<5 * i+(j+1)→li (bg+1) w5 cs' (129 * k) ((ts++[u]).getD k (.leaf 0)):=fun k hk => by
  by_cases hk2:k<5 * i+j
  ·have h1:=((hT k hk2).keep hf hlow).same hso ω
   rw [List.getD_eq_getElem?_getD,List.getElem?_append_left ω,← List.getD_eq_getElem?_getD]
   exact h1
  ·obtain rfl:k=5 * i+j:=ω
   have h1:=htc.low (B':=bg+1) (by have:=(H.blk (i:=0) rfl).lt;omega)
   rw [List.getD_eq_getElem?_getD,List.getElem?_append_right ω,htl,Nat.sub_self]
   exact h1
 have hraw2:∀ k,5 * i+(j+1)≤k→k<m * 5→Ep cs' (129 * k):=fun k h1 h2 => (hraw k ω h2).same hso ω
 replace H:=H.re (l':=[aa bg cs' 161,cD σ Rj]) hf (by simp [hb2]) rfl (by
  intro r hr
  simp only [List.mem_cons,List.not_mem_nil,or_false] at hr
  rcases hr with rfl | rfl
  ·exact hbg5
  ·exact hd5) (by
  intro r hr
  simp only [List.mem_cons,List.not_mem_nil,or_false] at hr
  rcases hr with rfl | rfl
  ·exact ⟨cw _ _ _,dW _ _ _⟩
  ·exact cK _ _)
 refine Cy (db O (Lp (bj aX O O) (Lt (Cq O (Ck (aF (tn (Cr (ao η O (ck (b:=1) ω) (ai O (Lt ?_)))))))))))
 exact ⟨5 - (j+1),ω,j+1,ts++[u],cs',Rj,O,ω,by simp [htl];omega,by
  rw [hdec,show 5 * m - (5 * i+(j+1))=K by omega]
  congr 1
  funext ts'
  rw [List.append_assoc]
  rfl,h0,h4,h10,h11,h12,h85,h86,h19,rfl,h89,hT2,hraw2,H⟩
end Go.Proofs.YtmgemcffhbnpfaaGreatDoor
namespace Go.Proofs.YtmgemcffhbnpfaaGreatDoor
theorem eO {a r g b:Nat} (ha:a<256) (hr:r<256) (hg:g<256) (hb:b<256):pA (fQ a r g b)=a∧pR (fQ a r g b)=r∧pG (fQ a r g b)=g∧pB (fQ a r g b)=b∧fQ a r g b<2 ^ 32:=by
 unfold pA pR pG pB fQ
 omega
theorem jx {p:Nat} (h:p<2 ^ 32):fQ (pA p) (pR p) (pG p) (pB p)=p:=by
 unfold pA pR pG pB fQ
 omega
theorem uu {l m:List Nat} {j:Nat} (h:j<4 * l.length):ap (l++m) j=ap l j:=by
 unfold ap
 rw [List.getD_eq_getElem?_getD,List.getElem?_append_left ω,← List.getD_eq_getElem?_getD]
theorem ni {l:List Nat} {j:Nat} (h:4 * l.length≤j):ap l j=0:=by
 unfold ap
 rw [List.getD_eq_getElem?_getD,List.getElem?_eq_none ω]
 show CS 0 _=0
 unfold CS pA pR pG pB
 split
 ·rfl
 ·split
  ·rfl
  ·split <;> rfl
theorem xP (l:List Nat) (p j:Nat):ap (l++[p]) j=if j=4 * l.length+3 then pA p else if j=4 * l.length+2 then pB p else if j=4 * l.length+1 then pG p else if j=4 * l.length+0 then pR p else ap l j:=by
 by_cases h1:j<4 * l.length
 ·rw [uu h1,if_neg ω,if_neg ω,if_neg ω,if_neg ω]
 ·by_cases h2:4 * l.length+4≤j
  ·rw [ni (by simp;omega),if_neg ω,if_neg ω,if_neg ω,if_neg ω,ni ω]
  ·have hd:j / 4=l.length:=ω
   have e:ap (l++[p]) j=CS p (j % 4):=by
    unfold ap
    rw [hd,List.getD_eq_getElem?_getD,List.getElem?_append_right (Nat.le_refl _),Nat.sub_self]
    rfl
   rw [e]
   have:j=4 * l.length+0∨j=4 * l.length+1∨j=4 * l.length+2∨j=4 * l.length+3:=ω
   rcases this with h | h | h | h
   ·rw [if_neg ω,if_neg ω,if_neg ω,if_pos h,show j % 4=0 by omega];rfl
   ·rw [if_neg ω,if_neg ω,if_pos h,show j % 4=1 by omega];rfl
   ·rw [if_neg ω,if_pos h,show j % 4=2 by omega];rfl
   ·rw [if_pos h,show j % 4=3 by omega];rfl
theorem Ae {l:List Nat} {p i:Nat} (h:i<l.length):(l++[p]).getD i 0=l.getD i 0:=by
 rw [List.getD_eq_getElem?_getD,List.getElem?_append_left h,← List.getD_eq_getElem?_getD]
theorem Ar (l:List Nat) (p:Nat):(l++[p]).getD l.length 0=p:=by
 rw [List.getD_eq_getElem?_getD,List.getElem?_append_right (Nat.le_refl _),Nat.sub_self];rfl
theorem sD {d:Nat} (hd:1≤d):∀ (n:Nat) (acc:List Nat),d≤acc.length →
  (∀ i,i<acc.length→(fN d n acc).getD i 0=acc.getD i 0)∧∀ i,acc.length≤i→i<acc.length+n→(fN d n acc).getD i 0=(fN d n acc).getD (i - d) 0
 | 0,acc,h => ⟨fun i _ => rfl,fun i h1 h2 => ω⟩
 | n+1,acc,h => by
  obtain ⟨h1,h2⟩:=sD hd n (acc++[acc.getD (acc.length - d) 0]) (by simp;omega)
  rw [List.length_append,List.length_singleton] at h1 h2
  rw [fN]
  have h3:∀ i,i<acc.length→(fN d n (acc++[acc.getD (acc.length - d) 0])).getD i 0=acc.getD i 0:=fun i hi => by
   rw [h1 i ω,Ae hi]
  refine ⟨h3,fun i hi hi2 => ?_⟩
  by_cases he:i=acc.length
  ·subst he
   rw [h1 _ ω,Ar,h3 _ ω]
  ·exact h2 i ω ω
theorem rB (d:Nat):∀ (n:Nat) (acc:List Nat),∃ r,fN d n acc=acc++r
 | 0,acc => ⟨[],by simp [fN]⟩
 | n+1,acc => by
  obtain ⟨r,hr⟩:=rB d n (acc++[acc.getD (acc.length - d) 0])
  exact ⟨_ :: r,by rw [fN,hr,List.append_assoc];rfl⟩
theorem uw {d:Nat} (hd:1≤d):∀ (n:Nat) (acc:List Nat),d≤acc.length→(∀ p ∈ acc,p<2 ^ 32)→∀ p ∈ fN d n acc,p<2 ^ 32
 | 0,acc,h,ha,p,hp => ha p hp
 | n+1,acc,h,ha,p,hp => by
  refine uw hd n _ (by simp;omega) (fun q hq => ?_) p hp
  rw [List.mem_append,List.mem_singleton] at hq
  rcases hq with hq | rfl
  ·exact ha q hq
  ·have:acc.length - d<acc.length:=ω
   rw [List.getD_eq_getElem?_getD,List.getElem?_eq_getElem this]
   exact ha _ (List.getElem_mem this)
theorem EH {d n k:Nat} {acc:List Nat} (hd:1≤d) (hdl:d≤acc.length) (hk:k<4 * n):ap (fN d n acc) (4 * acc.length+k)=ap (fN d n acc) (4 * acc.length+k - 4 * d):=by
 unfold ap
 rw [(sD hd n acc hdl).2 ((4 * acc.length+k) / 4) ω ω,show (4 * acc.length+k - 4 * d) / 4=(4 * acc.length+k) / 4 - d by omega,show (4 * acc.length+k - 4 * d) % 4=(4 * acc.length+k) % 4 by omega]
theorem Ao {d n j:Nat} {acc:List Nat} (hd:1≤d) (hdl:d≤acc.length) (hj:j<4 * acc.length):ap (fN d n acc) j=ap acc j:=by
 unfold ap
 rw [(sD hd n acc hdl).1 (j / 4) ω]
theorem Bz (w c:Nat):1≤eX w c:=by
 unfold eX
 split
 ·omega
 ·split <;> omega
theorem y4 {w c:Nat} (hw:w≤1000000) (hc:c≤1048576):eX w c≤300000000:=by
 unfold eX
 have h1:lg (c - 1)<256∨120<c∨lg (c - 1)=0:=by
  unfold lg
  by_cases h:c - 1<120
  ·left
   have:∀ i,i<120→eT.getD i 0<256:=δ
   exact this _ h
  ·right;left;omega
 split
 ·omega
 ·have h2:lg (c - 1) / 16 * w≤16 * 1000000:=Nat.mul_le_mul ω hw
  split <;> omega
theorem uL {w x y L:Nat} (h:y * w+x=L) (hx:x<w):L / w=y∧L % w=x:=by
 subst h
 rw [Nat.add_comm,Nat.add_mul_div_right _ _ ω,Nat.add_mul_mod_self_right,Nat.div_eq_of_lt hx,Nat.mod_eq_of_lt hx]
 omega
theorem tX {hb tpr:Nat} {hpx:List Nat} {w x y L:Nat} (h:y * w+x=L) (hx:x+1<w) (hm:hb=0∨(x+1) % 2 ^ hb≠0):dF hb tpr hpx w (L+1)=dF hb tpr hpx w L:=by
 unfold dF
 by_cases h0:hb=0
 ·rw [if_pos h0,if_pos h0]
 ·rw [if_neg h0,if_neg h0]
  obtain ⟨h1,h2⟩:=uL h ω
  obtain ⟨h3,h4⟩:=uL (show y * w+(x+1)=L+1 by omega) hx
  rw [h1,h2,h3,h4]
  have h5:(x+1) / 2 ^ hb=x / 2 ^ hb:=by
   rcases hm with hm | hm
   ·exact absurd hm h0
   ·have hp:=Nat.two_pow_pos hb
    generalize 2 ^ hb=t at *
    have e1:=Nat.div_add_mod x t
    have e2:=Nat.div_add_mod (x+1) t
    have l1:=Nat.mod_lt x hp
    have l2:=Nat.mod_lt (x+1) hp
    generalize x / t=q at *
    generalize x % t=r at *
    generalize (x+1) / t=q' at *
    generalize (x+1) % t=r' at *
    rcases Nat.lt_trichotomy q q' with h | h | h
    ·have:t * (q+1)≤t * q':=Nat.mul_le_mul_left _ h
     rw [Nat.mul_add] at this
     omega
    ·exact h.symm
    ·have:t * (q'+1)≤t * q:=Nat.mul_le_mul_left _ h
     rw [Nat.mul_add] at this
     omega
  rw [h5]
theorem wg {n b x:Nat} (hx:x<n):x / 2 ^ b<aq n b:=by
 have hp:=Nat.two_pow_pos b
 unfold aq
 refine (Nat.lt_iff_add_one_le).2 ((Nat.le_div_iff_mul_le hp).2 ?_)
 rw [Nat.add_mul,Nat.one_mul]
 have:=Nat.div_mul_le_self x (2 ^ b)
 omega
theorem mR {w h b x y:Nat} (hx:x<w) (hy:y<h):aq w b * (y / 2 ^ b)+x / 2 ^ b<aq w b * aq h b:=by
 have h1:=wg (b:=b) hx
 have h2:=wg (b:=b) hy
 have h3:aq w b * (y / 2 ^ b+1)≤aq w b * aq h b:=Nat.mul_le_mul_left _ h2
 rw [Nat.mul_add,Nat.mul_one] at h3
 omega
theorem vj {px:List Nat} {i:Nat} (hi:i<px.length):px.getD i 0 / 256 % 65536≤bB px:=by
 have mono:∀ (px:List Nat) (m:Nat),m≤px.foldl (fun m p => max m (p / 256 % 65536)) m:=by
  intro px
  induction px with
  | nil => intro m;exact Nat.le_refl _
  | cons p l ih => intro m;exact Nat.le_trans (Nat.le_max_left _ _) (ih _)
 have key:∀ (px:List Nat) (m i:Nat),i<px.length→px.getD i 0 / 256 % 65536≤px.foldl (fun m p => max m (p / 256 % 65536)) m:=by
  intro px
  induction px with
  | nil => intro m i h;simp at h
  | cons p l ih =>
   intro m i h
   cases i with
   | zero => exact Nat.le_trans (Nat.le_max_right _ _) (mono l _)
   | succ i => have:=ih (max m (p / 256 % 65536)) i (by simpa using h);simpa using this
 exact key px 0 i hi
theorem qC (cc:Nat) (acc:List Nat) (p i:Nat):dv cc (acc++[p]) i=if i=dZ cc p then p else dv cc acc i:=by
 unfold dv
 rw [List.foldl_append,List.foldl_cons,List.foldl_nil]
 by_cases h:i=dZ cc p
 ·rw [if_pos h,if_pos h.symm]
 ·rw [if_neg h,if_neg (Ne.symm h)]
theorem vv {cc:Nat} {acc:List Nat} {k:Nat} (h:k<acc.length) (i:Nat):dv cc (acc.take (k+1)) i=if i=dZ cc (acc.getD k 0) then acc.getD k 0 else dv cc (acc.take k) i:=by
 rw [List.take_succ_eq_append_getElem h,qC]
 simp [h]
theorem mM {cc p:Nat} (h1:1≤cc) (h:cc≤11):dZ cc p<2 ^ cc:=by
 unfold dZ
 refine Nat.div_lt_of_lt_mul ?_
 rw [← Nat.pow_add,show 32 - cc+cc=32 by omega]
 exact Nat.mod_lt _ ω
theorem uv {cc:Nat}:∀ (acc:List Nat),(∀ p ∈ acc,p<2 ^ 32)→∀ i,dv cc acc i<2 ^ 32:=by
 intro acc h i
 have key:∀ (l:List Nat) (v:Nat),(∀ p ∈ l,p<2 ^ 32)→v<2 ^ 32→l.foldl (fun v p => if dZ cc p=i then p else v) v<2 ^ 32:=by
  intro l
  induction l with
  | nil => intro v _ hv;exact hv
  | cons p l ih =>
   intro v hp hv
   refine ih _ (fun q hq => hp q (List.mem_cons_of_mem _ hq)) ?_
   show (if dZ cc p=i then p else v)<2 ^ 32
   split
   ·exact hp p (by simp)
   ·exact hv
 exact key acc 0 h ω
theorem Iq {p:Nat} (h:p<2 ^ 32):((pR p * 2 ^ 16 ||| pG p * 2 ^ 8) ||| pB p * 2 ^ 0) ||| pA p * 2 ^ 24=p:=by
 have e:=jx h
 have h1:pA p<256:=Nat.mod_lt _ ω
 have h2:pR p<256:=Nat.mod_lt _ ω
 have h3:pG p<256:=Nat.mod_lt _ ω
 have h4:pB p<256:=Nat.mod_lt _ ω
 generalize pA p=a at *
 generalize pR p=r at *
 generalize pG p=g at *
 generalize pB p=b at *
 have oh:∀ {a b n:Nat},b<2 ^ n→a * 2 ^ n ||| b=a * 2 ^ n+b:=fun {a b n} h => by rw [← Nat.shiftLeft_eq,Nat.shiftLeft_add_eq_or_of_lt h]
 rw [oh (a:=r) (b:=g * 2 ^ 8) (n:=16) ω,show r * 2 ^ 16+g * 2 ^ 8=(r * 256+g) * 2 ^ 8 by omega,oh (a:=r * 256+g) (b:=b * 2 ^ 0) (n:=8) ω,Nat.or_comm,oh (a:=a) (n:=24) ω]
 unfold fQ at e
 omega
end Go.Proofs.YtmgemcffhbnpfaaGreatDoor
namespace Go.Proofs.YtmgemcffhbnpfaaGreatDoor
open Go
theorem Dx (W:World) (s:ByteArray) :
  Calls Tryz.prog 51 #[.string s] W fun e w' => (∃ a,e=.returned (.iface 149 (.pointer (some a))))∧cf [] W w':=by
 have H:St W [] [] W:=St.nil W []
 refine enter (m:=7) Tryz.func51 O Tryz.ntmps51 O (Cy (bI O (Lt (Cy (db O (Lp (iF [.string s] O κ) (fM H (cs:=[.string s]) O O O ?_)))))))
 intro w b hb1 hb2 H
 refine Lp (Eu Iy O) (bI O (Lt (Ct ?_)))
 exact ak O O ⟨⟨_,O⟩,H.frm⟩
section
variable {w0 w:World} {S:List Nat} {l:List e_} {σ:pL} {R:aM}
variable {n:Nat} {ops:Array Oper} {Q:cY} {rest:List Oper} {ρ:dK} {ty:TypeId} {pos:String} {after:Array Edge} {x y:Operand} {d k:Nat} {ts:Array TypeId}
theorem mJ (H:St w0 S l w) {s:ByteArray} (hd:Nat.blt d n=true) (hx:ev ρ x=.string s)
  (h:∀ w' a,St w0 S l w'→VL Tryz.prog n ops Q rest (eW ρ d (.iface 149 (.pointer (some a)))) w') :
  VL Tryz.prog n ops Q (⟨some d,.call ⟨.value (.func 51),#[x],ts⟩,ty,pos,after,none⟩ :: rest) ρ w :=
 aS hd K0 (Dx w s) (by simp [hx]) fun e w' ⟨⟨a,he⟩,hf⟩ => ⟨_,he,h _ a (H.quiet hf)⟩
theorem Ew {s v:Nat} {R':aM} (H:St w0 S l w) (i:Nat) (hi:l[i]?=some (cD σ R)) (ro:RO σ w0) (hS:zG σ S) (hs:s<40) (hr:lz s R=some (v,R')) (hd:Nat.blt d n=true) (hx:ev ρ x=.pointer (some ⟨σ.d,0,none⟩)) (hy:ev ρ y=.int .u32 (s:Nat))
  (h:∀ w',St w0 S (l.set i (cD σ R')) w'→VL Tryz.prog n ops Q rest (eW ρ d (.tuple #[.int .u32 (v:Nat),.nilIface])) w') :
  VL Tryz.prog n ops Q (⟨some d,.call ⟨.value (.func 72),#[x,y],ts⟩,ty,pos,after,none⟩ :: rest) ρ w :=
 aS hd FY (Hd σ R s w (H.get hi) (ro.frm H hS) hs) (by simp [hx,hy]) fun e w' hP => by
  rcases hP with ⟨v2,R2,h1,h2,h3,h4⟩ | ⟨h1,_⟩
  ·rw [hr] at h1
   obtain ⟨rfl,rfl⟩:=Prod.mk.inj (Option.some.inj h1)
   exact ⟨_,h2,h _ (H.dec i hi h4 h3)⟩
  ·rw [hr] at h1;cases h1
theorem D0 {s:Nat} (H:St w0 S l w) (i:Nat) (hi:l[i]?=some (cD σ R)) (ro:RO σ w0) (hS:zG σ S) (hs:s<40) (hr:lz s R=none) (hd:Nat.blt d n=true) (hx:ev ρ x=.pointer (some ⟨σ.d,0,none⟩)) (hy:ev ρ y=.int .u32 (s:Nat))
  (h:∀ w' a,cf S w0 w'→VL Tryz.prog n ops Q rest (eW ρ d (.tuple #[.int .u32 0,.iface 149 (.pointer (some a))])) w') :
  VL Tryz.prog n ops Q (⟨some d,.call ⟨.value (.func 72),#[x,y],ts⟩,ty,pos,after,none⟩ :: rest) ρ w :=
 aS hd FY (Hd σ R s w (H.get hi) (ro.frm H hS) hs) (by simp [hx,hy]) fun e w' hP => by
  rcases hP with ⟨v2,R2,h1,_⟩ | ⟨_,⟨a,h2⟩,h4⟩
  ·rw [hr] at h1;cases h1
  ·exact ⟨_,h2,h _ a (H.decFrm hi h4)⟩
end
end Go.Proofs.YtmgemcffhbnpfaaGreatDoor
set_option maxHeartbeats 8000000
namespace Go.Proofs.YtmgemcffhbnpfaaGreatDoor
open Go
def eB (cc be:Nat) (f:Nat→Nat):e_:=if cc=0 then ⟨[],fun _ => True⟩ else aa be (bM .u32 f (2 ^ cc)) 36
theorem tv (cc be:Nat) (f:Nat→Nat):(eB cc be f).Local∧(eB cc be f).In:=by
 unfold eB
 split
 ·exact ⟨fun w w' _ h => h,fun w _ b hb => by simp at hb⟩
 ·exact ⟨cw _ _ _,dW _ _ _⟩
theorem jn {cc be:Nat} {f:Nat→Nat} (h:0<cc):eB cc be f=aa be (bM .u32 f (2 ^ cc)) 36:=if_neg ω
theorem BW (cc be:Nat) (f:Nat→Nat):∀ b ∈ (eB cc be f).foot,b=be:=by
 unfold eB
 split
 ·simp
 ·simp [aa]
def CV (cc be:Nat) (cv:Value):Prop:=(cc=0∧cv=.slice none 0 0)∨(0<cc∧cv=.slice (aT be) (2 ^ cc) (2 ^ cc))
def kX (hb:Nat):Nat:=if hb=0 then 0 else 2 ^ hb - 1
structure Ib (σ:pL) (wd cc bg m hb bp n cap:Nat) (cv hv:Value) (P C ux uy gi:Nat) (lk:Bool) (ρ:dK):Prop where
 s0:ρ 0=.pointer (some ⟨σ.d,0,none⟩)
 s1:ρ 1=.int .i32 (wd:Nat)
 s13:ρ 13=.int .u32 (if cc=0 then 0 else 32 - cc:Nat)
 s14:ρ 14=cv
 s17:ρ 17=.slice (aT bg) m m
 s18:ρ 18=hv
 s19:ρ 19=.int .u32 (hb:Nat)
 s20:ρ 20=.int .i32 (kX hb:Nat)
 s21:ρ 21=.int .i32 (if hb=0 then 0 else aq wd hb:Nat)
 s22:ρ 22=.slice (aT bp) (4 * n) cap
 s23:ρ 23=iT P
 s24:ρ 24=iT C
 s25:ρ 25=.int .i32 (ux:Nat)
 s26:ρ 26=.int .i32 (uy:Nat)
 s27:ρ 27=.pointer (some ⟨bg,0+gi * 645,none⟩)
 s28:ρ 28=.bool lk
theorem Er (top:Bool) (OK:top=true→yE false):yE top:=by
 intro σ R W wd ht mc D ro hw hw2 hh hh2 hmc
 have hS:=ro.okS
 have H:St W [σ.d,σ.rd] [cD σ R] W:=St.one D (cK σ R) (by simp [cD])
 have hdW:∀ s ∈ [σ.d,σ.rd],s<W.heap.size:=fun s hs => (cK σ R).2 W D s hs
 have hdec:gT top wd ht R=pb ut (fun cc => pb (gL (tj top wd ht) cc) fun q => iz wd (wd * ht) cc (rH wd q) (wd * ht) []) R:=rfl
 obtain ⟨n,hn⟩:∃ n,n=wd * ht:=⟨_,rfl⟩
 rw [← hn] at hdec ⊢
 have hn2:n≤268435456:=by rw [hn];exact Nat.mul_le_mul (show _≤16384 by omega) (show _≤16384 by omega)
 have hn1:1≤n:=by rw [hn];exact Nat.mul_le_mul hw hh
 have h4w:4 * wd * ht=4 * n:=by rw [hn,Nat.mul_assoc]
 refine enter (m:=435) Tryz.func52 O Tryz.ntmps52 O (Cy (bI O (bI O (Lt (Cy (az O (az O (bI O (Lt ?_)))))))))
 rw [show ut=pb (rd 1) (fun u => if u=0 then ret 0 else pb (rd 4) fun c => if c<1∨11<c then no else ret c) from rfl,eR] at hdec
 by_cases hR_:1≤R.length
 case neg =>
  rw [dN (iH ω)] at hdec
  refine Cy (bH O (dJ (k:=1) H 0 O ro hS ω ω O O O ?_))
  intro w a H
  refine gr O (av O O (av O O (az O (bI O (Lt (Cs (Cy (db O (Lp (bu aX O O) (Lt ?_))))))))))
  refine Cp O ?_
  refine Cy (db O (bI O (bI O (Lt (Ct (aE ?_))))))
  have hF:=H.frm
  exact cr O O O (.inr ⟨hdec,⟨_,O⟩,hF⟩)
 case pos =>
 rw [dp (ir hR_)] at hdec
 have hu:val (R.take (1))<2 ^ (1):=bK R (1)
 refine Cy (bH O (dB (k:=1) H 0 O ro hS ω hR_ O O O ?_))
 intro w H
 simp only [List.set] at H
 refine gr O (av O O (av O O (az O (bI O (Lt ?_)))))
 generalize val (R.take (1))=u at *
 generalize R.drop (1)=R1 at *
 clear hR_
 refine Cs (Cy (db O (Lp (bj aX O O) (Lt (Cq O (Ck (tn (Cs (Cy (ai O (Lp (mh O O) (Lt ?_))))))))))))
 refine aH (fun ρ w' => ∃ cc be cv R2,gT top wd ht R=pb (gL (tj top wd ht) cc) (fun q => iz wd n cc (rH wd q) n []) R2∧cc≤11∧CV cc be cv∧(cc=0∨W.heap.size≤be) ∧
  ρ 0=.pointer (some ⟨σ.d,0,none⟩)∧ρ 1=.int .i32 (wd:Nat)∧ρ 2=.int .i32 (ht:Nat)∧ρ 3=.int .i32 (mc:Nat)∧ρ 4=.bool top∧ρ 12=.int .u32 (cc:Nat)∧ρ 13=.int .u32 (if cc=0 then 0 else 32 - cc:Nat)∧ρ 14=cv ∧
  St W [σ.d,σ.rd] [eB cc be (fun _ => 0),cD σ R2] w') ?_ ?_
 case refine_1 =>
  by_cases hu:u=0
  case pos =>
   rw [if_pos hu,dp (show ret 0 R1=some (0,R1) from rfl)] at hdec
   refine CF O ω (Ck (tn ?_))
   refine ⟨0,0,_,R1,hdec,ω,.inl ⟨O,O⟩,.inl rfl,O,O,O,O,O,O,O,O,?_⟩
   exact H.cons (r:=eB 0 0 (fun _ => 0)) trivial (tv _ _ _) (fun b hb => by simp [eB] at hb) (fun s _ b hb => by simp [eB] at hb)
  case neg =>
  rw [if_neg hu,eR] at hdec
  refine CT O ω ?_
  by_cases hR_:4≤R1.length
  case neg =>
   rw [dN (iH ω)] at hdec
   refine Cy (bH O (dJ (k:=4) H 0 O ro hS ω ω O O O ?_))
   intro w a H
   refine gr O (av O O (av O O (az O (bI O (Lt (Cs (Cy (db O (Lp (bu aX O O) (Lt ?_))))))))))
   refine Cp O ?_
   refine Cy (db O (bI O (bI O (Lt (Ct (aE (aE ?_)))))))
   have hF:=H.frm
   exact cr O O O (.inr ⟨hdec,⟨_,O⟩,hF⟩)
  case pos =>
  rw [dp (ir hR_)] at hdec
  have hc:val (R1.take (4))<2 ^ (4):=bK R1 (4)
  refine Cy (bH O (dB (k:=4) H 0 O ro hS ω hR_ O O O ?_))
  intro w H
  simp only [List.set] at H
  refine gr O (av O O (av O O (az O (bI O (Lt ?_)))))
  generalize val (R1.take (4))=c at *
  generalize R1.drop (4)=R2 at *
  clear hR_
  refine Cs (Cy (db O (Lp (bj aX O O) (Lt (Cq O (Ck (tn (Cs (Cs ?_)))))))))
  by_cases hbad:c<1∨11<c
  case pos =>
   rw [if_pos hbad,dN (show no R2=none from rfl)] at hdec
   refine aH (fun ρ w' => ρ 69=.bool true∧w=w') ?_ ?_
   case refine_1 =>
    by_cases h1:c<1
    case pos =>
     refine Cr (ai O (Lp (dy O O (decide_eq_true ω)) (dh O (Lk (Lk (ay O O (Lt ?_)))))))
     exact ⟨O,O⟩
    case neg =>
     refine Cr (ai O (Lp (dy O O (decide_eq_false ω)) (dh O (Lg (YI O) (Lg (dy O O (decide_eq_true ω)) (ay O O (Lt ?_)))))))
     exact ⟨O,O⟩
   case refine_2 =>
   rintro ρ w' ⟨h69,rfl⟩
   refine Cp h69 ?_
   refine Cy (mJ H O O ?_)
   intro w a H
   refine bI O (bI O (Lt (Ct (aE (aE ?_)))))
   exact cr O O O (.inr ⟨hdec,⟨_,O⟩,H.frm⟩)
  case neg =>
  rw [if_neg hbad,dp (show ret c R2=some (c,R2) from rfl)] at hdec
  refine Cr (ai O (Lp (dy O O (decide_eq_false ω)) (dh O (Lg (YI O) (Lg (dy O O (decide_eq_false ω)) (ay O O (Lt (Cq O (Ck (tn ?_))))))))))
  have hp:2 ^ c≤2 ^ 11:=Nat.pow_le_pow_right ω ω
  refine Cy (ai O (bw O O (Fd (a:=32) ω) (az O (Lt (Cr (ai O (Lp (ed (r:=((2 ^ c:Nat):Int)) O O ω (by rw [← Nat.one_mul (2 ^ c)];exact x7 (a:=1) ω)) (iJ H gj (2 ^ c) (2 ^ c) O O O O (Nat.le_refl _) ω ω O ?_))))))))
  intro w be hn1 hb1 H
  refine gS O (Lt ?_)
  rw [dz,fK,← jn (show 0<c by omega)] at H
  exact ⟨c,be,_,R2,hdec,ω,.inr ⟨ω,O⟩,.inr hb1,O,O,O,O,O,O,by rw [if_neg ω];rfl,O,H⟩
 case refine_2 =>
 clear H hdec
 rintro ρ w1 ⟨cc,be,cv,R2,hdec,hcc,hCV,hbe,h0,h1,h2,h3,h4,h12,h13,h14,H⟩
 have hG:=CA top OK σ R2 w1 wd ht cc (H.get (i:=1) rfl) (ro.frm H hS) hw hw2 hh hh2 hcc
 have hbew:cc=0∨be<w1.heap.size:=by
  rcases Nat.eq_zero_or_pos cc with h | h
  ·exact .inl h
  ·right
   rw [jn h] at H
   exact (H.blk (i:=0) O).lt
 have hdW1:∀ s ∈ [σ.d,σ.rd],s<w1.heap.size:=fun s hs => (cK σ R2).2 w1 (H.get (i:=1) rfl) s hs
 refine Cy (bH η (ai η (ai η (dh η (ai η (aS O K4 hG O ?_))))))
 intro e w2 hP
 clear hG
 obtain ⟨a1,m1,c1,hv,v3,v4,rfl⟩:∃ a1 m1 c1 hv v3 v4,e=.returned (.tuple #[.slice a1 m1 c1,hv,.int .u32 v3,v4]):=by rcases hP with ⟨_,_,_,_,_,_,_,_,rfl,_⟩ | ⟨_,⟨_,rfl⟩,_⟩ <;> exact ⟨_,_,_,_,_,_,rfl⟩
 refine ⟨_,O,?_⟩
 refine gr O (av O O (av O O (av O O (av O O (gS O (bI O (az O (bI O (Lt ?_)))))))))
 rcases hP with ⟨hb,hpx,ts,R3,bg,cs,hv0,hr,he,hd2,hnew,hbg,hT,hHP,hf⟩ | ⟨hr,⟨a,he⟩,hf⟩
 case inr =>
  simp only [Ending.returned.injEq,Value.tuple.injEq,Array.mk.injEq,List.cons.injEq,Value.slice.injEq,Value.int.injEq,and_true,true_and] at he
  obtain ⟨⟨rfl,rfl,rfl⟩,rfl,rfl,rfl⟩:=he
  rw [dN hr] at hdec
  refine Cs (Cy (db O (Lp (bu aX O O) (Lt ?_))))
  refine Cp O ?_
  refine Cy (db O (bI O (bI O (Lt (Ct (aE ?_))))))
  exact cr O O O (.inr ⟨hdec,⟨_,O⟩,H.frm.then hf (by simp)⟩)
 case inl =>
 simp only [Ending.returned.injEq,Value.tuple.injEq,Array.mk.injEq,List.cons.injEq,Value.slice.injEq,Value.int.injEq,and_true,true_and] at he
 obtain ⟨⟨rfl,rfl,rfl⟩,rfl,rfl,rfl⟩:=he
 rw [dp hr] at hdec
 have hbgS:bg ∉ [σ.d,σ.rd,be]∨cc=0:=by
  rcases hbew with h | h
  ·exact .inr h
  ·left
   have h1:=hdW1 σ.d (by simp)
   have h2:=hdW1 σ.rd (by simp)
   simp only [List.mem_cons,List.not_mem_nil,or_false,not_or]
   omega
 obtain ⟨be',hbe',hbe2⟩:∃ be',(∀ f,eB cc be f=eB cc be' f)∧CV cc be' cv∧be'<w1.heap.size∧nG≤be'∧be'≠σ.sb∧(be' ∈ [σ.d,σ.rd]∨W.heap.size≤be'):=by
  rcases Nat.eq_zero_or_pos cc with h | h
  ·subst h
   refine ⟨σ.d,fun f => by simp [eB],?_,hdW1 σ.d (by simp),ro.ne.2.1,Ne.symm ro.ne.2.2.2.1,.inl (by simp)⟩
   rcases hCV with ⟨_,h⟩ | ⟨h,_⟩
   ·exact .inl ⟨O,h⟩
   ·omega
  ·have h1:=ro.sbl
   have h2:=ro.gl.high
   exact ⟨be,fun f => rfl,hCV,ω,ω,ω,.inr ω⟩
 clear hbgS hbew hCV hbe
 obtain ⟨hCV,hbew,hbeG,hbeS,hbeW⟩:=hbe2
 rw [hbe'] at H
 clear hbe'
 have hS3:zG σ [σ.d,σ.rd,be']:=by
  refine ⟨fun b hb => ?_,?_⟩
  ·simp only [List.mem_cons,List.not_mem_nil,or_false] at hb
   rcases hb with rfl | rfl | rfl
   ·exact ro.ne.2.1
   ·exact ro.ne.2.2.1
   ·exact hbeG
  ·simp only [List.mem_cons,List.not_mem_nil,or_false,not_or]
   exact ⟨ro.ne.2.2.2.1,ro.ne.2.2.2.2,Ne.symm hbeS⟩
 have H1:St W [σ.d,σ.rd] [eB cc be' (fun _ => 0),cD σ R3] w2:=H.turn (i:=1) (r':=cD σ R3) rfl hf hd2 (cK σ R3) (fun b hb => .inl hb)
 have hF1:=H1.frm
 have hsz:=H.high
 have H:=H1.base [σ.d,σ.rd,be'] (by
  intro r hr b hb
  simp only [List.mem_cons,List.not_mem_nil,or_false] at hr
  rcases hr with rfl | rfl
  ·rw [BW cc be' _ b hb];simp
  ·simp only [cD,List.mem_cons,List.not_mem_nil,or_false] at hb
   rcases hb with rfl | rfl <;> simp)
 have ro3:RO σ w2:=ro.keep hF1 hS
 have hlow:∀ s ∈ [σ.d,σ.rd,be'],s<bg+1:=by
  have h1:=hdW1 σ.d (by simp)
  have h2:=hdW1 σ.rd (by simp)
  simp
  omega
 have hbgn:bg ∉ [σ.d,σ.rd,be']:=by
  have h1:=hdW1 σ.d (by simp)
  have h2:=hdW1 σ.rd (by simp)
  simp only [List.mem_cons,List.not_mem_nil,or_false,not_or]
  omega
 have hHT:∀ k,k<5 * (bB hpx+1)→oc [σ.d,σ.rd,be'] w2 bg (129 * k) (ts.getD k (.leaf 0)):=fun k hk => (hT k hk).ht hbg hbgn hlow
 have hsym:∀ k,k<5 * (bB hpx+1)→(ts.getD k (.leaf 0)).symLt (bm cc (k % 5)):=by
  obtain ⟨mq,R4,_,hr2⟩:=d9 hr
  obtain ⟨ts',R5,hr3,hr4⟩:=d9 hr2
  have:=(iY hr4).1
  simp only [Prod.mk.injEq] at this
  obtain ⟨rfl,rfl⟩:=this
  intro k hk
  have:=(rG _ 0 hr3).2 k hk
  rwa [Nat.zero_add] at this
 have hHP2:ES w1.heap.size wd ht w2 hb hpx hv:=hHP
 have hb9:hb=0∨(2≤hb∧hb≤9):=by rcases hHP with ⟨h,_⟩ | ⟨h1,h2,_⟩;exact .inl h;exact .inr ⟨h1,h2⟩
 clear hHP hr hT H1 hd2 hbg
 refine Cs (Cy (db O (Lp (bj aX O O) (Lt (Cq O (Ck (tn (Cy (az O (az O (Lt (Cs (Cy (ai O (Lp (mh O O) (Ln ?_))))))))))))))))
 refine tn ?_
 refine aH (fun ρ w' => ρ 0=.pointer (some ⟨σ.d,0,none⟩)∧ρ 1=.int .i32 (wd:Nat)∧ρ 2=.int .i32 (ht:Nat)∧ρ 3=.int .i32 (mc:Nat)∧ρ 13=.int .u32 (if cc=0 then 0 else 32 - cc:Nat)∧ρ 14=cv∧ρ 17=.slice (aT bg) (bB hpx+1) (bB hpx+1)∧ρ 18=hv∧ρ 19=.int .u32 (hb:Nat) ∧
  ρ 20=.int .i32 (kX hb:Nat)∧ρ 21=.int .i32 (if hb=0 then 0 else aq wd hb:Nat)∧w2.heap=w'.heap∧w2=w') ?_ ?_
 case refine_1 =>
  by_cases hb0:hb=0
  case pos =>
   subst hb0
   refine CF O ω (Ck (tn ?_))
   exact ⟨h0,h1,h2,h3,h13,h14,O,O,O,O,O,O,O⟩
  case neg =>
   have hp:2 ^ hb≤2 ^ 9:=Nat.pow_le_pow_right ω ω
   have hp1:=Nat.two_pow_pos hb
   have hmk:kX hb=2 ^ hb - 1:=if_neg hb0
   refine CT O ω (Cr (ai O (Lp (ed (r:=((2 ^ hb:Nat):Int)) O O ω (by rw [← Nat.one_mul (2 ^ hb)];exact LV (a:=1) ω)) (bw O O (nZ (b:=1) ω) (ai η (ai O (bZ O n0 (ik _ wd hb hw ω ω) O (az O (az O (Lt ?_))))))))))
   exact ⟨h0,h1,h2,h3,h13,h14,O,O,O,by rw [hmk];rfl,by rw [if_neg hb0];rfl,O,O⟩
 case refine_2 =>
 clear h0 h1 h2 h3 h4 h12 h13 h14 ρ
 rintro ρ w' ⟨h0,h1,h2,h3,h13,h14,h17,h18,h19,h20,h21,_,rfl⟩
 refine Cs (Cy (ai η (ai η (Lp (cX O O (CJ (a:=4) ω)) (ai η (Lp (cX (r:=((4 * n:Nat):Int)) O O (by rw [← h4w];exact CJ ω)) (bP O O (Lt ?_))))))))
 refine aH (fun ρ w' => ρ 0=.pointer (some ⟨σ.d,0,none⟩)∧ρ 1=.int .i32 (wd:Nat)∧ρ 2=.int .i32 (ht:Nat)∧ρ 3=.int .i32 (max mc (4 * n):Nat)∧ρ 13=.int .u32 (if cc=0 then 0 else 32 - cc:Nat)∧ρ 14=cv∧ρ 17=.slice (aT bg) (bB hpx+1) (bB hpx+1)∧ρ 18=hv∧ρ 19=.int .u32 (hb:Nat) ∧
  ρ 20=.int .i32 (kX hb:Nat)∧ρ 21=.int .i32 (if hb=0 then 0 else aq wd hb:Nat)∧w2.heap=w'.heap∧w2=w') ?_ ?_
 case refine_1 =>
  by_cases hm:mc<4 * n
  case pos =>
   refine CT O ω (Cr (ai η (Lp (cX O O (CJ (a:=4) ω)) (ai η (Lp (cX (r:=((4 * n:Nat):Int)) O O (by rw [← h4w];exact CJ ω)) (az O (Lt ?_)))))))
   exact ⟨h0,h1,h2,by rw [Nat.max_eq_right ω];rfl,h13,h14,h17,h18,h19,h20,h21,O,O⟩
  case neg =>
   refine CF O ω (Ck (tn ?_))
   exact ⟨h0,h1,h2,by rw [Nat.max_eq_left ω];exact h3,h13,h14,h17,h18,h19,h20,h21,O,O⟩
 case refine_2 =>
 clear h0 h1 h2 h3 h13 h14 h17 h18 h19 h20 h21 ρ
 rintro ρ w' ⟨h0,h1,h2,h3,h13,h14,h17,h18,h19,h20,h21,_,rfl⟩
 obtain ⟨cap,hcap⟩:∃ cap,cap=max mc (4 * n):=⟨_,rfl⟩
 have hcap2:4 * n≤cap∧cap≤1073742848:=ω
 rw [← hcap] at h3
 refine Cy (ai η (Lp (cX O O (CJ (a:=4) ω)) (ai η (Lp (cX (r:=((4 * n:Nat):Int)) O O (by rw [← h4w];exact CJ ω)) (ai η (iJ H xp (4 * n) cap O O O O ω ω ω O ?_))))))
 intro w bp hnp hbp H
 refine gS O (Lt ?_)
 rw [dz,fK] at H
 refine Cy (az O (az O (Lt (Cy (az O (az O (Lt (Cy (bU η (Lp (gm 0 Aq O O O ω) (ai η (Lp (mh O O) (Lp (nd O) (cU O ?_))))))))))))))
 refine Lt ?_
 have hFF:∀ w',cf [σ.d,σ.rd,be'] w2 w'→cf [σ.d,σ.rd] W w':=fun w' h => hF1.then h (fun x hx => by
  simp only [List.mem_cons,List.not_mem_nil,or_false] at hx
  rcases hx with rfl | rfl | rfl
  ·exact .inl (by simp)
  ·exact .inl (by simp)
  ·exact hbeW)
 have hdS:∀ z ∈ [σ.d,σ.rd],z ∈ [σ.d,σ.rd,be']:=by simp
 have hmask:kX hb=0 ↔ hb=0:=by
  unfold kX
  split
  ·simp [*]
  ·rename_i h
   have:2 ^ 2≤2 ^ hb:=Nat.pow_le_pow_right ω ω
   omega
 have hbpW:W.heap.size≤bp:=by have:=H.high;have:=hF1.size;omega
 have hzero:bM .u8 (fun _ => 0) cap=bM .u8 (ap []) cap:=aW fun j _ => ni (by simp)
 rw [hzero] at H
 refine Cs (Cb ?_)
 refine Cl (fun mm ρ w' => ∃ (k:Nat) (acc:List Nat) (P C ux uy cp gi:Nat) (lk:Bool) (Ri:aM),mm=n - acc.length∧n - acc.length≤k∧acc.length≤n∧P=4 * acc.length∧C=4 * cp∧cp≤acc.length∧uy * wd+ux=acc.length∧ux<wd∧gi≤bB hpx ∧
  (hb=0→lk=false)∧(lk=false→acc.length<n→gi=dF hb (aq wd hb) hpx wd acc.length)∧(∀ p ∈ acc,p<2 ^ 32) ∧
  gT top wd ht R=iz wd n cc (rH wd ((hb,hpx),ts)) k acc Ri∧Ib σ wd cc bg (bB hpx+1) hb bp n cap cv hv P C ux uy gi lk ρ ∧
  St w2 [σ.d,σ.rd,be'] [aa bp (bM .u8 (ap acc) cap) 5,eB cc be' (dv cc (acc.take cp)),cD σ Ri] w') n
  ⟨n,[],0,0,0,0,0,0,decide ((kX hb:Int)≠0),R3,rfl,by simp,by simp,rfl,rfl,by simp,by simp,ω,ω,fun h => by
   have:=hmask.2 h
   simp [this],fun h _ => by
   have h0:hb=0:=hmask.1 (by simpa using h)
   unfold dF
   rw [if_pos h0],by simp,hdec,by constructor <;> first | exact rfl | assumption,H⟩ ?_
 clear H hdec h0 h1 h2 h3 h13 h14 h17 h18 h19 h20 h21 hzero
 clear ρ
 rintro mm ρ w3 ⟨k,acc,P,C,ux,uy,cp,gi,lk,Ri,rfl,hk,hal,hP,hC,hcp,hXY,hX,hgi,hlk0,hlk,hp32,hdec,⟨s0,s1,s13,s14,s17,s18,s19,s20,s21,s22,s23,s24,s25,s26,s27,s28⟩,H⟩
 refine Cs (Cy (ai η (bU η (bG am O (bP O O (Lt ?_))))))
 by_cases hlt:acc.length<n
 case neg =>
  obtain hln:acc.length=n:=ω
  have hres:iz wd n cc (rH wd ((hb,hpx),ts)) k acc Ri=some (acc,Ri):=by
   cases k with
   | zero => rfl
   | succ k => rw [iz,if_pos ω];rfl
  rw [hres] at hdec
  refine CF O ω (Cx (ax (ax (br (tn (Cy (bU η (gS O (bI O (Lt (Ct ?_)))))))))))
  exact cr O O O (.inl ⟨acc,Ri,bp,hdec,by rw [← hcap];rfl,hln,hp32,H.get (i:=2) rfl,hbpW,by rw [← hcap];exact H.blk (i:=0) rfl,hFF _ H.frm⟩)
 case pos =>
 obtain ⟨k,rfl⟩:∃ k',k=k'+1:=⟨k - 1,ω⟩
 rw [iz,if_neg ω] at hdec
 have hYh:uy<ht:=by
  refine Nat.lt_of_mul_lt_mul_right (a:=wd) ?_
  rw [Nat.mul_comm ht wd,← hn]
  omega
 refine CT O ω (Ck (tn (Cb (Cs (Cy (dh η (Lt ?_)))))))
 refine aH (fun ρ w' => ∃ gi,gi=dF hb (aq wd hb) hpx wd acc.length∧gi≤bB hpx∧Ib σ wd cc bg (bB hpx+1) hb bp n cap cv hv P C ux uy gi lk ρ∧St w2 [σ.d,σ.rd,be'] [aa bp (bM .u8 (ap acc) cap) 5,eB cc be' (dv cc (acc.take cp)),cD σ Ri] w') ?_ ?_
 case refine_1 =>
  cases lk with
  | false =>
   refine Cq O (Ck (tn ?_))
   exact ⟨gi,hlk O hlt,hgi,by constructor <;> first | exact rfl | assumption,H⟩
  | true =>
   have hb0:hb≠0:=fun h => by have:=hlk0 h;cases this
   rcases hHP2 with ⟨h,_⟩ | ⟨_,_,hpl,bph,capp,hhv,hcp2,hbph,hblkh⟩
   ·exact absurd h hb0
   have s21':=s21
   rw [if_neg hb0] at s21'
   have hti:=mR (b:=hb) hX hYh
   rw [← hpl] at hti
   obtain ⟨hd1,hd2⟩:=uL hXY hX
   have hga:dF hb (aq wd hb) hpx wd acc.length=hpx.getD (aq wd hb * (uy / 2 ^ hb)+ux / 2 ^ hb) 0 / 256 % 65536:=by
    unfold dF
    rw [if_neg hb0,hd1,hd2]
   have hmg:=vj hti
   have hpl2:hpx.length≤268435456:=by
    rw [hpl]
    have h1:=(cu (b:=hb) hw).2
    have h2:=(cu (b:=hb) hh).2
    exact Nat.mul_le_mul (show _≤16384 by omega) (show _≤16384 by omega)
   have hn0:bph ∉ [σ.d,σ.rd,be']:=by
    have h1:=hdW1 σ.d (by simp)
    have h2:=hdW1 σ.rd (by simp)
    simp only [List.mem_cons,List.not_mem_nil,or_false,not_or]
    omega
   have hm16:=lV hpx
   have s18':=s18
   rw [hhv] at s18'
   obtain ⟨tp,htp⟩:∃ tp,tp=aq wd hb:=⟨_,rfl⟩
   obtain ⟨qy,hqy⟩:∃ q,q=uy / 2 ^ hb:=⟨_,rfl⟩
   obtain ⟨qx,hqx⟩:∃ q,q=ux / 2 ^ hb:=⟨_,rfl⟩
   have hqa:qy≤uy:=by rw [hqy];exact Nat.div_le_self _ _
   have hqb:qx≤ux:=by rw [hqx];exact Nat.div_le_self _ _
   rw [← htp,← hqy,← hqx] at hti hga hmg
   rw [← htp] at s21'
   refine Cp O ?_
   refine Cy (ai s21' (ai η (ai η (Lp (d6 (r:=(qy:Int)) O O ω (by rw [hqy];exact jd (k:=.i32) (b:=hb) (by show hb≤32;omega))) (Lp (cX O O (CJ (a:=tp) (b:=qy) ω)) (ai η (ai η (Lp (d6 (r:=(qx:Int)) O O ω (by rw [hqx];exact jd (k:=.i32) (b:=hb) (by show hb≤32;omega))) (ao O O (fX (a:=tp * qy) (b:=qx) ω) (Lp (cX O O (CJ (a:=4) ω)) (az O (Lt ?_))))))))))))
   generalize tp * qy+qx=ix at *
   have hx0:=uB hpx (4 * ix)
   have hx1:=uB hpx (4 * ix+1)
   have hRG:=zi hpx ix
   have hor:=DS (a:=ap hpx (4 * ix)) (b:=ap hpx (4 * ix+1)) (n:=8) hx1
   rw [hRG] at hor
   generalize hpx.getD ix 0 / 256 % 65536=gk at *
   refine Cd aJ κ ?_
   intro w hsame
   replace H:=H.same hsame
   refine cF η (cF s18' (bW O (Sp (bO (4 * ix) am O O O ω) (aD aQ O (H.old (hblkh.cellv (af (j:=4 * ix) ω)) hn0) (Sp (rp gx O (ew ω)) (Sp (ed O O ω (yn (b:=8) ω)) (cF s18' (bW O (aG O O (fX (b:=1) ω) (Sp (bO (4 * ix+1) am O O O ω) (aD aQ O (H.old (hblkh.cellv (af (j:=4 * ix+1) ω)) hn0) (Sp (rp gx O (ew ω)) (Sp (sH (r:=(gk:Int)) O O (by rw [← hor];exact Cm ω)) (Sp (gm gk Aq O O O ω) (Sp (nd O) (Sn (tn ?_)))))))))))))))))
   exact ⟨gk,by rw [← htp];exact hga.symm,ω,by constructor <;> first | exact rfl | assumption,H⟩
 case refine_2 =>
 clear s0 s1 s13 s14 s17 s18 s19 s20 s21 s22 s23 s24 s25 s26 s27 s28 H hgi hlk ρ
 rintro ρ w4 ⟨gi,hgi',hgi2,⟨s0,s1,s13,s14,s17,s18,s19,s20,s21,s22,s23,s24,s25,s26,s27,s28⟩,H⟩
 obtain ⟨U,hU⟩:∃ U,U=rH wd ((hb,hpx),ts) acc.length:=⟨_,rfl⟩
 have hUj:∀ j,U j=ts.getD (5 * gi+j) (.leaf 0):=fun j => by rw [hU,hgi'];rfl
 have hht:∀ j,j<5→oc [σ.d,σ.rd,be'] w2 bg (0+gi * 645+j * 129) (U j):=fun j hj => by
  rw [hUj,show 0+gi * 645+j * 129=129 * (5 * gi+j) by omega]
  exact hHT _ ω
 have hsy:∀ j,j<5→(U j).symLt (bm cc j):=fun j hj => by
  have:=hsym (5 * gi+j) ω
  rw [hUj]
  rwa [show (5 * gi+j) % 5=j by omega] at this
 have ha1:bm cc 1=256:=rfl
 have ha2:bm cc 2=256:=rfl
 have ha3:bm cc 3=256:=rfl
 have ha4:bm cc 4=40:=rfl
 have ha0:bm cc 0=280+(if cc=0 then 0 else 2 ^ cc):=rfl
 rw [← hU,yA,eR] at hdec
 clear hU
 cases hw_:(U 0).walk Ri
 case none =>
  rw [dN hw_] at hdec
  refine Cy (bH η (aK O (Lp (nC 0 mS O O O ω) (bH η (mF H 2 O ro3 hS3 (hht 0 ω) hdS hw_ O O O ?_)))))
  intro w a hF
  refine gr O (av O O (av O O (az O (bI O (Lt (Cs (Cy (db O (Lp (bu aX O O) (Lt ?_))))))))))
  refine Cp O ?_
  refine Cy (db O (bI O (bI O (Lt (Ct (aE (bL (aE (bL (aE ?_))))))))))
  exact cr O O O (.inr ⟨hdec,⟨_,O⟩,hFF _ hF⟩)
 case some q_ =>
 obtain ⟨s,Rj⟩:=q_
 rw [dp hw_] at hdec
 have hs:=gH (hsy 0 ω) hw_
 refine Cy (bH η (aK O (Lp (nC 0 mS O O O ω) (bH η (mH H 2 O ro3 hS3 (hht 0 ω) hdS hw_ O O O ?_)))))
 intro w H
 simp only [List.set] at H
 refine gr O (av O O (av O O (az O (bI O (Lt ?_)))))
 clear hw_
 refine Cs (Cy (db O (Lp (bj aX O O) (Lt (Cq O (Ck (tn (Cb (Cy (ai O (bP O O (cU O (Lt ?_)))))))))))))
 by_cases h256:s<256
 case pos =>
  rw [if_pos h256,eR] at hdec
  refine CT O ω ?_
  cases hw_:(U 1).walk Rj
  case none =>
   rw [dN hw_] at hdec
   refine Cy (bH η (aK O (Lp (nC 1 mS O O O ω) (bH η (mF H 2 O ro3 hS3 (hht 1 ω) hdS hw_ O O O ?_)))))
   intro w a hF
   refine gr O (av O O (av O O (az O (bI O (Lt (Cs (Cy (db O (Lp (bu aX O O) (Lt ?_))))))))))
   refine Cp O ?_
   refine Cy (db O (bI O (bI O (Lt (Ct (aE (bL (bL (aE (bL (aE ?_)))))))))))
   exact cr O O O (.inr ⟨hdec,⟨_,O⟩,hFF _ hF⟩)
  case some q_ =>
  obtain ⟨vr,Rk⟩:=q_
  rw [dp hw_] at hdec
  have hvr:=gH (hsy 1 ω) hw_
  refine Cy (bH η (aK O (Lp (nC 1 mS O O O ω) (bH η (mH H 2 O ro3 hS3 (hht 1 ω) hdS hw_ O O O ?_)))))
  intro w H
  simp only [List.set] at H
  refine gr O (av O O (av O O (az O (bI O (Lt ?_)))))
  clear hw_
  refine Cs (Cy (db O (Lp (bj aX O O) (Lt (Cq O (Ck (tn ?_)))))))
  rw [eR] at hdec
  cases hw_:(U 2).walk Rk
  case none =>
   rw [dN hw_] at hdec
   refine Cy (bH η (aK O (Lp (nC 2 mS O O O ω) (bH η (mF H 2 O ro3 hS3 (hht 2 ω) hdS hw_ O O O ?_)))))
   intro w a hF
   refine gr O (av O O (av O O (az O (bI O (Lt (Cs (Cy (db O (Lp (bu aX O O) (Lt ?_))))))))))
   refine Cp O ?_
   refine Cy (db O (bI O (bI O (Lt (Ct (aE (bL (bL (aE (bL (aE ?_)))))))))))
   exact cr O O O (.inr ⟨hdec,⟨_,O⟩,hFF _ hF⟩)
  case some q_ =>
  obtain ⟨vb,Rl⟩:=q_
  rw [dp hw_] at hdec
  have hvb:=gH (hsy 2 ω) hw_
  refine Cy (bH η (aK O (Lp (nC 2 mS O O O ω) (bH η (mH H 2 O ro3 hS3 (hht 2 ω) hdS hw_ O O O ?_)))))
  intro w H
  simp only [List.set] at H
  refine gr O (av O O (av O O (az O (bI O (Lt ?_)))))
  clear hw_
  refine Cs (Cy (db O (Lp (bj aX O O) (Lt (Cq O (Ck (tn ?_)))))))
  rw [eR] at hdec
  cases hw_:(U 3).walk Rl
  case none =>
   rw [dN hw_] at hdec
   refine Cy (bH η (aK O (Lp (nC 3 mS O O O ω) (bH η (mF H 2 O ro3 hS3 (hht 3 ω) hdS hw_ O O O ?_)))))
   intro w a hF
   refine gr O (av O O (av O O (az O (bI O (Lt (Cs (Cy (db O (Lp (bu aX O O) (Lt ?_))))))))))
   refine Cp O ?_
   refine Cy (db O (bI O (bI O (Lt (Ct (aE (bL (bL (aE (bL (aE ?_)))))))))))
   exact cr O O O (.inr ⟨hdec,⟨_,O⟩,hFF _ hF⟩)
  case some q_ =>
  obtain ⟨va,Rm⟩:=q_
  rw [dp hw_] at hdec
  have hva:=gH (hsy 3 ω) hw_
  refine Cy (bH η (aK O (Lp (nC 3 mS O O O ω) (bH η (mH H 2 O ro3 hS3 (hht 3 ω) hdS hw_ O O O ?_)))))
  intro w H
  simp only [List.set] at H
  refine gr O (av O O (av O O (az O (bI O (Lt ?_)))))
  clear hw_
  refine Cs (Cy (db O (Lp (bj aX O O) (Lt (Cq O (Ck (tn ?_)))))))
  rw [dp (show ret (acc++[fQ va vr s vb]) Rm=some (acc++[fQ va vr s vb],Rm) from rfl)] at hdec
  obtain ⟨hpa,hpr,hpg,hpb,hpx32⟩:=eO (show va<256 by omega) (show vr<256 by omega) h256 (show vb<256 by omega)
  have hbn:=xP acc (fQ va vr s vb)
  rw [hpa,hpr,hpg,hpb,← hP] at hbn
  refine Cy (bU η (ai η (ao O O (ck (b:=0) ω) (ai O (cm gP O (yl ω) (dU am O O O (aP H 0 cZ O O O ω ?_)))))))
  intro w H
  refine Lt (Cy (bU η (ai η (ao O O (ck (b:=1) ω) (ai O (cm gP O (yl ω) (dU am O O O (aP H 0 cZ O O O ω ?_))))))))
  intro w H
  refine Lt (Cy (bU η (ai η (ao O O (ck (b:=2) ω) (ai O (cm gP O (yl ω) (dU am O O O (aP H 0 cZ O O O ω ?_))))))))
  intro w H
  refine Lt (Cy (bU η (ai η (ao O O (ck (b:=3) ω) (ai O (cm gP O (yl ω) (dU am O O O (aP H 0 cZ O O O ω ?_))))))))
  intro w H
  try simp only [List.set,List.eraseIdx] at H
  refine Lt ?_
  rw [aW (g:=ap (acc++[fQ va vr s vb])) (fun j _ => hbn j)] at H
  obtain ⟨C1,hC1⟩:∃ C1,C1=C:=⟨_,rfl⟩
  obtain ⟨cp1,hcp1⟩:∃ cp1,cp1=cp:=⟨_,rfl⟩
  rw [← hC1] at s24
  rw [← hcp1] at H
  refine Cy (ai η (ao O O (ck (b:=4) ω) (az O (Lt (Cy (ai η (ao O O (fX (b:=1) ω) (az O (Lt (Cs (Cy (ai O (ai η (bF O O (Ln ?_)))))))))))))))
  refine tn ?_
  refine aH (fun ρ w' => ∃ ux' uy',uy' * wd+ux'=acc.length+1∧ux'<wd∧(ux'=ux+1∨ux'=0)∧Ib σ wd cc bg (bB hpx+1) hb bp n cap cv hv (P+4) C1 ux' uy' gi lk ρ∧w=w') ?_ ?_
  case refine_1 =>
   by_cases hwr:ux+1=wd
   case pos =>
    refine CT O ω (Cr (ai η (ao O O (fX (b:=1) ω) (az O (az O (Lt ?_))))))
    exact ⟨0,uy+1,by rw [Nat.succ_mul];omega,ω,.inr rfl,by constructor <;> first | exact rfl | assumption,O⟩
   case neg =>
    refine CF O ω (Ck (tn ?_))
    exact ⟨ux+1,uy,ω,ω,.inl rfl,by constructor <;> first | exact rfl | assumption,O⟩
  case refine_2 =>
  clear s0 s1 s13 s14 s17 s18 s19 s20 s21 s22 s23 s24 s25 s26 s27 s28 ρ
  rintro ρ w' ⟨ux',uy',hXY',hX',hX2,⟨s0,s1,s13,s14,s17,s18,s19,s20,s21,s22,s23,s24,s25,s26,s27,s28⟩,rfl⟩
  have hlen1:(acc++[fQ va vr s vb]).length=acc.length+1:=by simp
  have hp32':∀ p ∈ acc++[fQ va vr s vb],p<2 ^ 32:=fun p hp => by
   rw [List.mem_append,List.mem_singleton] at hp
   rcases hp with hp | rfl
   ·exact hp32 p hp
   ·exact hpx32
  have hgn:(hb=0∨ux' % 2 ^ hb≠0)→gi=dF hb (aq wd hb) hpx wd (acc.length+1):=fun h => by
   rw [hgi']
   rcases Nat.eq_zero_or_pos hb with h0 | h0
   ·unfold dF;rw [if_pos h0,if_pos h0]
   ·have hne:ux'≠0:=fun e => by
     rcases h with h | h
     ·omega
     ·rw [e,Nat.zero_mod] at h;exact h rfl
    obtain rfl:ux'=ux+1:=ω
    exact (tX hXY hX' h).symm
  by_cases hb0:hb=0
  case pos =>
   have hm0:=hmask.2 hb0
   rw [hm0] at s20
   refine Cr (ai η (Lp (uC O O (decide_eq_false ω)) (dh O (Lk (Lk (Lk (Lk (ay O O (cU O (Ln (aF (aF (tn ?_)))))))))))))
   rw [← hm0] at s20
   exact ⟨n - (acc++[fQ va vr s vb]).length,ω,k,acc++[fQ va vr s vb],P+4,C1,ux',uy',cp1,gi,false,_,O,ω,ω,ω,ω,ω,ω,hX',hgi2,fun _ => rfl,fun _ _ => by rw [hlen1];exact hgn (.inl hb0),hp32',hdec,by constructor <;> first | exact rfl | assumption,by rw [List.take_append_of_le_length ω];exact H⟩
  case neg =>
  have hm0:kX hb≠0:=fun h => hb0 (hmask.1 h)
  have hmk:kX hb=2 ^ hb - 1:=if_neg hb0
  have hp9:2 ^ hb≤2 ^ 9:=Nat.pow_le_pow_right ω ω
  have hand:ux' &&& kX hb=ux' % 2 ^ hb:=by rw [hmk,Nat.and_two_pow_sub_one_eq_mod]
  refine Cr (ai η (Lp (uC O O (decide_eq_true ω)) (dh O (Lg (YI η) (Lg (YI η) (Lg (gZ (r:=(ux' % 2 ^ hb:Nat)) O O (by rw [← hand];exact La ω)) (Lg (qi O O) (ay O O (cU O (Ln (aF (aF (tn ?_)))))))))))))
  exact ⟨n - (acc++[fQ va vr s vb]).length,ω,k,acc++[fQ va vr s vb],P+4,C1,ux',uy',cp1,gi,decide (((ux' % 2 ^ hb:Nat):Int)=0),_,O,ω,ω,ω,ω,ω,ω,hX',hgi2,fun h => absurd h hb0,fun h _ => by
   rw [hlen1]
   exact hgn (.inr (by intro e;rw [e] at h;simp at h)),hp32',hdec,by constructor <;> first | exact rfl | assumption,by rw [List.take_append_of_le_length ω];exact H⟩
 case neg =>
 rw [if_neg h256] at hdec
 refine CF O ω (Cy (ai O (bP O O (cU O (Lt ?_)))))
 by_cases h280:s<280
 case pos =>
  rw [if_pos h280,eR] at hdec
  refine CT O ω ?_
  cases hl_:lz (s - 256) Rj
  case none =>
   rw [dN hl_] at hdec
   refine Cy (bH η (ai O (bw O O (Fd (b:=256) ω) (D0 H 2 O ro3 hS3 (show s - 256<40 by omega) hl_ O O O ?_))))
   intro w a hF
   refine gr O (av O O (av O O (az O (bI O (Lt (Cs (Cy (db O (Lp (bu aX O O) (Lt ?_))))))))))
   refine Cp O ?_
   refine Cy (db O (bI O (bI O (Lt (Ct (aE (bL (bL (aE (bL (aE ?_)))))))))))
   exact cr O O O (.inr ⟨hdec,⟨_,O⟩,hFF _ hF⟩)
  case some q_ =>
  obtain ⟨ln,Rk⟩:=q_
  rw [dp hl_] at hdec
  have hln:=Jq (show s - 256<40 by omega) hl_
  refine Cy (bH η (ai O (bw O O (Fd (b:=256) ω) (Ew H 2 O ro3 hS3 (show s - 256<40 by omega) hl_ O O O ?_))))
  intro w H
  simp only [List.set] at H
  refine gr O (av O O (av O O (az O (bI O (Lt ?_)))))
  clear hl_
  refine Cs (Cy (db O (Lp (bj aX O O) (Lt (Cq O (Ck (tn ?_)))))))
  rw [eR] at hdec
  cases hw_:(U 4).walk Rk
  case none =>
   rw [dN hw_] at hdec
   refine Cy (bH η (aK O (Lp (nC 4 mS O O O ω) (bH η (mF H 2 O ro3 hS3 (hht 4 ω) hdS hw_ O O O ?_)))))
   intro w a hF
   refine gr O (av O O (av O O (az O (bI O (Lt (Cs (Cy (db O (Lp (bu aX O O) (Lt ?_))))))))))
   refine Cp O ?_
   refine Cy (db O (bI O (bI O (Lt (Ct (aE (bL (bL (aE (bL (aE ?_)))))))))))
   exact cr O O O (.inr ⟨hdec,⟨_,O⟩,hFF _ hF⟩)
  case some q_ =>
  obtain ⟨ds,Rl⟩:=q_
  rw [dp hw_] at hdec
  have hds:=gH (hsy 4 ω) hw_
  refine Cy (bH η (aK O (Lp (nC 4 mS O O O ω) (bH η (mH H 2 O ro3 hS3 (hht 4 ω) hdS hw_ O O O ?_)))))
  intro w H
  simp only [List.set] at H
  refine gr O (av O O (av O O (az O (bI O (Lt ?_)))))
  clear hw_
  refine Cs (Cy (db O (Lp (bj aX O O) (Lt (Cq O (Ck (tn ?_)))))))
  rw [eR] at hdec
  cases hl_:lz (ds) Rl
  case none =>
   rw [dN hl_] at hdec
   refine Cy (bH η (ai O (D0 H 2 O ro3 hS3 (show ds<40 by omega) hl_ O O O ?_)))
   intro w a hF
   refine gr O (av O O (av O O (az O (bI O (Lt (Cs (Cy (db O (Lp (bu aX O O) (Lt ?_))))))))))
   refine Cp O ?_
   refine Cy (db O (bI O (bI O (Lt (Ct (aE (bL (bL (aE (bL (aE ?_)))))))))))
   exact cr O O O (.inr ⟨hdec,⟨_,O⟩,hFF _ hF⟩)
  case some q_ =>
  obtain ⟨dc,Rm⟩:=q_
  rw [dp hl_] at hdec
  have hdc:=Jq (show ds<40 by omega) hl_
  refine Cy (bH η (ai O (Ew H 2 O ro3 hS3 (show ds<40 by omega) hl_ O O O ?_)))
  intro w H
  simp only [List.set] at H
  refine gr O (av O O (av O O (az O (bI O (Lt ?_)))))
  clear hl_
  refine Cs (Cy (db O (Lp (bj aX O O) (Lt (Cq O (Ck (tn ?_)))))))
  have hdp:=Bz wd dc
  have hdl:=y4 (w:=wd) (c:=dc) ω ω
  refine Cy (ai η (ai O (bZ O JH (F7 _ (ro3.frm H hS3).gl wd dc ω ω) O (az O (Lt ?_)))))
  generalize eX wd dc=d at *
  refine Cy (ai η (ai O (cm jT O (fg ω) (Lp (cX O O (pK (a:=4) ω)) (ao O O (ck ω) (az O (Lt ?_)))))))
  by_cases hA:n<acc.length+ln
  case pos =>
   rw [if_pos (.inr hA),dN (show no Rm=none from rfl)] at hdec
   refine Cy (ai η (ai O (cm kJ O (fg ω) (Lp (cX O O (pK (a:=4) ω)) (bw O O (fg ω) (az O (Lt (Cy (ai O (ai O (cm kJ O (fg ω) (Lp (cX O O (pK (a:=4) ω)) (bw O O (fg ω) (az O (Lt ?_)))))))))))))))
   refine Cs (Cy (ai η (Lp (dy O O (decide_eq_false ω)) (dh O (Lg (YS η) (Lg (dx am O) (Lg (YI O) (Lg (dy O O (decide_eq_true ω)) (ay O O (dh O (Lk (Lk (ay O O (dh O (Lk (Lk (Lk (Lk (ay O O ?_)))))))))))))))))))
   refine Lt ?_
   refine Cp O ?_
   refine Cy (mJ H O O ?_)
   intro w a H
   refine bI O (bI O (Lt (Ct (aE (bL (bL (aE (bL (aE ?_)))))))))
   exact cr O O O (.inr ⟨hdec,⟨_,O⟩,hFF _ H.frm⟩)
  case neg =>
  by_cases hB:acc.length<d
  case pos =>
   rw [if_pos (.inl hB),dN (show no Rm=none from rfl)] at hdec
   refine Cy (ai η (ai O (cm kJ O (fg ω) (Lp (cX O O (pK (a:=4) ω)) (bw O O (fg ω) (az O (Lt (Cy (ai O (ai O (cm kJ O (fg ω) (Lp (cX O O (pK (a:=4) ω)) (bw O O (fg ω) (az O (Lt ?_)))))))))))))))
   refine Cs (Cy (ai η (Lp (dy O O (decide_eq_false ω)) (dh O (Lg (YS η) (Lg (dx am O) (Lg (YI O) (Lg (dy O O (decide_eq_false ω)) (ay O O (dh O (Lg (YI O) (Lg (dy O O (decide_eq_true ω)) (ay O O (dh O (Lk (Lk (Lk (Lk (ay O O ?_)))))))))))))))))))
   refine Lt ?_
   refine Cp O ?_
   refine Cy (mJ H O O ?_)
   intro w a H
   refine bI O (bI O (Lt (Ct (aE (bL (bL (aE (bL (aE ?_)))))))))
   exact cr O O O (.inr ⟨hdec,⟨_,O⟩,hFF _ H.frm⟩)
  case neg =>
  rw [if_neg ω,dp (show ret (fN d ln acc) Rm=some (fN d ln acc,Rm) from rfl)] at hdec
  refine Cy (ai η (ai O (cm kJ O (fg ω) (Lp (cX O O (pK (a:=4) ω)) (bw O O (iw ω) (az O (Lt (Cy (ai O (ai O (cm kJ O (fg ω) (Lp (cX O O (pK (a:=4) ω)) (bw O O (iw ω) (az O (Lt ?_)))))))))))))))
  refine Cs (Cy (ai η (Lp (dy O O (decide_eq_false ω)) (dh O (Lg (YS η) (Lg (dx am O) (Lg (YI O) (Lg (dy O O (decide_eq_false ω)) (ay O O (dh O (Lg (YI O) (Lg (dy O O (decide_eq_false ω)) (ay O O (dh O (Lg (YS η) (Lg (dx am O) (Lg (YI O) (Lg (dy O O (decide_eq_false ω)) (ay O O ?_)))))))))))))))))))
  refine Lt (Cq O (Ck (tn ?_)))
  obtain ⟨fl,hfl⟩:∃ fl,fl=fN d ln acc:=⟨_,rfl⟩
  have hfll:fl.length=acc.length+ln:=by rw [hfl,lI]
  have hflb:∀ k,k<4 * ln→ap fl (P+k)=ap fl (P+k - 4 * d):=fun k hk => by rw [hP,hfl];exact EH hdp ω hk
  have hfla:∀ j,j<P→ap fl j=ap acc j:=fun j hj => by rw [hfl];exact Ao hdp ω ω
  have hfl32:∀ p ∈ fl,p<2 ^ 32:=by rw [hfl];exact uw hdp ln acc ω hp32
  have hflt:fl.take cp=acc.take cp:=by
   obtain ⟨r,hr⟩:=rB d ln acc
   rw [hfl,hr,List.take_append_of_le_length ω]
  rw [← hfl] at hdec
  clear hfl
  refine Cs ?_
  refine aH (fun ρ w' => Ib σ wd cc bg (bB hpx+1) hb bp n cap cv hv (P+4 * ln) C ux uy gi lk ρ∧ρ 36=.int .u32 (ln:Nat)∧St w2 [σ.d,σ.rd,be'] [aa bp (bM .u8 (ap fl) cap) 5,eB cc be' (dv cc (acc.take cp)),cD σ Rm] w') ?_ ?_
  case refine_1 =>
   refine Cb ?_
   refine Cl (fun mm ρ w' => ∃ kk,mm=4 * ln - kk∧kk≤4 * ln∧Ib σ wd cc bg (bB hpx+1) hb bp n cap cv hv (P+kk) C ux uy gi lk ρ∧ρ 36=.int .u32 (ln:Nat)∧ρ 41=iT (P+4 * ln)∧ρ 42=iT (P+kk - 4 * d) ∧
    St w2 [σ.d,σ.rd,be'] [aa bp (bM .u8 (fun j => if j<P+kk then ap fl j else ap acc j) cap) 5,eB cc be' (dv cc (acc.take cp)),cD σ Rm] w') (4 * ln)
    ⟨0,rfl,ω,by constructor <;> first | exact rfl | assumption,rfl,rfl,rfl,by
     rw [aW (f:=fun j => if j<P+0 then ap fl j else ap acc j) (g:=ap acc) (fun j _ => by
      by_cases h:j<P+0
      ·rw [if_pos h,hfla j ω]
      ·rw [if_neg h])]
     exact H⟩ ?_
   clear s0 s1 s13 s14 s17 s18 s19 s20 s21 s22 s23 s24 s25 s26 s27 s28 H
   clear ρ
   rintro mm ρ w5 ⟨kk,rfl,hkk,⟨s0,s1,s13,s14,s17,s18,s19,s20,s21,s22,s23,s24,s25,s26,s27,s28⟩,h36,h41,h42,H⟩
   refine Cs (Cy (ai η (ai η (bP O O (Lt ?_)))))
   by_cases hkl:kk<4 * ln
   case pos =>
    have hbk:=hflb kk hkl
    refine CT O ω (Ck (tn (Cs (Cb (Cr (bU η (ai η (bU η (ai η (dU am O O O (aC (v:=.int .u8 (ap fl (P+kk - 4 * d):Nat)) aQ O (H.cell 0 O (by rw [af ω,if_pos ω])) (dU am O O O (aP H 0 cZ O O O ω ?_)))))))))))))
    intro w H
    try simp only [List.set,List.eraseIdx] at H
    refine Ln (aF (tn (Cr (ai η (ao O O (ck (b:=1) ω) (ai η (ao (r:=((P+(kk+1) - 4 * d:Nat):Int)) O O (by rw [fg ω];omega) (az O (az O (Lt ?_))))))))))
    exact ⟨4 * ln - (kk+1),ω,kk+1,O,ω,by constructor <;> first | exact rfl | assumption,h36,h41,O,by
     rw [aW (f:=fun j => if j<P+(kk+1) then ap fl j else ap acc j) (g:=fun j => if j=P+kk then ap fl (P+kk - 4 * d) else if j<P+kk then ap fl j else ap acc j) (fun j _ => by
      by_cases h1:j=P+kk
      ·rw [if_pos h1,if_pos ω,h1,hbk]
      ·rw [if_neg h1]
       by_cases h2:j<P+kk
       ·rw [if_pos h2,if_pos ω]
       ·rw [if_neg h2,if_neg ω])]
     exact H⟩
   case neg =>
    obtain rfl:kk=4 * ln:=ω
    refine CF O ω (Cx (ax (ax (br (tn ?_)))))
    rw [aW (g:=ap fl) (fun j _ => by
     by_cases h:j<P+4 * ln
     ·rw [if_pos h]
     ·rw [if_neg h,ni (l:=acc) ω,ni ω])] at H
    exact ⟨by constructor <;> first | exact rfl | assumption,h36,H⟩
  case refine_2 =>
  clear s0 s1 s13 s14 s17 s18 s19 s20 s21 s22 s23 s24 s25 s26 s27 s28 H
  clear ρ
  rintro ρ w5 ⟨⟨s0,s1,s13,s14,s17,s18,s19,s20,s21,s22,s23,s24,s25,s26,s27,s28⟩,h36,H⟩
  refine Cy (ai η (ai η (cm lr O (jm ω) (ao O O (fX ω) (az O (Lt (Cs ?_)))))))
  have hu1:uy≤uy * wd:=Nat.le_mul_of_pos_right _ hw
  refine aH (fun ρ w' => ∃ ux' uy',uy' * wd+ux'=acc.length+ln∧ux'<wd∧Ib σ wd cc bg (bB hpx+1) hb bp n cap cv hv (P+4 * ln) C ux' uy' gi lk ρ∧w5=w') ?_ ?_
  case refine_1 =>
   refine Cb ?_
   refine Cl (fun mm ρ w' => ∃ ux' uy',ux'=mm∧uy' * wd+ux'=acc.length+ln∧ux'≤20480∧Ib σ wd cc bg (bB hpx+1) hb bp n cap cv hv (P+4 * ln) C ux' uy' gi lk ρ∧w5=w') (ux+ln)
    ⟨ux+ln,uy,rfl,ω,ω,by constructor <;> first | exact rfl | assumption,rfl⟩ ?_
   clear h36 s0 s1 s13 s14 s17 s18 s19 s20 s21 s22 s23 s24 s25 s26 s27 s28
   clear ρ
   rintro mm ρ w' ⟨ux',uy',rfl,hXY',hX',⟨s0,s1,s13,s14,s17,s18,s19,s20,s21,s22,s23,s24,s25,s26,s27,s28⟩,rfl⟩
   have hu2:uy'≤uy' * wd:=Nat.le_mul_of_pos_right _ hw
   refine Cs (Cy (ai η (ai η (Lp (ou O O) (Lt ?_)))))
   by_cases hge:wd≤ux'
   case pos =>
    refine CT O ω (Ck (tn (Cb (Cr (ai η (ai η (bw O O (nZ ω) (ai η (ao O O (fX (b:=1) ω) (az O (az O (Ln (aF (tn ?_))))))))))))))
    exact ⟨ux' - wd,ω,ux' - wd,uy'+1,O,by rw [Nat.succ_mul];omega,ω,by constructor <;> first | exact rfl | assumption,O⟩
   case neg =>
    refine CF O ω (Cx (ax (ax (br (tn ?_)))))
    exact ⟨ux',uy',hXY',ω,by constructor <;> first | exact rfl | assumption,O⟩
  case refine_2 =>
  clear h36 s0 s1 s13 s14 s17 s18 s19 s20 s21 s22 s23 s24 s25 s26 s27 s28
  clear ρ
  rintro ρ w' ⟨ux',uy',hXY',hX',⟨s0,s1,s13,s14,s17,s18,s19,s20,s21,s22,s23,s24,s25,s26,s27,s28⟩,rfl⟩
  refine Cr (ai η (Lp (mh O O) (cU O (Ln (aF (aF (tn ?_)))))))
  exact ⟨n - fl.length,ω,k,fl,P+4 * ln,C,ux',uy',cp,gi,decide ((kX hb:Int)≠0),Rm,O,ω,ω,ω,hC,ω,ω,hX',hgi2,fun h => by
   have:=hmask.2 h
   simp [this],fun h _ => by
   have h0:hb=0:=hmask.1 (by simpa using h)
   rw [hgi']
   unfold dF
   rw [if_pos h0,if_pos h0],hfl32,hdec,by constructor <;> first | exact rfl | assumption,by rw [hflt];exact H⟩
 case neg =>
 rw [if_neg h280] at hdec
 have hcc0:0<cc:=by
  refine Nat.pos_of_ne_zero fun h => ?_
  rw [ha0,if_pos h] at hs
  omega
 have hs2:s - 280<2 ^ cc:=by
  rw [ha0,if_neg ω] at hs
  omega
 have hp11:2 ^ cc≤2 ^ 11:=Nat.pow_le_pow_right ω hcc
 rw [if_neg ω,dp (show ret (acc++[dv cc acc (s - 280)]) Rj=some (acc++[dv cc acc (s - 280)],Rj) from rfl)] at hdec
 have hcv:cv=.slice (aT be') (2 ^ cc) (2 ^ cc):=by
  rcases hCV with ⟨h,_⟩ | ⟨_,h⟩
  ·omega
  ·exact h
 rw [jn hcc0] at H
 refine CF O ω (Cs ?_)
 refine aH (fun ρ w' => Ib σ wd cc bg (bB hpx+1) hb bp n cap cv hv P P ux uy gi lk ρ∧ρ 30=.int .u32 (s:Nat)∧St w2 [σ.d,σ.rd,be'] [aa bp (bM .u8 (ap acc) cap) 5,aa be' (bM .u32 (dv cc acc) (2 ^ cc)) 36,cD σ Rj] w') ?_ ?_
 case refine_1 =>
  refine Cb ?_
  refine Cl (fun mm ρ w' => ∃ cq Cq,mm=acc.length - cq∧cq≤acc.length∧Cq=4 * cq∧Ib σ wd cc bg (bB hpx+1) hb bp n cap cv hv P Cq ux uy gi lk ρ∧ρ 30=.int .u32 (s:Nat) ∧
   St w2 [σ.d,σ.rd,be'] [aa bp (bM .u8 (ap acc) cap) 5,aa be' (bM .u32 (dv cc (acc.take cq)) (2 ^ cc)) 36,cD σ Rj] w') (acc.length - cp)
   ⟨cp,C,rfl,hcp,hC,by constructor <;> first | exact rfl | assumption,rfl,H⟩ ?_
  clear s0 s1 s13 s14 s17 s18 s19 s20 s21 s22 s23 s24 s25 s26 s27 s28 H hC hcp
  clear ρ
  rintro mm ρ w5 ⟨cq,Cq,rfl,hcq,hCq,⟨s0,s1,s13,s14,s17,s18,s19,s20,s21,s22,s23,s24,s25,s26,s27,s28⟩,h30,H⟩
  refine Cs (Cy (ai η (ai η (bP O O (Lt ?_)))))
  by_cases hcl:cq<acc.length
  case neg =>
   obtain hcl2:cq=acc.length:=ω
   rw [hcl2,List.take_length] at H
   obtain rfl:Cq=P:=ω
   refine CF O ω (Cx (ax (ax (br (tn ?_)))))
   exact ⟨by constructor <;> first | exact rfl | assumption,h30,H⟩
  case pos =>
  obtain ⟨p,hp⟩:∃ p,p=acc.getD cq 0:=⟨_,rfl⟩
  have hpl:p<2 ^ 32:=by
   have:acc.getD cq 0=acc[cq]:=by simp [hcl]
   rw [hp,this]
   exact hp32 _ (List.getElem_mem hcl)
  have hb0:ap acc (Cq+0)=pR p:=by unfold ap;rw [hCq,show (4 * cq+0) / 4=cq by omega,show (4 * cq+0) % 4=0 by omega,← hp];rfl
  have hb1:ap acc (Cq+1)=pG p:=by unfold ap;rw [hCq,show (4 * cq+1) / 4=cq by omega,show (4 * cq+1) % 4=1 by omega,← hp];rfl
  have hb2:ap acc (Cq+2)=pB p:=by unfold ap;rw [hCq,show (4 * cq+2) / 4=cq by omega,show (4 * cq+2) % 4=2 by omega,← hp];rfl
  have hb3:ap acc (Cq+3)=pA p:=by unfold ap;rw [hCq,show (4 * cq+3) / 4=cq by omega,show (4 * cq+3) % 4=3 by omega,← hp];rfl
  have hor:=Iq hpl
  have hA8:pA p<256:=Nat.mod_lt _ ω
  have hR8:pR p<256:=Nat.mod_lt _ ω
  have hG8:pG p<256:=Nat.mod_lt _ ω
  have hB8:pB p<256:=Nat.mod_lt _ ω
  obtain ⟨o1,ho1⟩:∃ o,o=pR p * 2 ^ 16 ||| pG p * 2 ^ 8:=⟨_,rfl⟩
  obtain ⟨o2,ho2⟩:∃ o,o=o1 ||| pB p * 2 ^ 0:=⟨_,rfl⟩
  have ho1l:o1<2 ^ 32:=by rw [ho1];exact Nat.or_lt_two_pow ω ω
  have ho2l:o2<2 ^ 32:=by rw [ho2];exact Nat.or_lt_two_pow ω ω
  rw [← ho1,← ho2] at hor
  have hta:=fun i => vv (cc:=cc) hcl i
  rw [← hp] at hta
  have hhl:=mM (cc:=cc) (p:=p) hcc0 hcc
  have hhd:dZ cc p=p * 506832829 % 4294967296 / 2 ^ (32 - cc):=rfl
  have s13':=s13
  rw [if_neg ω] at s13'
  have s14':=s14
  rw [hcv] at s14'
  clear hp
  generalize pR p=cR at *
  generalize pG p=cG at *
  generalize pB p=cB at *
  generalize pA p=cA at *
  refine CT O ω (Ck (tn (Cs (Cb (Cs (Cd aJ κ ?_))))))
  intro w hsame
  replace H:=H.same hsame
  refine cF η (bW η (aG O O (ck (b:=0) ω) (aR am O O O (aD (v:=.int .u8 (cR:Nat)) aQ O (H.cell 0 O ((af ω).trans (by rw [hb0]))) (Sp (rp gx O (ew ω)) (Sp (ed O O ω (yn (b:=16) ω)) (cF η (bW η (aG O O (ck (b:=1) ω) (aR am O O O (aD (v:=.int .u8 (cG:Nat)) aQ O (H.cell 0 O ((af ω).trans (by rw [hb1]))) (Sp (rp gx O (ew ω)) (Sp (ed O O ω (yn (b:=8) ω)) (Sp (sH (r:=(o1:Int)) O O (by rw [ho1];exact Cm ω)) (cF η (bW η (aG O O (ck (b:=2) ω) (aR am O O O (aD (v:=.int .u8 (cB:Nat)) aQ O (H.cell 0 O ((af ω).trans (by rw [hb2]))) ?_)))))))))))))))))))
  refine Sp (rp gx O (ew ω)) (Sp (ed O O ω (yn (b:=0) ω)) (Sp (sH (r:=(o2:Int)) O O (by rw [ho2];exact Cm ω)) (cF η (bW η (aG O O (ck (b:=3) ω) (aR am O O O (aD (v:=.int .u8 (cA:Nat)) aQ O (H.cell 0 O ((af ω).trans (by rw [hb3]))) (Sp (rp gx O (ew ω)) (Sp (ed O O ω (yn (b:=24) ω)) (Sp (sH (r:=(p:Int)) O O (by rw [← hor];exact Cm ω)) (oZ O (Sn (tn (Cr (bU s14' (ai O (Lp (cX (r:=((p * 506832829 % 4294967296:Nat):Int)) O O (by rw [vd];omega)) (ai s13' (Lp (d6 (r:=(dZ cc p:Nat)) O O ω (by rw [hhd];exact jd (k:=.u32) (b:=32 - cc) (by show 32 - cc≤32;omega))) ?_)))))))))))))))))))
  refine ai O (Lp (bO (dZ cc p) aZ O O O hhl) (aP H 1 dY O O O hhl ?_))
  intro w H
  simp only [List.set] at H
  refine Ln (aF (tn ?_))
  rw [aW (f:=fun j => if j=dZ cc p then p else dv cc (acc.take cq) j) (g:=dv cc (acc.take (cq+1))) (fun j _ => hta j)] at H
  refine Cr (ai η (ao O O (ck (b:=4) ω) (az O (Lt ?_))))
  exact ⟨acc.length - (cq+1),ω,cq+1,Cq+4,O,ω,ω,by constructor <;> first | exact rfl | assumption,h30,H⟩
 case refine_2 =>
 clear s0 s1 s13 s14 s17 s18 s19 s20 s21 s22 s23 s24 s25 s26 s27 s28 H
 clear ρ
 rintro ρ w5 ⟨⟨s0,s1,s13,s14,s17,s18,s19,s20,s21,s22,s23,s24,s25,s26,s27,s28⟩,h30,H⟩
 have s14':=s14
 rw [hcv] at s14'
 have hpx32:=uv (cc:=cc) acc hp32 (s - 280)
 have hbn:=xP acc (dv cc acc (s - 280))
 rw [← hP] at hbn
 refine Cy (ai η (bw O O (Fd (b:=280) ω) (az O (Lt (Cs (Cy (ai O (cm jT O (fg ω) (bU s14' (bG aZ O (Lp (ou O O) (Lt (CF O ω (Ck (tn (Cs ?_))))))))))))))))
 refine Cr (bU s14' (ai O (dU aZ O O O (aC bD O (H.cell 1 O (af (j:=s - 280) hs2)) (az O (Lt ?_))))))
 generalize dv cc acc (s - 280)=px0 at *
 refine Cy (bU η (ai η (ao O O (ck (b:=0) ω) (ai O (Lp (d6 O O ω (jd (k:=.u32) (b:=16) (by show _≤(32:Nat);omega))) (cm (r:=(pR px0:Nat)) gP O Jx (dU am O O O (aP H 0 cZ O O O ω ?_))))))))
 intro w H
 refine Lt (Cy (bU η (ai η (ao O O (ck (b:=1) ω) (ai O (Lp (d6 O O ω (jd (k:=.u32) (b:=8) (by show _≤(32:Nat);omega))) (cm (r:=(pG px0:Nat)) gP O Jx (dU am O O O (aP H 0 cZ O O O ω ?_)))))))))
 intro w H
 refine Lt (Cy (bU η (ai η (ao O O (ck (b:=2) ω) (ai O (Lp (d6 O O ω (jd (k:=.u32) (b:=0) (by show _≤(32:Nat);omega))) (cm (r:=(pB px0:Nat)) gP O (by rw [Jx,Nat.pow_zero,Nat.div_one];rfl) (dU am O O O (aP H 0 cZ O O O ω ?_)))))))))
 intro w H
 refine Lt (Cy (bU η (ai η (ao O O (ck (b:=3) ω) (ai O (Lp (d6 O O ω (jd (k:=.u32) (b:=24) (by show _≤(32:Nat);omega))) (cm (r:=(pA px0:Nat)) gP O Jx (dU am O O O (aP H 0 cZ O O O ω ?_)))))))))
 intro w H
 try simp only [List.set,List.eraseIdx] at H
 refine Lt ?_
 rw [aW (g:=ap (acc++[px0])) (fun j _ => hbn j),← jn hcc0] at H
 obtain ⟨C1,hC1⟩:∃ C1,C1=P:=⟨_,rfl⟩
 obtain ⟨cp1,hcp1⟩:∃ cp1,cp1=acc.length:=⟨_,rfl⟩
 rw [← hC1] at s24
 rw [show dv cc acc=dv cc (acc.take cp1) by rw [hcp1,List.take_length]] at H
 refine Cy (ai η (ao O O (ck (b:=4) ω) (az O (Lt (Cy (ai η (ao O O (fX (b:=1) ω) (az O (Lt (Cs (Cy (ai O (ai η (bF O O (Ln ?_)))))))))))))))
 refine tn ?_
 refine aH (fun ρ w' => ∃ ux' uy',uy' * wd+ux'=acc.length+1∧ux'<wd∧(ux'=ux+1∨ux'=0)∧Ib σ wd cc bg (bB hpx+1) hb bp n cap cv hv (P+4) C1 ux' uy' gi lk ρ∧w=w') ?_ ?_
 case refine_1 =>
  by_cases hwr:ux+1=wd
  case pos =>
   refine CT O ω (Cr (ai η (ao O O (fX (b:=1) ω) (az O (az O (Lt ?_))))))
   exact ⟨0,uy+1,by rw [Nat.succ_mul];omega,ω,.inr rfl,by constructor <;> first | exact rfl | assumption,O⟩
  case neg =>
   refine CF O ω (Ck (tn ?_))
   exact ⟨ux+1,uy,ω,ω,.inl rfl,by constructor <;> first | exact rfl | assumption,O⟩
 case refine_2 =>
 clear h30 s14' s0 s1 s13 s14 s17 s18 s19 s20 s21 s22 s23 s24 s25 s26 s27 s28 ρ
 rintro ρ w' ⟨ux',uy',hXY',hX',hX2,⟨s0,s1,s13,s14,s17,s18,s19,s20,s21,s22,s23,s24,s25,s26,s27,s28⟩,rfl⟩
 have hlen1:(acc++[px0]).length=acc.length+1:=by simp
 have hp32':∀ p ∈ acc++[px0],p<2 ^ 32:=fun p hp => by
  rw [List.mem_append,List.mem_singleton] at hp
  rcases hp with hp | rfl
  ·exact hp32 p hp
  ·exact hpx32
 have hgn:(hb=0∨ux' % 2 ^ hb≠0)→gi=dF hb (aq wd hb) hpx wd (acc.length+1):=fun h => by
  rw [hgi']
  rcases Nat.eq_zero_or_pos hb with h0 | h0
  ·unfold dF;rw [if_pos h0,if_pos h0]
  ·have hne:ux'≠0:=fun e => by
    rcases h with h | h
    ·omega
    ·rw [e,Nat.zero_mod] at h;exact h rfl
   obtain rfl:ux'=ux+1:=ω
   exact (tX hXY hX' h).symm
 by_cases hb0:hb=0
 case pos =>
  have hm0:=hmask.2 hb0
  rw [hm0] at s20
  refine Cr (ai η (Lp (uC O O (decide_eq_false ω)) (dh O (Lk (Lk (Lk (Lk (ay O O (cU O (Ln (aF (aF (tn ?_)))))))))))))
  rw [← hm0] at s20
  exact ⟨n - (acc++[px0]).length,ω,k,acc++[px0],P+4,C1,ux',uy',cp1,gi,false,_,O,ω,ω,ω,ω,ω,ω,hX',hgi2,fun _ => rfl,fun _ _ => by rw [hlen1];exact hgn (.inl hb0),hp32',hdec,by constructor <;> first | exact rfl | assumption,by rw [List.take_append_of_le_length ω];exact H⟩
 case neg =>
 have hm0:kX hb≠0:=fun h => hb0 (hmask.1 h)
 have hmk:kX hb=2 ^ hb - 1:=if_neg hb0
 have hp9:2 ^ hb≤2 ^ 9:=Nat.pow_le_pow_right ω ω
 have hand:ux' &&& kX hb=ux' % 2 ^ hb:=by rw [hmk,Nat.and_two_pow_sub_one_eq_mod]
 refine Cr (ai η (Lp (uC O O (decide_eq_true ω)) (dh O (Lg (YI η) (Lg (YI η) (Lg (gZ (r:=(ux' % 2 ^ hb:Nat)) O O (by rw [← hand];exact La ω)) (Lg (qi O O) (ay O O (cU O (Ln (aF (aF (tn ?_)))))))))))))
 exact ⟨n - (acc++[px0]).length,ω,k,acc++[px0],P+4,C1,ux',uy',cp1,gi,decide (((ux' % 2 ^ hb:Nat):Int)=0),_,O,ω,ω,ω,ω,ω,ω,hX',hgi2,fun h => absurd h hb0,fun h _ => by
  rw [hlen1]
  exact hgn (.inr (by intro e;rw [e] at h;simp at h)),hp32',hdec,by constructor <;> first | exact rfl | assumption,by rw [List.take_append_of_le_length ω];exact H⟩
theorem St.toDec {w0 w:World} {S:List Nat} {σ:pL} {R:aM} {i nb:Nat} {pr:Int} (H:St w0 S (Jm σ R i nb pr) w) (hn:nb≤14) (hr:xv σ.s R i nb):St w0 S [cD σ R] w:=by
 refine ⟨H.frm,?_,?_,?_,List.pairwise_singleton _ _⟩
 ·intro r hr'
  rw [List.mem_singleton] at hr'
  subst hr'
  exact o9 H hn hr
 ·intro r hr'
  rw [List.mem_singleton] at hr'
  subst hr'
  exact cK _ _
 ·intro r hr' b hb
  rw [List.mem_singleton] at hr'
  subst hr'
  simp only [cD,List.mem_cons,List.not_mem_nil,or_false] at hb
  rcases hb with rfl | rfl
  ·exact H.own _ (List.mem_of_getElem? (i:=0) O) _ (by simp [aa])
  ·exact H.own _ (List.mem_of_getElem? (i:=1) O) _ (by simp [aa])
structure LD (rd sb so cap:Nat) (s:List Nat) (w:World):Prop where
 gl:Gl w
 blk:ff w rd [.slice (some ⟨sb,so,none⟩) s.length cap,.int .i64 0,.int .i64 (-1)] 124
 bytes:∀ j (h:j<s.length),w.cell? ⟨sb,so+j,none⟩=some (.int .u8 (s[j]:Nat))
 small:∀ c ∈ s,c<256
 len:s.length≤4611686018427387904
 sbl:sb<w.heap.size
 ne:nG≤rd∧sb≠rd
theorem LD.ro {rd sb so cap d:Nat} {s:List Nat} {w:World} (h:LD rd sb so cap s w) (hd:w.heap.size≤d):RO ⟨d,rd,sb,so,cap,s⟩ w :=
 ⟨h.gl,h.bytes,h.small,h.len,h.sbl,by have:=h.blk.lt;show d≠rd;omega,Nat.le_trans h.gl.high hd,h.ne.1,by have:=h.sbl;show sb≠d;omega,h.ne.2⟩
theorem Bb {R R':aM} {q:Nat × Nat} (h:l5 R=some (q,R')):1≤q.1∧q.1≤16384∧1≤q.2∧q.2≤16384:=by
 have hrd:∀ {n v:Nat} {R R':aM},rd n R=some (v,R')→v<2 ^ n:=fun {n v R R'} h => by
  unfold rd at h
  split at h
  ·simp only [Option.some.injEq,Prod.mk.injEq] at h
   obtain ⟨rfl,_⟩:=h
   exact bK R n
  ·cases h
 obtain ⟨m,R1,_,h⟩:=d9 h
 split at h
 ·cases h
 ·obtain ⟨w,R2,h1,h⟩:=d9 h
  obtain ⟨ht,R3,h2,h⟩:=d9 h
  obtain ⟨_,R4,_,h⟩:=d9 h
  obtain ⟨v,R5,_,h⟩:=d9 h
  split at h
  ·cases h
  ·obtain ⟨rfl,_⟩:=iY h
   have:=hrd h1
   have:=hrd h2
   simp only
   omega
def IP (rd sb so cap:Nat) (s:List Nat) (r:Option ((Nat × Nat) × aM)) (w:World) (e:Ending) (w':World):Prop :=
 (∃ d wd ht R',r=some ((wd,ht),R')∧e=.returned (.tuple #[pT d,.int .i32 (wd:Nat),.int .i32 (ht:Nat),.nilIface])∧w.heap.size≤d∧(cD ⟨d,rd,sb,so,cap,s⟩ R').pred w'∧cf [rd] w w') ∨
 (r=none∧(∃ a,e=.returned (.tuple #[.pointer none,.int .i32 0,.int .i32 0,.iface 149 (.pointer (some a))]))∧cf [rd] w w')
theorem CG (rd sb so cap:Nat) (s:List Nat) (W:World) (I:LD rd sb so cap s W) :
  Calls Tryz.prog 48 #[.iface 67 (pT rd)] W (IP rd sb so cap s (l5 (fi s)) W):=by
 have H:St W [rd] [aa rd [.slice (some ⟨sb,so,none⟩) s.length cap,.int .i64 0,.int .i64 (-1)] 124] W:=gQ I.blk
 obtain ⟨R,hR⟩:∃ R,R=fi s:=⟨_,rfl⟩
 rw [← hR]
 have hdec:l5 R=pb (Go.Proofs.YtmgemcffhbnpfaaGreatDoor.rd 8) (fun m => if m≠47 then no else pb (Go.Proofs.YtmgemcffhbnpfaaGreatDoor.rd 14) fun w => pb (Go.Proofs.YtmgemcffhbnpfaaGreatDoor.rd 14) fun h => pb (Go.Proofs.YtmgemcffhbnpfaaGreatDoor.rd 1) fun _ => pb (Go.Proofs.YtmgemcffhbnpfaaGreatDoor.rd 3) fun v => if v≠0 then no else ret (w+1,h+1)) R:=rfl
 refine enter (m:=80) Tryz.func48 O Tryz.ntmps48 O (Cy (bI O (az O (az O (bI O (Lt (Cy (db O (Lp (LA Ds O) (gr O (av O O (av O O (bI O (cU O (Lt ?_)))))))))))))))
 refine Cs (Cy (dh O (Lp (fT O) (Lt (Cq O (Ck (tn (Cy (db O (Lp (iF [.iface 67 (pT rd),.int .u32 0,.int .u32 0] O κ) (fM H (cs:=[.iface 67 (pT rd),.int .u32 0,.int .u32 0]) O O O ?_)))))))))))
 intro w d hd1 hd2 H
 refine Lp (nd O) (Lt ?_)
 have ro:RO ⟨d,rd,sb,so,cap,s⟩ W:=I.ro hd2
 have hS:zG ⟨d,rd,sb,so,cap,s⟩ [rd]:=⟨fun b hb => by simp at hb;subst hb;exact I.ne.1,by simpa using I.ne.2⟩
 replace H:St W [rd] (Jm ⟨d,rd,sb,so,cap,s⟩ R 0 0 (-1)) w:=H
 replace H:=H.toDec ω ⟨Nat.zero_le _,Nat.zero_le _,by rw [hR];rfl⟩
 clear hR
 by_cases hR_:8≤R.length
 case neg =>
  rw [dN (iH ω)] at hdec
  refine Cy (bH O (dJ (k:=8) H 0 O ro hS ω ω O O O ?_))
  intro w a H
  refine gr O (av O O (av O O (az O (bI O (Lt (Cs (Cy (db O (Lp (bu aX O O) (Lt ?_))))))))))
  refine Cp O ?_
  refine Cy (db O (bI O (az O (az O (bI O (Lt (Ct (aE ?_))))))))
  have hF:=H.frm
  exact fJ O O O O O (.inr ⟨hdec,⟨_,O⟩,hF⟩)
 case pos =>
 rw [dp (ir hR_)] at hdec
 have hm:val (R.take (8))<2 ^ (8):=bK R (8)
 refine Cy (bH O (dB (k:=8) H 0 O ro hS ω hR_ O O O ?_))
 intro w H
 simp only [List.set] at H
 refine gr O (av O O (av O O (az O (bI O (Lt ?_)))))
 generalize val (R.take (8))=m at *
 generalize R.drop (8)=R1 at *
 clear hR_
 refine Cs (Cy (db O (Lp (bj aX O O) (Lt (Cq O (Ck (tn (Cs (Cy (ai O (Lp (mh O O) (Lt ?_))))))))))))
 by_cases hm47:m=47
 case neg =>
  rw [if_pos hm47] at hdec
  refine CT O ω (Cy (mJ H O O ?_))
  intro w a H
  refine bI O (az O (az O (bI O (Lt (Ct (aE ?_))))))
  exact fJ O O O O O (.inr ⟨hdec,⟨_,O⟩,H.frm⟩)
 case pos =>
 rw [if_neg ω] at hdec
 refine CF O ω (Ck (tn ?_))
 by_cases hR_:14≤R1.length
 case neg =>
  rw [dN (iH ω)] at hdec
  refine Cy (bH O (dJ (k:=14) H 0 O ro hS ω ω O O O ?_))
  intro w a H
  refine gr O (av O O (av O O (az O (bI O (Lt (Cs (Cy (db O (Lp (bu aX O O) (Lt ?_))))))))))
  refine Cp O ?_
  refine Cy (db O (bI O (az O (az O (bI O (Lt (Ct (aE ?_))))))))
  have hF:=H.frm
  exact fJ O O O O O (.inr ⟨hdec,⟨_,O⟩,hF⟩)
 case pos =>
 rw [dp (ir hR_)] at hdec
 have hwd:val (R1.take (14))<2 ^ (14):=bK R1 (14)
 refine Cy (bH O (dB (k:=14) H 0 O ro hS ω hR_ O O O ?_))
 intro w H
 simp only [List.set] at H
 refine gr O (av O O (av O O (az O (bI O (Lt ?_)))))
 generalize val (R1.take (14))=wd at *
 generalize R1.drop (14)=R2 at *
 clear hR_
 refine Cs (Cy (db O (Lp (bj aX O O) (Lt (Cq O (Ck (tn (Cy (ai O (ao O O (nT (b:=1) ω) (az O (Lt ?_))))))))))))
 by_cases hR_:14≤R2.length
 case neg =>
  rw [dN (iH ω)] at hdec
  refine Cy (bH O (dJ (k:=14) H 0 O ro hS ω ω O O O ?_))
  intro w a H
  refine gr O (av O O (av O O (az O (bI O (Lt (Cs (Cy (db O (Lp (bu aX O O) (Lt ?_))))))))))
  refine Cp O ?_
  refine Cy (db O (bI O (az O (az O (bI O (Lt (Ct (aE ?_))))))))
  have hF:=H.frm
  exact fJ O O O O O (.inr ⟨hdec,⟨_,O⟩,hF⟩)
 case pos =>
 rw [dp (ir hR_)] at hdec
 have hht:val (R2.take (14))<2 ^ (14):=bK R2 (14)
 refine Cy (bH O (dB (k:=14) H 0 O ro hS ω hR_ O O O ?_))
 intro w H
 simp only [List.set] at H
 refine gr O (av O O (av O O (az O (bI O (Lt ?_)))))
 generalize val (R2.take (14))=ht at *
 generalize R2.drop (14)=R3 at *
 clear hR_
 refine Cs (Cy (db O (Lp (bj aX O O) (Lt (Cq O (Ck (tn (Cy (ai O (ao O O (nT (b:=1) ω) (az O (Lt ?_))))))))))))
 by_cases hR_:1≤R3.length
 case neg =>
  rw [dN (iH ω)] at hdec
  refine Cy (bH O (dJ (k:=1) H 0 O ro hS ω ω O O O ?_))
  intro w a H
  refine gr O (av O O (av O O (bI O (Lt (Cs (Cy (db O (Lp (bu aX O O) (Lt ?_)))))))))
  refine Cp O ?_
  refine Cy (db O (bI O (az O (az O (bI O (Lt (Ct (aE ?_))))))))
  have hF:=H.frm
  exact fJ O O O O O (.inr ⟨hdec,⟨_,O⟩,hF⟩)
 case pos =>
 rw [dp (ir hR_)] at hdec
 have hal:val (R3.take (1))<2 ^ (1):=bK R3 (1)
 refine Cy (bH O (dB (k:=1) H 0 O ro hS ω hR_ O O O ?_))
 intro w H
 simp only [List.set] at H
 refine gr O (av O O (av O O (bI O (Lt ?_))))
 generalize val (R3.take (1))=al at *
 generalize R3.drop (1)=R4 at *
 clear hR_
 refine Cs (Cy (db O (Lp (bj aX O O) (Lt (Cq O (Ck (tn ?_)))))))
 by_cases hR_:3≤R4.length
 case neg =>
  rw [dN (iH ω)] at hdec
  refine Cy (bH O (dJ (k:=3) H 0 O ro hS ω ω O O O ?_))
  intro w a H
  refine gr O (av O O (av O O (az O (bI O (Lt (Cs (Cy (db O (Lp (bu aX O O) (Lt ?_))))))))))
  refine Cp O ?_
  refine Cy (db O (bI O (az O (az O (bI O (Lt (Ct (aE ?_))))))))
  have hF:=H.frm
  exact fJ O O O O O (.inr ⟨hdec,⟨_,O⟩,hF⟩)
 case pos =>
 rw [dp (ir hR_)] at hdec
 have hve:val (R4.take (3))<2 ^ (3):=bK R4 (3)
 refine Cy (bH O (dB (k:=3) H 0 O ro hS ω hR_ O O O ?_))
 intro w H
 simp only [List.set] at H
 refine gr O (av O O (av O O (az O (bI O (Lt ?_)))))
 generalize val (R4.take (3))=ve at *
 generalize R4.drop (3)=R5 at *
 clear hR_
 refine Cs (Cy (db O (Lp (bj aX O O) (Lt (Cq O (Ck (tn (Cs (Cy (ai O (Lp (mh O O) (Lt ?_))))))))))))
 by_cases hv0:ve=0
 case neg =>
  rw [if_pos hv0] at hdec
  refine CT O ω (Cy (mJ H O O ?_))
  intro w a H
  refine bI O (az O (az O (bI O (Lt (Ct (aE ?_))))))
  exact fJ O O O O O (.inr ⟨hdec,⟨_,O⟩,H.frm⟩)
 case pos =>
 rw [if_neg ω] at hdec
 refine CF O ω (Ck (tn (Cy (bH O (ai O (cm lr O (jm ω) (ai O (cm lr O (jm ω) (Lp (nd O) (az O (az O (bI O (Lt (Ct ?_))))))))))))))
 exact fJ O O O O O (.inl ⟨d,wd+1,ht+1,R5,hdec,O,hd2,H.get (i:=0) rfl,H.frm⟩)
end Go.Proofs.YtmgemcffhbnpfaaGreatDoor
namespace Go.Proofs.YtmgemcffhbnpfaaGreatDoor
section
variable {f:List Nat→Nat→Nat}
theorem pW (f:List Nat→Nat→Nat):∀ (l m acc:List Nat),i4 f acc (l++m)=i4 f (i4 f acc l) m
 | [],m,acc => rfl
 | p :: l,m,acc => pW f l m _
theorem fY (f:List Nat→Nat→Nat):∀ (l acc:List Nat),(i4 f acc l).length=acc.length+l.length
 | [],acc => rfl
 | p :: l,acc => by rw [i4,fY f l];simp;omega
theorem oD {P:Nat→Prop} (hf:∀ acc p,P p→P (f acc p)):∀ (l acc:List Nat),(∀ p ∈ l,P p)→(∀ p ∈ acc,P p)→∀ p ∈ i4 f acc l,P p
 | [],acc,hl,ha => ha
 | q :: l,acc,hl,ha => oD hf l _ (fun p hp => hl p (List.mem_cons_of_mem _ hp)) fun p hp => by
  rw [List.mem_append,List.mem_singleton] at hp
  rcases hp with hp | rfl
  ·exact ha p hp
  ·exact hf acc q (hl q (by simp))
def gN (f:List Nat→Nat→Nat) (l:List Nat) (i:Nat):List Nat:=i4 f [] (l.take i)
def nu (f:List Nat→Nat→Nat) (l:List Nat) (i:Nat):List Nat:=gN f l i++l.drop i
theorem eu {l:List Nat} {i:Nat} (h:i≤l.length):(gN f l i).length=i:=by unfold gN;rw [fY];simp;omega
theorem qO {l:List Nat} {i:Nat} (h:i<l.length):gN f l (i+1)=gN f l i++[f (gN f l i) (l.getD i 0)]:=by
 unfold gN
 rw [List.take_succ_eq_append_getElem h,pW]
 simp [i4,h]
theorem yB (l:List Nat):gN f l 0=[]:=rfl
theorem om (l:List Nat):gN f l l.length=i4 f [] l:=by unfold gN;rw [List.take_length]
theorem jj {l:List Nat} {i:Nat} (h:i≤l.length):(nu f l i).length=l.length:=by
 unfold nu;rw [List.length_append,eu h,List.length_drop];omega
theorem qd (l:List Nat):nu f l 0=l:=by simp [nu,gN,i4]
theorem tP (l:List Nat):nu f l l.length=i4 f [] l:=by simp [nu,om]
theorem qJ {l:List Nat} {i j:Nat} (h:i≤l.length) (hj:j<i):(nu f l i).getD j 0=(gN f l i).getD j 0:=by
 unfold nu
 rw [List.getD_eq_getElem?_getD,List.getElem?_append_left (by rw [eu h];exact hj),← List.getD_eq_getElem?_getD]
theorem pN {l:List Nat} {i j:Nat} (h:i≤l.length) (hj:i≤j):(nu f l i).getD j 0=l.getD j 0:=by
 unfold nu
 rw [List.getD_eq_getElem?_getD,List.getElem?_append_right (by rw [eu h];exact hj),eu h,List.getElem?_drop,show i+(j - i)=j by omega,← List.getD_eq_getElem?_getD]
theorem jP {l:List Nat} {i:Nat} (h:i<l.length):(nu f l i).set i (f (gN f l i) (l.getD i 0))=nu f l (i+1):=by
 unfold nu
 have hl:(gN f l i).length=i:=eu ω
 rw [List.set_append_right _ _ ω,hl,Nat.sub_self,qO h,List.drop_eq_getElem_cons h,List.set_cons_zero,List.append_assoc]
 rfl
end
theorem Ex {f:List Nat→Nat→Nat} (h:∀ p,f [] p=p) {l:List Nat} (hl:0<l.length):nu f l 1=l:=by
 have:=jP (f:=f) hl
 rw [qd,yB,h] at this
 rw [← this]
 cases l with
 | nil => simp at hl
 | cons a r => simp
theorem mU {l:List Nat} {i:Nat} (h:i<l.length) (p j:Nat):ap (l.set i p) j=if j=4 * i+3 then pA p else if j=4 * i+2 then pB p else if j=4 * i+1 then pG p else if j=4 * i+0 then pR p else ap l j:=by
 by_cases hi:j / 4=i
 ·have e:ap (l.set i p) j=CS p (j % 4):=by
   unfold ap
   rw [hi]
   simp [h]
  rw [e]
  have:j=4 * i+0∨j=4 * i+1∨j=4 * i+2∨j=4 * i+3:=ω
  rcases this with h | h | h | h
  ·rw [if_neg ω,if_neg ω,if_neg ω,if_pos h,show j % 4=0 by omega];rfl
  ·rw [if_neg ω,if_neg ω,if_pos h,show j % 4=1 by omega];rfl
  ·rw [if_neg ω,if_pos h,show j % 4=2 by omega];rfl
  ·rw [if_pos h,show j % 4=3 by omega];rfl
 ·rw [if_neg ω,if_neg ω,if_neg ω,if_neg ω]
  unfold ap
  simp [List.getD_eq_getElem?_getD,List.getElem?_set_ne (Ne.symm hi)]
theorem fC (l:List Nat) (i:Nat):ap l (4 * i+0)=pR (l.getD i 0):=by
 unfold ap;rw [show (4 * i+0) / 4=i by omega,show (4 * i+0) % 4=0 by omega];rfl
theorem eh (l:List Nat) (i:Nat):ap l (4 * i+1)=pG (l.getD i 0):=by
 unfold ap;rw [show (4 * i+1) / 4=i by omega,show (4 * i+1) % 4=1 by omega];rfl
theorem fI (l:List Nat) (i:Nat):ap l (4 * i+2)=pB (l.getD i 0):=by
 unfold ap;rw [show (4 * i+2) / 4=i by omega,show (4 * i+2) % 4=2 by omega];rfl
theorem fV (l:List Nat) (i:Nat):ap l (4 * i+3)=pA (l.getD i 0):=by
 unfold ap;rw [show (4 * i+3) / 4=i by omega,show (4 * i+3) % 4=3 by omega];rfl
theorem bX (p:Nat):pA p<256∧pR p<256∧pG p<256∧pB p<256:=⟨Nat.mod_lt _ ω,Nat.mod_lt _ ω,Nat.mod_lt _ ω,Nat.mod_lt _ ω⟩
theorem pO (p q:Nat):pA (da p q)=(pA p+pA q) % 256∧pR (da p q)=(pR p+pR q) % 256∧pG (da p q)=(pG p+pG q) % 256∧pB (da p q)=(pB p+pB q) % 256∧da p q<2 ^ 32 :=
 eO (Nat.mod_lt _ ω) (Nat.mod_lt _ ω) (Nat.mod_lt _ ω) (Nat.mod_lt _ ω)
end Go.Proofs.YtmgemcffhbnpfaaGreatDoor
set_option maxHeartbeats 4000000
namespace Go.Proofs.YtmgemcffhbnpfaaGreatDoor
open Go
def Hz (B:Nat) (w:World) (t:Tr) (pv:Value):Prop :=
 (t.kind=2∧pv=.slice none 0 0)∨(t.kind≠2∧∃ b len cap,pv=.slice (aT b) len cap∧len≤cap∧B≤b∧ff w b (bM .u8 (ap t.px) cap) 5∧4 * t.px.length≤len∧(t.kind=3→len=1024))
theorem Hz.keep {B:Nat} {w w':World} {t:Tr} {pv:Value} {S:List Nat} (h:Hz B w t pv) (hf:cf S w w') (hS:∀ s ∈ S,s<B):Hz B w' t pv:=by
 rcases h with h | ⟨h0,b,len,cap,h1,h2,h3,h4,h5⟩
 ·exact .inl h
 ·exact .inr ⟨h0,b,len,cap,h1,h2,h3,hf.blk h4 fun hm => by have:=hS _ hm;omega,h5⟩
theorem Hz.low {B B':Nat} {w:World} {t:Tr} {pv:Value} (h:Hz B w t pv) (hB:B'≤B):Hz B' w t pv:=by
 rcases h with h | ⟨h0,b,len,cap,h1,h2,h3,h4,h5⟩
 ·exact .inl h
 ·exact .inr ⟨h0,b,len,cap,h1,h2,Nat.le_trans hB h3,h4,h5⟩
structure B4 (ht:Nat) (t:Tr):Prop where
 kind:t.kind≤3
 wd:1≤t.wd∧t.wd≤16384
 tile:t.kind≤1→2≤t.bits∧t.bits≤9∧t.px.length=aq t.wd t.bits * aq ht t.bits
 index:t.kind=3→t.bits≤3∧t.px.length≤256
 px:∀ p ∈ t.px,p<2 ^ 32
def JS (σ:pL) (ht:Nat) (r:Option ((Tr × Nat) × aM)) (w:World) (e:Ending) (w':World):Prop :=
 (∃ t nw R' pv,r=some ((t,nw),R')∧e=.returned (.tuple #[.agg #[.int .u32 (t.kind:Nat),.int .i32 (t.wd:Nat),.int .u32 (t.bits:Nat),pv],.int .i32 (nw:Nat),.nilIface])∧Hz w.heap.size w' t pv∧B4 ht t∧1≤nw∧nw≤16384∧(cD σ R').pred w'∧cf [σ.d,σ.rd] w w') ∨
 (r=none∧(∃ a,e=.returned (.tuple #[.agg #[.int .u32 0,.int .i32 0,.int .u32 0,.slice none 0 0],.int .i32 0,.iface 149 (.pointer (some a))]))∧cf [σ.d,σ.rd] w w')
def jL (acc:List Nat) (p:Nat):Nat:=if acc.length=0 then p else da p (acc.getD (acc.length - 1) 0)
theorem vU (l:List Nat):mN l=i4 jL [] l:=rfl
theorem nJ (n:Nat):b0 n≤3:=by
 unfold b0
 split
 ·omega
 ·split
  ·omega
  ·split <;> omega
theorem FC (OK:yE false) (σ:pL) (R:aM) (W:World) (wd ht:Nat) (D:(cD σ R).pred W) (ro:RO σ W) (hw:1≤wd) (hw2:wd≤16384) (hh:1≤ht) (hh2:ht≤16384) :
  Calls Tryz.prog 50 #[.pointer (some ⟨σ.d,0,none⟩),.int .i32 (wd:Nat),.int .i32 (ht:Nat)] W (JS σ ht (rU wd ht R) W):=by
 have hS:=ro.okS
 have H:St W [σ.d,σ.rd] [cD σ R] W:=St.one D (cK σ R) (by simp [cD])
 have hdW:∀ s ∈ [σ.d,σ.rd],s<W.heap.size:=fun s hs => (cK σ R).2 W D s hs
 have hdec:rU wd ht R=pb (rd 2) (fun k => if k≤1 then pb (rd 3) fun b => pb (ip (aq wd (b+2)) (aq ht (b+2))) fun px => ret (⟨k,wd,b+2,px⟩,wd)
  else if k=2 then ret (⟨2,wd,0,[]⟩,wd)
  else pb (rd 8) fun n => pb (ip (n+1) 1) fun px => ret (⟨3,wd,b0 (n+1),mN px⟩,aq wd (b0 (n+1)))) R:=rfl
 refine enter (m:=164) Tryz.func50 O Tryz.ntmps50 O (Cy (cE H Eg O ?_))
 intro w b6 hn6 hb6 H
 refine az O (bI O (Lt (Cy (ai O (aU kA O (bC H 0 Gr O O O O ?_))))))
 intro w H
 try simp only [List.set,List.eraseIdx] at H
 refine Lt ?_
 by_cases hR_:2≤R.length
 case neg =>
  rw [dN (iH ω)] at hdec
  refine Cy (bH O (dJ (k:=2) H 1 O ro hS ω ω O O O ?_))
  intro w a H
  refine gr O (av O O (av O O (aU mW O (bC H 0 dY O O O O ?_))))
  intro w H
  refine bI O (Lt (Cs (Cy (db O (Lp (bu aX O O) (Lt ?_))))))
  refine Cp O ?_
  refine Cy (Lp (nx xy) (db O (dG H 0 kE O O O O O δ ?_)))
  intro w H
  try simp only [List.set,List.eraseIdx] at H
  refine az O (bI O (Lt (Ct (aE ?_))))
  have hF:=H.frm
  exact ju (cs:=[.int .u32 0,.int .i32 0,.int .u32 0,.slice none 0 0]) O jW O O (fun j hj => by rw [Nat.zero_add];exact (H.blk (i:=0) O).cell j) O O (.inr ⟨hdec,⟨_,O⟩,hF⟩)
 case pos =>
 rw [dp (ir hR_)] at hdec
 have hk:val (R.take (2))<2 ^ (2):=bK R (2)
 refine Cy (bH O (dB (k:=2) H 1 O ro hS ω hR_ O O O ?_))
 intro w H
 simp only [List.set] at H
 refine gr O (av O O (av O O (aU mW O (bC H 0 dY O O O O ?_))))
 intro w H
 try simp only [List.set,List.eraseIdx] at H
 refine bI O (Lt ?_)
 generalize val (R.take (2))=k at *
 generalize R.drop (2)=R1 at *
 clear hR_
 refine Cs (Cy (db O (Lp (bj aX O O) (Lt (Cq O (Ck (tn (Cs (Cy (aU mW O (aC bD O (H.cell 0 O O) (Lt (Cb (Cs (Cy (Lp (bR (b:=decide (k=0)) O O (decide_eq_decide.2 ω)) (cU O ?_)))))))))))))))))
 refine Lt ?_
 refine aH (fun ρ w' => ρ 0=.pointer (some ⟨σ.d,0,none⟩)∧ρ 1=.int .i32 (wd:Nat)∧ρ 2=.int .i32 (ht:Nat)∧ρ 6=pT b6∧ρ 26=.int .u32 (k:Nat)∧ρ 27=.bool (decide (k≤1))∧w=w') ?_ ?_
 case refine_1 =>
  by_cases h0:k=0
  case pos =>
   refine CT O ω (Ck (tn ?_))
   exact ⟨O,O,O,O,O,congrArg Value.bool (decide_eq_decide.2 ω),O⟩
  case neg =>
   refine CF O ω (Cr (Lp (bR (b:=decide (k=1)) O O (decide_eq_decide.2 ω)) (cU O (Lt ?_))))
   exact ⟨O,O,O,O,O,congrArg Value.bool (decide_eq_decide.2 ω),O⟩
 case refine_2 =>
 rintro ρ w' ⟨h0,h1,h2,h6,h26,h27,rfl⟩
 by_cases hk1:k≤1
 case pos =>
  rw [if_pos hk1] at hdec
  refine CT h27 hk1 ?_
  by_cases hR_:3≤R1.length
  case neg =>
   rw [dN (iH ω)] at hdec
   refine Cy (bH η (dJ (k:=3) H 1 O ro hS ω ω O O O ?_))
   intro w a H
   refine gr O (av O O (av O O (aU ei η (bC H 0 dY O O O O ?_))))
   intro w H
   refine bI O (Lt (Cs (Cy (db O (Lp (bu aX O O) (Lt ?_))))))
   refine Cp O ?_
   refine Cy (Lp (nx xy) (db O (dG H 0 kE η O O O O δ ?_)))
   intro w H
   try simp only [List.set,List.eraseIdx] at H
   refine az O (bI O (Lt (Ct (aE (bL (aE ?_))))))
   have hF:=H.frm
   exact ju (cs:=[.int .u32 0,.int .i32 0,.int .u32 0,.slice none 0 0]) O jW h6 O (fun j hj => by rw [Nat.zero_add];exact (H.blk (i:=0) O).cell j) O O (.inr ⟨hdec,⟨_,O⟩,hF⟩)
  case pos =>
  rw [dp (ir hR_)] at hdec
  have hb:val (R1.take (3))<2 ^ (3):=bK R1 (3)
  refine Cy (bH η (dB (k:=3) H 1 O ro hS ω hR_ O O O ?_))
  intro w H
  simp only [List.set] at H
  refine gr O (av O O (av O O (aU ei η (bC H 0 dY O O O O ?_))))
  intro w H
  try simp only [List.set,List.eraseIdx] at H
  refine bI O (Lt ?_)
  generalize val (R1.take (3))=b at *
  generalize R1.drop (3)=R2 at *
  clear hR_
  refine Cs (Cy (db O (Lp (bj aX O O) (Lt (Cq O (Ck (tn (Cy (aU ei η (aC bD O (H.cell 0 O O) (ao O O (nT (b:=2) ω) (aU ei η (bC H 0 dY O O O O ?_)))))))))))))
  intro w H
  try simp only [List.set,List.eraseIdx] at H
  refine Lt ?_
  obtain ⟨ht1,ht2⟩:=cu (b:=b+2) hw
  obtain ⟨hu1,hu2⟩:=cu (b:=b+2) hh
  replace H:St W [σ.d,σ.rd] [aa b6 [.int .u32 (k:Nat),.int .i32 (wd:Nat),.int .u32 ((b+2:Nat):Int),.slice none 0 0] 109,cD σ R2] _:=H
  cases hds:ip (aq wd (b+2)) (aq ht (b+2)) R2
  case none =>
   rw [dN hds] at hdec
   refine Cs ?_
   refine VC.held ((fun w => w.cell? ⟨b6,0+2,none⟩=some (.int .u32 ((b+2:Nat):Int)))) aJ (by with_reducible repeat (first | refine fB ?_ | refine eP.blk ?_ | refine fy ?_ | refine dP ?_ | exact eP.done)) ?_
   intro w hsame
   replace H:=H.same hsame
   refine Ht 0 O κ κ κ O (H.cell 0 O O) (fun w hI => YP η) (Ht 1 O κ κ κ O (H.cell 0 O O) (fun w hI => YI η) (Ht 2 O κ κ κ O (H.cell 0 O O) (fun w hI => iQ ei η) (Ht 3 O κ κ κ O (H.cell 0 O O) (fun w hI => ef bD O hI) (Ht 5 O κ κ κ O (H.cell 0 O O) (fun w hI => YI η) (Ht 6 O κ κ κ O (H.cell 0 O O) (fun w hI => iQ ei η) (Ht 7 O κ κ κ O (H.cell 0 O O) (fun w hI => ef bD O hI) (kR 4 O κ O n0 (ik _ wd (b+2) hw ω ω) O (H.cell 0 O O) (kR 8 O κ O n0 (ik _ ht (b+2) hh ω ω) O (H.cell 0 O O) ?_))))))))
   have hcl:=True.intro
   refine gA 9 O κ O ss (OK σ R2 _ (aq wd (b+2)) (aq ht (b+2)) 0 (H.get (i:=1) O) (ro.frm H hS) ht1 ω hu1 ω ω) O ?_
   intro e w2 hP
   rcases hP with ⟨px',R3',bp,hr,_⟩ | ⟨hr,⟨a,rfl⟩,hf⟩
   ·rw [show gT false (aq wd (b+2)) (aq ht (b+2)) R2=ip (aq wd (b+2)) (aq ht (b+2)) R2 from rfl,hds] at hr;cases hr
   replace H:=H.lost (i:=1) rfl hf
   simp only [List.eraseIdx] at H
   refine ⟨_,O,H.cell 0 O rfl,?_⟩
   refine Ht 10 O κ κ κ O (H.cell 0 O O) (fun w hI => uq O) (Ht 11 O κ κ κ O (H.cell 0 O O) (fun w hI => qF O O) (Ht 12 O κ κ κ O (H.cell 0 O O) (fun w hI => qF O O) (Ht 13 O κ κ κ O (H.cell 0 O O) (fun w hI => iQ gu η) (ph 14 O κ H 0 Eh O O O O O ?_))))
   intro w3 hf3 H
   simp only [List.set] at H
   refine ⟨H.cell 0 O rfl,?_⟩
   refine Ht 15 O κ κ κ O (H.cell 0 O O) (fun w hI => rD O) (g7 κ (tn (Cy (db O (Lp (bu aX O O) (Lt ?_))))))
   refine Cp O ?_
   refine Cy (Lp (nx xy) (db O (dG H 0 kE η O O O O δ ?_)))
   intro w H
   try simp only [List.set,List.eraseIdx] at H
   refine az O (bI O (Lt (Ct (bL (aE ?_)))))
   exact ju (cs:=[.int .u32 0,.int .i32 0,.int .u32 0,.slice none 0 0]) O jW h6 O (fun j hj => by rw [Nat.zero_add];exact (H.blk (i:=0) O).cell j) O O (.inr ⟨hdec,⟨_,O⟩,H.frm⟩)
  case some q =>
  obtain ⟨px,R3⟩:=q
  rw [dp hds] at hdec
  refine Cs ?_
  refine VC.held ((fun w => w.cell? ⟨b6,0+2,none⟩=some (.int .u32 ((b+2:Nat):Int)))) aJ (by with_reducible repeat (first | refine fB ?_ | refine eP.blk ?_ | refine fy ?_ | refine dP ?_ | exact eP.done)) ?_
  intro w hsame
  replace H:=H.same hsame
  refine Ht 0 O κ κ κ O (H.cell 0 O O) (fun w hI => YP η) (Ht 1 O κ κ κ O (H.cell 0 O O) (fun w hI => YI η) (Ht 2 O κ κ κ O (H.cell 0 O O) (fun w hI => iQ ei η) (Ht 3 O κ κ κ O (H.cell 0 O O) (fun w hI => ef bD O hI) (Ht 5 O κ κ κ O (H.cell 0 O O) (fun w hI => YI η) (Ht 6 O κ κ κ O (H.cell 0 O O) (fun w hI => iQ ei η) (Ht 7 O κ κ κ O (H.cell 0 O O) (fun w hI => ef bD O hI) (kR 4 O κ O n0 (ik _ wd (b+2) hw ω ω) O (H.cell 0 O O) (kR 8 O κ O n0 (ik _ ht (b+2) hh ω ω) O (H.cell 0 O O) ?_))))))))
  have hcl:=True.intro
  refine gA 9 O κ O ss (OK σ R2 _ (aq wd (b+2)) (aq ht (b+2)) 0 (H.get (i:=1) O) (ro.frm H hS) ht1 ω hu1 ω ω) O ?_
  intro e w2 hP
  rcases hP with ⟨px',R3',bp,hr,rfl,hlen,hp32,hd2,hnew,hbp,hf⟩ | ⟨hr,_⟩
  rotate_left
  ·rw [show gT false (aq wd (b+2)) (aq ht (b+2)) R2=ip (aq wd (b+2)) (aq ht (b+2)) R2 from rfl,hds] at hr;cases hr
  rw [show gT false (aq wd (b+2)) (aq ht (b+2)) R2=ip (aq wd (b+2)) (aq ht (b+2)) R2 from rfl,hds] at hr
  obtain ⟨rfl,rfl⟩:=Prod.mk.inj (Option.some.inj hr)
  have hnewW:W.heap.size≤bp:=Nat.le_trans H.high hnew
  replace H:=H.grow (i:=1) rfl hf hd2 (cK σ R3) rfl hbp hnew
  refine ⟨_,O,H.cell 1 O rfl,?_⟩
  refine Ht 10 O κ κ κ O (H.cell 1 O O) (fun w hI => uq O) (Ht 11 O κ κ κ O (H.cell 1 O O) (fun w hI => qF O O) (Ht 12 O κ κ κ O (H.cell 1 O O) (fun w hI => qF O O) (Ht 13 O κ κ κ O (H.cell 1 O O) (fun w hI => iQ gu η) (ph 14 O κ H 1 Eh O O O O O ?_))))
  intro w3 hf3 H
  simp only [List.set] at H
  refine ⟨H.cell 1 O rfl,?_⟩
  refine Ht 15 O κ κ κ O (H.cell 1 O O) (fun w hI => rD O) (g7 κ (tn (Cy (db O (Lp (bj aX O O) (Lt (Cq O (Ck (aF (tn ?_))))))))))
  rw [Nat.zero_max,← hlen] at H
  refine Cy (Lp (fH (cs:=[.int .u32 (k:Nat),.int .i32 (wd:Nat),.int .u32 ((b+2:Nat):Int),.slice (aT bp) (4 * px.length) (4 * px.length)]) jW h6 O (fun j hj => by rw [Nat.zero_add];exact (H.blk (i:=1) O).cell j)) (ai η (dG H 1 kE η O O O O (by simp [Value.oneCell']) ?_)))
  intro w H
  try simp only [List.set,List.eraseIdx] at H
  refine az O (bI O (Lt (Ct ?_)))
  exact ju (cs:=[.int .u32 (k:Nat),.int .i32 (wd:Nat),.int .u32 ((b+2:Nat):Int),.slice (aT bp) (4 * px.length) (4 * px.length)]) O jW h6 O (fun j hj => by rw [Nat.zero_add];exact (H.blk (i:=1) O).cell j) O O
   (.inl ⟨⟨k,wd,b+2,px⟩,wd,R3,_,hdec,rfl,.inr ⟨by show k≠2;omega,bp,_,_,rfl,Nat.le_refl _,hnewW,H.blk (i:=0) rfl,Nat.le_refl _,fun h => absurd h (by show k≠3;omega)⟩,⟨by show k≤3;omega,⟨hw,hw2⟩,fun _ => ⟨by show 2≤b+2;omega,by show b+2≤9;omega,hlen⟩,fun h => absurd h (by show k≠3;omega),hp32⟩,hw,hw2,H.get (i:=2) rfl,H.frm⟩)
 case neg =>
 rw [if_neg hk1] at hdec
 refine CF h27 hk1 ?_
 by_cases hk2:k=2
 case pos =>
  subst hk2
  rw [if_pos rfl] at hdec
  refine Cy (bF η O (cU O (Lt (CT O ω (Ck (aF (tn (Cy (Lp (fH (cs:=[.int .u32 (2:Nat),.int .i32 (wd:Nat),.int .u32 (0:Nat),.slice none 0 0]) jW h6 O (fun j hj => by rw [Nat.zero_add];exact (H.blk (i:=0) O).cell j)) (ai η (dG H 0 kE η O O O O (by simp [Value.oneCell']) ?_)))))))))))
  intro w H
  try simp only [List.set,List.eraseIdx] at H
  refine az O (bI O (Lt (Ct ?_)))
  exact ju (cs:=[.int .u32 (2:Nat),.int .i32 (wd:Nat),.int .u32 (0:Nat),.slice none 0 0]) O jW h6 O (fun j hj => by rw [Nat.zero_add];exact (H.blk (i:=0) O).cell j) O O
   (.inl ⟨⟨2,wd,0,[]⟩,wd,R1,_,hdec,rfl,.inl ⟨rfl,rfl⟩,⟨by show 2≤3;omega,⟨hw,hw2⟩,fun h => absurd h (by show ¬ 2≤1;omega),fun h => absurd h (by show 2≠3;omega),by simp⟩,hw,hw2,H.get (i:=1) rfl,H.frm⟩)
 case neg =>
 obtain rfl:k=3:=ω
 rw [if_neg hk2] at hdec
 refine Cy (bF η O (cU O (Lt (CF O ω (Cy (bF η O (cU O (Lt (CT O ω ?_)))))))))
 by_cases hR_:8≤R1.length
 case neg =>
  rw [dN (iH ω)] at hdec
  refine Cy (bH η (dJ (k:=8) H 1 O ro hS ω ω O O O ?_))
  intro w a H
  refine gr O (av O O (av O O (az O (bI O (Lt (Cs (Cy (db O (Lp (bu aX O O) (Lt ?_))))))))))
  refine Cp O ?_
  refine Cy (Lp (nx xy) (db O (dG H 0 kE η O O O O δ ?_)))
  intro w H
  try simp only [List.set,List.eraseIdx] at H
  refine az O (bI O (Lt (Ct (aE (bL (aE ?_))))))
  have hF:=H.frm
  exact ju (cs:=[.int .u32 0,.int .i32 0,.int .u32 0,.slice none 0 0]) O jW h6 O (fun j hj => by rw [Nat.zero_add];exact (H.blk (i:=0) O).cell j) O O (.inr ⟨hdec,⟨_,O⟩,hF⟩)
 case pos =>
 rw [dp (ir hR_)] at hdec
 have hnc:val (R1.take (8))<2 ^ (8):=bK R1 (8)
 refine Cy (bH η (dB (k:=8) H 1 O ro hS ω hR_ O O O ?_))
 intro w H
 simp only [List.set] at H
 refine gr O (av O O (av O O (az O (bI O (Lt ?_)))))
 generalize val (R1.take (8))=nc at *
 generalize R1.drop (8)=R2 at *
 clear hR_
 refine Cs (Cy (db O (Lp (bj aX O O) (Lt (Cq O (Ck (tn (Cy (ai O (ao O O (nT (b:=1) ω) (az O (Lt (Cy (aU ei η (bC H 0 dY O O O O ?_)))))))))))))))
 intro w H
 try simp only [List.set,List.eraseIdx] at H
 refine Lt (Cs ?_)
 refine aH (fun ρ w' => ρ 0=.pointer (some ⟨σ.d,0,none⟩)∧ρ 1=.int .i32 (wd:Nat)∧ρ 2=.int .i32 (ht:Nat)∧ρ 6=pT b6∧ρ 9=.int .u32 ((nc+1:Nat):Int)∧St W [σ.d,σ.rd] [aa b6 [.int .u32 (3:Nat),.int .i32 (wd:Nat),.int .u32 (b0 (nc+1):Nat),.slice none 0 0] 109,cD σ R2] w') ?_ ?_
 case refine_1 =>
  refine Cb ?_
  have hsh:b0 (nc+1)=if nc+1≤2 then 3 else if nc+1≤4 then 2 else if nc+1≤16 then 1 else 0:=rfl
  refine Cy (ai O (Lp (sd O O) (cU O (Lt ?_))))
  by_cases hc2:nc+1≤2
  case pos =>
   rw [if_pos hc2] at hsh
   rw [hsh]
   refine CT O ω (Cr (aU ei η (bC H 0 dY O O O O ?_)))
   intro w H
   try simp only [List.set,List.eraseIdx] at H
   refine Ln (aF (tn ?_))
   exact ⟨h0,h1,h2,h6,O,H⟩
  case neg =>
  rw [if_neg hc2] at hsh
  refine CF O ω (Cy (ai O (Lp (sd O O) (cU O (Lt ?_)))))
  by_cases hc4:nc+1≤4
  case pos =>
   rw [if_pos hc4] at hsh
   rw [hsh]
   refine CT O ω (Cr (aU ei η (bC H 0 dY O O O O ?_)))
   intro w H
   try simp only [List.set,List.eraseIdx] at H
   refine Ln (aF (tn ?_))
   exact ⟨h0,h1,h2,h6,O,H⟩
  case neg =>
  rw [if_neg hc4] at hsh
  refine CF O ω (Cy (ai O (Lp (sd O O) (cU O (Lt ?_)))))
  by_cases hc16:nc+1≤16
  case pos =>
   rw [if_pos hc16] at hsh
   rw [hsh]
   refine CT O ω (Cr (aU ei η (bC H 0 dY O O O O ?_)))
   intro w H
   try simp only [List.set,List.eraseIdx] at H
   refine Ln (aF (tn ?_))
   exact ⟨h0,h1,h2,h6,O,H⟩
  case neg =>
   rw [if_neg hc16] at hsh
   rw [hsh]
   refine CF O ω (Ck (aF (tn ?_)))
   exact ⟨h0,h1,h2,h6,O,H⟩
 case refine_2 =>
 have hsl:=nJ (nc+1)
 clear h0 h1 h2 h6 h26 h27 H ρ
 rintro ρ w2 ⟨h0,h1,h2,h6,h9,H⟩
 generalize b0 (nc+1)=sb at *
 obtain ⟨ht1,ht2⟩:=cu (b:=sb) hw
 refine Cy (ai η (aU ei η (aC bD O (H.cell 0 O O) (bZ O n0 (ik _ wd sb hw ω ω) O (az O (Lt ?_))))))
 cases hds:ip (nc+1) 1 R2
 case none =>
  rw [dN hds] at hdec
  refine Cy (bH η (ai η (cm lr O (jm ω) (aS O ss (OK σ R2 _ (nc+1) 1 1024 (H.get (i:=1) O) (ro.frm H hS) ω ω ω ω ω) O ?_))))
  intro e w3 hP
  rcases hP with ⟨px',R3',bp,hr,_⟩ | ⟨hr,⟨a,rfl⟩,hf⟩
  ·rw [show gT false (nc+1) 1 R2=ip (nc+1) 1 R2 from rfl,hds] at hr;cases hr
  replace H:=H.lost (i:=1) rfl hf
  simp only [List.eraseIdx] at H
  refine ⟨_,O,?_⟩
  refine gr O (av O O (av O O (gS O (bI O (Lt (Cs (Cy (db O (Lp (bu aX O O) (Lt ?_))))))))))
  refine Cp O ?_
  refine Cy (Lp (nx xy) (db O (dG H 0 kE η O O O O δ ?_)))
  intro w H
  try simp only [List.set,List.eraseIdx] at H
  refine az O (bI O (Lt (Ct (aE (bL (aE ?_))))))
  exact ju (cs:=[.int .u32 0,.int .i32 0,.int .u32 0,.slice none 0 0]) O jW h6 O (fun j hj => by rw [Nat.zero_add];exact (H.blk (i:=0) O).cell j) O O (.inr ⟨hdec,⟨_,O⟩,H.frm⟩)
 case some q =>
 obtain ⟨px,R3⟩:=q
 rw [dp hds] at hdec
 refine Cy (bH η (ai η (cm lr O (jm ω) (aS O ss (OK σ R2 _ (nc+1) 1 1024 (H.get (i:=1) O) (ro.frm H hS) ω ω ω ω ω) O ?_))))
 intro e w3 hP
 rcases hP with ⟨px',R3',bp,hr,rfl,hlen,hp32,hd2,hnew,hbp,hf⟩ | ⟨hr,_⟩
 rotate_left
 ·rw [show gT false (nc+1) 1 R2=ip (nc+1) 1 R2 from rfl,hds] at hr;cases hr
 rw [show gT false (nc+1) 1 R2=ip (nc+1) 1 R2 from rfl,hds] at hr
 obtain ⟨rfl,rfl⟩:=Prod.mk.inj (Option.some.inj hr)
 have hnewW:W.heap.size≤bp:=Nat.le_trans H.high hnew
 have hm1024:max 1024 (4 * ((nc+1) * 1))=1024:=ω
 rw [hm1024] at hbp
 replace H:=H.grow (i:=1) rfl hf hd2 (cK σ R3) rfl hbp hnew
 simp only [List.set] at H
 rw [hm1024,← hlen]
 refine ⟨_,O,?_⟩
 refine gr O (av O O (av O O (gS O (bI O (Lt (Cs (Cy (db O (Lp (bj aX O O) (Lt (Cq O (Ck (tn ?_)))))))))))))
 rw [Nat.mul_one] at hlen
 have hs1:=vU px
 have hm1:nu jL px 1=px:=Ex (fun p => rfl) ω
 rw [← hm1] at H
 refine Cs (Cy (az O (Lt ?_)))
 refine aH (fun ρ w' => ρ 1=.int .i32 (aq wd sb:Nat)∧ρ 6=pT b6∧ρ 11=.slice (aT bp) (4 * px.length) 1024 ∧
  St W [σ.d,σ.rd] [aa bp (bM .u8 (ap (mN px)) 1024) 5,aa b6 [.int .u32 (3:Nat),.int .i32 (wd:Nat),.int .u32 (sb:Nat),.slice none 0 0] 109,cD σ R3] w') ?_ ?_
 case refine_1 =>
  refine Cb ?_
  refine Cl (fun mm ρ w' => ∃ i,mm=px.length - i∧1≤i∧i≤px.length∧ρ 1=.int .i32 (aq wd sb:Nat)∧ρ 6=pT b6∧ρ 11=.slice (aT bp) (4 * px.length) 1024∧ρ 12=iT (4 * i) ∧
   St W [σ.d,σ.rd] [aa bp (bM .u8 (ap (nu jL px i)) 1024) 5,aa b6 [.int .u32 (3:Nat),.int .i32 (wd:Nat),.int .u32 (sb:Nat),.slice none 0 0] 109,cD σ R3] w') (px.length - 1)
   ⟨1,rfl,ω,ω,rfl,h6,rfl,rfl,H⟩ ?_
  clear h0 h1 h2 h6 h9 H ρ
  rintro mm ρ w4 ⟨i,rfl,hi1,hi,h1,h6,h11,h12,H⟩
  refine Cs (Cy (ai η (bU η (bG am O (bP O O (Lt ?_))))))
  by_cases hlt:i<px.length
  case pos =>
   have hst:=jP (f:=jL) hlt
   have hml:=jj (f:=jL) hi
   have hge:=pN (f:=jL) hi (Nat.le_refl i)
   have hlt1:=qJ (f:=jL) (j:=i - 1) hi ω
   have hmd:=eu (f:=jL) hi
   have hF':∀ (m:List Nat) (p:Nat),m.length=i→jL m p=da p (m.getD (i - 1) 0):=fun m p hm => by unfold jL;rw [if_neg ω,hm]
   have hF:=hF' (gN jL px i) (px.getD i 0) hmd
   rw [hF,← hge,← hlt1] at hst
   generalize nu jL px i=M at *
   have hA0:=fC M i
   have hA1:=eh M i
   have hA2:=fI M i
   have hA3:=fV M i
   have hB0:ap M (4 * i - 4)=pR (M.getD (i - 1) 0):=by rw [← fC,show 4 * (i - 1)+0=4 * i - 4 by omega]
   have hB1:ap M (4 * i - 3)=pG (M.getD (i - 1) 0):=by rw [← eh,show 4 * (i - 1)+1=4 * i - 3 by omega]
   have hB2:ap M (4 * i - 2)=pB (M.getD (i - 1) 0):=by rw [← fI,show 4 * (i - 1)+2=4 * i - 2 by omega]
   have hB3:ap M (4 * i - 1)=pA (M.getD (i - 1) 0):=by rw [← fV,show 4 * (i - 1)+3=4 * i - 1 by omega]
   clear hge hlt1 hF hF'
   generalize M.getD i 0=A at *
   generalize M.getD (i - 1) 0=B at *
   obtain ⟨hq1,hq2,hq3,hq4,_⟩:=pO A B
   have hset:=mU (l:=M) (i:=i) ω (da A B)
   rw [hq1,hq2,hq3,hq4] at hset
   refine CT O ω (Ck (tn (Cs (Cb (Cs (ar 12 aJ κ ?_))))))
   intro w hsame
   replace H:=H.same hsame
   refine cF η (bW η (aG O O (ck (b:=0) ω) (aR am O O O (aD (v:=.int .u8 (pR A:Nat)) aQ O (H.cell 0 O ((af ω).trans (by rw [hA0]))) (cF η (bW η (cx O O (iw (b:=4) ω) (aR am O O O (aD (v:=.int .u8 (pR B:Nat)) aQ O (H.cell 0 O ((af ω).trans (by rw [hB0]))) (aG O O (i5) (aR am O O O (Sn (aP H 0 cZ O O O ω ?_)))))))))))))
   intro w H
   try simp only [List.set,List.eraseIdx] at H
   refine Lt (Cs (ar 12 aJ κ ?_))
   intro w hsame
   replace H:=H.same hsame
   refine cF η (bW η (aG O O (ck (b:=1) ω) (aR am O O O (aD (v:=.int .u8 (pG A:Nat)) aQ O (H.cell 0 O ((af ω).trans (by rw [if_neg ω,hA1]))) (cF η (bW η (cx O O (iw (b:=3) ω) (aR am O O O (aD (v:=.int .u8 (pG B:Nat)) aQ O (H.cell 0 O ((af ω).trans (by rw [if_neg ω,hB1]))) (aG O O (i5) (aR am O O O (Sn (aP H 0 cZ O O O ω ?_)))))))))))))
   intro w H
   try simp only [List.set,List.eraseIdx] at H
   refine Lt (Cs (ar 12 aJ κ ?_))
   intro w hsame
   replace H:=H.same hsame
   refine cF η (bW η (aG O O (ck (b:=2) ω) (aR am O O O (aD (v:=.int .u8 (pB A:Nat)) aQ O (H.cell 0 O ((af ω).trans (by rw [if_neg ω,if_neg ω,hA2]))) (cF η (bW η (cx O O (iw (b:=2) ω) (aR am O O O (aD (v:=.int .u8 (pB B:Nat)) aQ O (H.cell 0 O ((af ω).trans (by rw [if_neg ω,if_neg ω,hB2]))) (aG O O (i5) (aR am O O O (Sn (aP H 0 cZ O O O ω ?_)))))))))))))
   intro w H
   try simp only [List.set,List.eraseIdx] at H
   refine Lt (ar 12 aJ κ ?_)
   intro w hsame
   replace H:=H.same hsame
   refine cF η (bW η (aG O O (ck (b:=3) ω) (aR am O O O (aD (v:=.int .u8 (pA A:Nat)) aQ O (H.cell 0 O ((af ω).trans (by rw [if_neg ω,if_neg ω,if_neg ω,hA3]))) (cF η (bW η (cx O O (iw (b:=1) ω) (aR am O O O (aD (v:=.int .u8 (pA B:Nat)) aQ O (H.cell 0 O ((af ω).trans (by rw [if_neg ω,if_neg ω,if_neg ω,hB3]))) (aG O O (i5) (aR am O O O (Sn (aP H 0 cZ O O O ω ?_)))))))))))))
   intro w H
   try simp only [List.set,List.eraseIdx] at H
   refine Ln (aF (tn ?_))
   rw [aW (g:=ap (M.set i (da A B))) (fun j _ => hset j),hst] at H
   refine Cr (ai η (ao O O (ck (b:=4) ω) (az O (Lt ?_))))
   exact ⟨px.length - (i+1),ω,i+1,O,ω,ω,h1,h6,h11,O,H⟩
  case neg =>
  obtain rfl:i=px.length:=ω
  rw [tP,← hs1] at H
  refine CF O ω (Cx (ax (ax (br (tn ?_)))))
  exact ⟨h1,h6,h11,H⟩
 case refine_2 =>
 clear h0 h1 h2 h6 h9 H ρ
 rintro ρ w4 ⟨h1,h6,h11,H⟩
 have hs32:∀ p ∈ mN px,p<2 ^ 32:=by
  rw [hs1]
  refine oD (P:=fun p => p<2 ^ 32) (fun acc p hp => ?_) px [] hp32 (by simp)
  unfold jL
  split
  ·exact hp
  ·exact (pO _ _).2.2.2.2
 have hsl2:(mN px).length=px.length:=by rw [hs1,fY];simp
 refine Cr (bU η (Lp (ll 1024 am O O O (Nat.le_refl _)) (aU gu η (kB H 1 Eh O O O O ?_))))
 intro w H
 simp only [List.set] at H
 refine Ln (aF (tn (Cy (Lp (fH (cs:=[.int .u32 (3:Nat),.int .i32 (wd:Nat),.int .u32 (sb:Nat),.slice (aT bp) 1024 1024]) jW h6 O (fun j hj => by rw [Nat.zero_add];exact (H.blk (i:=1) O).cell j)) (ai η (dG H 1 kE η O O O O (by simp [Value.oneCell']) ?_))))))
 intro w H
 try simp only [List.set,List.eraseIdx] at H
 refine az O (bI O (Lt (Ct ?_)))
 exact ju (cs:=[.int .u32 (3:Nat),.int .i32 (wd:Nat),.int .u32 (sb:Nat),.slice (aT bp) 1024 1024]) O jW h6 O (fun j hj => by rw [Nat.zero_add];exact (H.blk (i:=1) O).cell j) O O
  (.inl ⟨⟨3,wd,sb,mN px⟩,aq wd sb,R3,_,hdec,rfl,.inr ⟨by show 3≠2;omega,bp,_,_,rfl,Nat.le_refl _,hnewW,H.blk (i:=0) rfl,by show 4 * (mN px).length≤1024;omega,fun _ => rfl⟩,⟨by show 3≤3;omega,⟨hw,hw2⟩,fun h => absurd h (by show ¬ 3≤1;omega),fun _ => ⟨hsl,by show (mN px).length≤256;omega⟩,hs32⟩,ht1,ω,H.get (i:=2) rfl,H.frm⟩)
end Go.Proofs.YtmgemcffhbnpfaaGreatDoor
