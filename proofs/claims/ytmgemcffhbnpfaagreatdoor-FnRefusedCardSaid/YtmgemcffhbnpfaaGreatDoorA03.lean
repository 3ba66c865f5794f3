/-
  A picture is written and read: part 3 of 13 (Codes, Full, Build, Simple, CL, Par, HTP, Model, Nat, Auto, HT, Lz).
-/
import Derived.Test.YtmgemcffhbnpfaaGreatDoorA02
set_option linter.unusedVariables false
set_option linter.unusedSimpArgs false
set_option maxRecDepth 100000
namespace Go.Proofs.YtmgemcffhbnpfaaGreatDoor
open Go
def bM (k:IntKind) (f:Nat→Nat) (n:Nat):List Value:=(List.range n).map fun j => .int k (f j:Nat)
theorem ji (k:IntKind) (f:Nat→Nat) (n:Nat):(bM k f n).length=n:=by simp [bM]
theorem af {k:IntKind} {f:Nat→Nat} {n j:Nat} (h:j<n):(bM k f n)[j]?=some (.int k (f j:Nat)):=by simp [bM,h]
theorem jQ {k:IntKind} {f g:Nat→Nat} {n x v:Nat} (hv:g x=v) (h:∀ j,j<n→j≠x→g j=f j):(bM k f n).set x (.int k (v:Nat))=bM k g n:=by
 apply List.ext_getElem?
 intro j
 by_cases hj:j<n
 ·rw [af hj]
  by_cases e:j=x
  ·subst e
   rw [List.getElem?_set_self (by simpa [ji] using hj),hv]
  ·rw [List.getElem?_set_ne (Ne.symm e),af hj,h j hj e]
 ·rw [List.getElem?_eq_none (by rw [List.length_set,ji];omega),List.getElem?_eq_none (by rw [ji];omega)]
theorem aW {k:IntKind} {f g:Nat→Nat} {n:Nat} (h:∀ j,j<n→g j=f j):bM k f n=bM k g n:=by
 unfold bM
 exact List.map_congr_left fun j hj => by rw [h j (List.mem_range.1 hj)]
theorem fK (k:IntKind) (n:Nat):List.replicate n (.int k 0)=bM k (fun _ => 0) n:=by
 apply List.ext_getElem?
 intro j
 by_cases hj:j<n
 ·rw [af hj];simp [hj]
 ·rw [List.getElem?_eq_none (by simp;omega),List.getElem?_eq_none (by rw [ji];omega)]
def l7 (w:World) (k:IntKind) (b o:Nat) (ls:List Nat):Prop:=∀ j (h:j<ls.length),w.cell? ⟨b,o+j,none⟩=some (.int k (ls[j]:Nat))
theorem l7.keep {S:List Nat} {w w':World} {k:IntKind} {b o:Nat} {ls:List Nat} (h:l7 w k b o ls) (hf:cf S w w') (hb:b ∉ S):l7 w' k b o ls:=fun j hj => hf.cell (h j hj) hb
def dI (ls:List Nat):Nat→Nat
 | 0 => 0
 | k+1 => (dI ls k+ls.count k) * 2
def cS (ls:List Nat) (i:Nat):Nat:=if ls.getD i 0=0 then 0 else dI ls (ls.getD i 0)+(ls.take i).count (ls.getD i 0)
theorem qf (ls:List Nat) (k:Nat):ls.countP (·<k+1)=ls.countP (·<k)+ls.count k:=by
 induction ls with
 | nil => rfl
 | cons a l ih =>
  simp only [List.countP_cons,List.count_cons,ih,decide_eq_true_eq,beq_iff_eq]
  split <;> split <;> split <;> omega
theorem yG (ls:List Nat):∀ k,dI ls k≤2 ^ k * ls.countP (·<k)
 | 0 => by simp [dI]
 | k+1 => by
  have h:=yG ls k
  rw [qf,dI,Nat.pow_succ,Nat.mul_add]
  have h2:ls.count k≤2 ^ k * ls.count k:=Nat.le_mul_of_pos_left _ (Nat.two_pow_pos k)
  rw [show 2 ^ k * 2 * ls.countP (·<k)=2 ^ k * ls.countP (·<k) * 2 by rw [Nat.mul_right_comm],show 2 ^ k * 2 * ls.count k=2 ^ k * ls.count k * 2 by rw [Nat.mul_right_comm]]
  omega
theorem xA (ls:List Nat) (k:Nat) (hk:k≤15) (hn:ls.length≤65536):dI ls k+ls.count k≤2147483648:=by
 have h1:=yG ls k
 have h2:=qf ls k
 have h3:ls.countP (·<k+1)≤ls.length:=List.countP_le_length
 have h4:ls.count k≤2 ^ k * ls.count k:=Nat.le_mul_of_pos_left _ (Nat.two_pow_pos k)
 have h5:dI ls k+ls.count k≤2 ^ k * ls.countP (·<k+1):=by rw [h2,Nat.mul_add];omega
 have h6:2 ^ k≤2 ^ 15:=Nat.pow_le_pow_right ω hk
 have h7:2 ^ k * ls.countP (·<k+1)≤2 ^ 15 * 65536:=Nat.mul_le_mul h6 ω
 omega
theorem im (ls:List Nat) (i k:Nat):(ls.take i).count k≤ls.count k:=(List.take_sublist i ls).count_le k
theorem gt (ls:List Nat) (i:Nat) (h:i<ls.length) (k:Nat):(ls.take (i+1)).count k=(ls.take i).count k+if ls[i]=k then 1 else 0:=by
 rw [List.take_succ_eq_append_getElem h,List.count_append,List.count_singleton]
 simp only [beq_iff_eq]
def EC (ls:List Nat) (w:World) (e:Ending) (w':World):Prop :=
 ((∀ x ∈ ls,x≤15)∧∃ b,w.heap.size≤b∧e=.returned (.tuple #[.slice (aT b) ls.length ls.length,.nilIface])∧ff w' b (bM .u32 (cS ls) ls.length) 36∧cf [] w w') ∨
 ((∃ x ∈ ls,15<x)∧(∃ a,e=.returned (.tuple #[.slice none 0 0,.iface 149 (.pointer (some a))]))∧cf [] w w')
theorem yz (W:World) (b o c:Nat) (ls:List Nat) (gl:Gl W) (hr:l7 W .u32 b o ls) (hls:∀ x ∈ ls,x<2 ^ 32) (h0:0<ls.length) (hn:ls.length≤65536) :
  Calls Tryz.prog 90 #[.slice (some ⟨b,o,none⟩) ls.length c] W (EC ls W):=by
 have H:St W [] [] W:=St.nil W []
 obtain ⟨ae,hae⟩:=gl.badTree
 refine enter (m:=88) Tryz.func90 O Tryz.ntmps90 O (Cy (bI O (bI O (Lt (Cy (az O (Lt (Cs (Cy (bU O (bG aZ O (ai O (Lt (Cb ?_))))))))))))))
 refine Cl (fun m ρ w' => ∃ i M:Nat,m=ls.length - i∧i≤ls.length∧ρ 0=.slice (some ⟨b,o,none⟩) ls.length c∧ρ 16=.slice (some ⟨b,o,none⟩) ls.length c∧ρ 17=iT ls.length∧ρ 18=iT i∧ρ 4=.int .u32 (M:Nat) ∧
  (∀ x ∈ ls.take i,x≤M)∧(M=0∨M ∈ ls)∧St W [] [] w') ls.length
  ⟨0,0,rfl,ω,rfl,rfl,rfl,rfl,rfl,by simp,.inl rfl,H⟩ ?_
 clear H
 rintro m ρ w1 ⟨i,M,rfl,hi,h0,h16,h17,h18,h4,hM,hM2,H⟩
 refine Cy (bP h18 h17 (Lt (Cs ?_)))
 by_cases hlt:i<ls.length
 case pos =>
  have hMl:M<2 ^ 32:=by rcases hM2 with h | h;omega;exact hls _ h
  have hxl:=hls _ (List.getElem_mem hlt)
  obtain ⟨x,hx⟩:∃ x,x=ls[i]:=⟨_,rfl⟩
  have hcell:=hr i hlt
  rw [← hx] at hcell hxl
  refine CT O ω (Ck (tn (Cs (Cb (Cy (Lp (ci i aZ h16 h18 O hlt) (aC bD O (H.old hcell (by simp)) (az O (Lt (Cy (ai h4 (ai O (bP O O (Lt ?_))))))))))))))
  have hin:x ∈ ls:=hx ▸ List.getElem_mem hlt
  have htk:∀ y ∈ ls.take (i+1),y ∈ ls.take i∨y=x:=fun y hy => by
   rw [List.take_succ_eq_append_getElem hlt,List.mem_append,List.mem_singleton,← hx] at hy
   exact hy
  by_cases hMx:M<x
  case pos =>
   refine CT O ω (Cr (ai O (az O (Ln (aF (tn (Cr (ao (r:=((i+1:Nat):Int)) h18 O (by rw [fg ω];omega) (ai O (Lt ?_))))))))))
   exact ⟨ls.length - (i+1),ω,i+1,x,O,ω,h0,h16,h17,O,O,fun y hy => by
    rcases htk y hy with h | h
    ·have:=hM y h;omega
    ·omega,.inr hin,H⟩
  case neg =>
   refine CF O ω (Ck (aF (tn (Cr (ao (r:=((i+1:Nat):Int)) h18 O (by rw [fg ω];omega) (ai O (Lt ?_)))))))
   exact ⟨ls.length - (i+1),ω,i+1,M,O,ω,h0,h16,h17,O,h4,fun y hy => by
    rcases htk y hy with h | h
    ·exact hM y h
    ·omega,hM2,H⟩
 case neg =>
 obtain rfl:i=ls.length:=ω
 rw [List.take_length] at hM
 refine CF O ω (Cx (ax (ax (br (tn ?_)))))
 have hMl:M<2 ^ 32:=by rcases hM2 with h | h;omega;exact hls _ h
 by_cases h15:15<M
 case pos =>
  refine Cs (Cy (bU h0 (bG aZ O (Lp (bR O O (decide_eq_false ω)) (dh O (Lg (YI h4) (Lg (bE O O (decide_eq_true ω)) (ay O O (Lt ?_)))))))))
  refine Cp O ?_
  refine Cs (Cd aJ κ ?_)
  intro w hsame
  replace H:=H.same hsame
  refine aD nk O (H.old hae (by simp)) (Mb O (Mb O (Sn (tn (Ct (aE ?_))))))
  exact cr O O O (.inr ⟨⟨M,by rcases hM2 with h | h;omega;exact h,h15⟩,⟨_,rfl⟩,H.frm⟩)
 case neg =>
 have hle:∀ x ∈ ls,x≤15:=fun x hx => by have:=hM x hx;omega
 have hle2:∀ i (h:i<ls.length),ls[i]≤15:=fun i h => hle _ (List.getElem_mem h)
 refine Cs (Cy (bU h0 (bG aZ O (Lp (bR O O (decide_eq_false ω)) (dh O (Lg (YI h4) (Lg (bE O O (decide_eq_false ω)) (ay O O (Lt (Cq O (Ck (tn (Cy (Lp (CQ oI.1 κ v7) (cE H v7 O ?_)))))))))))))))
 intro w b7 hn7 hb7 H
 refine dG H 0 DW O O O O O δ ?_
 intro w H
 refine Lt ?_
 rw [fK] at H
 refine Cs (Cy (bU h0 (bG aZ O (ai O (Lt (Cb ?_))))))
 refine Cl (fun m ρ w' => ∃ i:Nat,m=ls.length - i∧i≤ls.length∧ρ 0=.slice (some ⟨b,o,none⟩) ls.length c∧ρ 7=pT b7∧ρ 36=.slice (some ⟨b,o,none⟩) ls.length c∧ρ 37=iT ls.length∧ρ 38=iT i ∧
  St W [] [aa b7 (bM .u32 (fun k => (ls.take i).count k) 16) 198] w') ls.length
  ⟨0,rfl,ω,h0,rfl,rfl,rfl,rfl,by simpa using H⟩ ?_
 clear H
 clear hM2 hMl hM h15 M h0 h16 h17 h18 h4 ρ
 rintro m ρ w2 ⟨i,rfl,hi,h0,h7,h36,h37,h38,H⟩
 refine Cy (bP h38 h37 (Lt ?_))
 by_cases hlt:i<ls.length
 case pos =>
  have hcell:=hr i hlt
  have hxl:=hle2 i hlt
  have hcs:=gt ls i hlt
  have hct:=im ls i
  have hcl:∀ k,ls.count k≤ls.length:=fun k => List.count_le_length
  obtain ⟨x,hx⟩:∃ x,x=ls[i]:=⟨_,rfl⟩
  rw [← hx] at hcell hxl hcs
  have hcx:=hct x
  have hclx:=hcl x
  refine Cs (CT O ω (Ck (tn (Cs (Cb (Cy (Lp (ci i aZ h36 h38 O hlt) (aC bD O (H.old hcell (by simp)) (az O (Lt (Cr (ai O (Lp (fo x oI h7 O O ω) (aC bD O (H.cell 0 O (by rw [Nat.zero_add];exact af ω)) (ao (r:=(((ls.take i).count x+1:Nat):Int)) O O (by rw [ew ω];omega) (Lp (fo x oI h7 O O ω) (bC H 0 dY O O O (by rw [Nat.zero_add];exact af ω) ?_)))))))))))))))))
  intro w H
  refine Ln (aF (tn ?_))
  rw [Nat.zero_add,List.set_cons_zero,jQ (g:=fun k => (ls.take (i+1)).count k) (by simp only [hcs];simp) (fun j hj hne => by rw [hcs];simp [Ne.symm hne])] at H
  refine Cr (ao (r:=((i+1:Nat):Int)) h38 O (by rw [fg ω];omega) (ai O (Lt ?_)))
  exact ⟨ls.length - (i+1),ω,i+1,O,ω,h0,h7,h36,h37,O,H⟩
 case neg =>
 obtain rfl:i=ls.length:=ω
 rw [List.take_length] at H
 have hsum:∀ k,k≤15→dI ls k+ls.count k≤2147483648:=fun k hk => xA ls k hk hn
 refine Cs (CF O ω (Cx (ax (ax (br (tn (Cy (Lp (CQ oI.1 κ v7) (cE H v7 O ?_)))))))))
 intro w b11 hn11 hb11 H
 refine az O (dG H 0 DW O O O O O δ ?_)
 intro w H
 refine Lt ?_
 rw [fK] at H
 refine Cs (Cy (az O (Lt (Cb ?_))))
 refine Cl (fun m ρ w' => ∃ i:Nat,m=16 - i∧1≤i∧i≤16∧ρ 0=.slice (some ⟨b,o,none⟩) ls.length c∧ρ 7=pT b7∧ρ 11=pT b11∧ρ 10=.int .u32 (dI ls (i - 1):Nat)∧ρ 12=iT i ∧
  St W [] [aa b11 (bM .u32 (fun k => if k<i then dI ls k else 0) 16) 198,aa b7 (bM .u32 (fun k => ls.count k) 16) 198] w') 15
  ⟨1,rfl,ω,ω,h0,h7,rfl,rfl,rfl,by
   rw [aW (g:=fun _ => 0)]
   ·exact H
   ·intro j hj
    by_cases hj1:j<1
    ·obtain rfl:j=0:=ω
     rfl
    ·rw [if_neg hj1]⟩ ?_
 clear H
 clear h0 h7 h36 h37 h38 ρ
 rintro m ρ w3 ⟨i,rfl,hi1,hi,h0,h7,h11,h10,h12,H⟩
 refine Cs (Cy (ai h12 (bP O O (Lt ?_))))
 by_cases hlt:i<16
 case pos =>
  have hs:=hsum (i - 1) ω
  have hc1:dI ls i=(dI ls (i - 1)+ls.count (i - 1)) * 2:=by
   obtain ⟨k,rfl⟩:∃ k,i=k+1:=⟨i - 1,ω⟩
   rfl
  have e1:=xM (a:=dI ls (i - 1)+ls.count (i - 1)) (n:=1) ω (by have:=hsum i ω;omega)
  rw [Nat.pow_one,← hc1] at e1
  refine CT O ω (Ck (tn (Cs (Cb (Cy (ai h10 (ai h12 (bw (r:=((i - 1:Nat):Int)) O O (by rw [fg ω];omega) (Lp (fo (i - 1) oI h7 O O ω) (aC bD O (H.cell 1 O (by rw [Nat.zero_add];exact af ω)) (ao (r:=((dI ls (i - 1)+ls.count (i - 1):Nat):Int)) O O (by rw [ew ω];omega) (Lp (ed O O ω e1) (az O (Lt (Cr (ai h12 (ai O ?_)))))))))))))))))
  refine Lp (fo i oI h11 O O ω) (bC H 0 dY O O O (by rw [Nat.zero_add];exact af ω) ?_)
  intro w H
  refine Ln (aF (tn ?_))
  rw [Nat.zero_add,List.set_cons_zero,jQ (g:=fun k => if k<i+1 then dI ls k else 0) (by rw [if_pos ω]) (fun j hj hne => by
   by_cases h:j<i
   ·rw [if_pos h,if_pos ω]
   ·rw [if_neg h,if_neg ω])] at H
  refine Cr (ai h12 (ao (r:=((i+1:Nat):Int)) O O (by rw [fg ω];omega) (az O (Lt ?_))))
  exact ⟨16 - (i+1),ω,i+1,O,ω,ω,h0,h7,h11,O,O,H⟩
 case neg =>
 obtain rfl:i=16:=ω
 rw [aW (g:=fun k => if k=0 then 0 else dI ls k+(ls.take 0).count k) (fun j hj => by
  rw [if_pos hj]
  by_cases h:j=0
  ·subst h;rfl
  ·rw [if_neg h];rfl)] at H
 refine CF O ω (Cx (ax (ax (br (tn (Cy (bU h0 (bG aZ O (iJ H gj ls.length ls.length O O O O (Nat.le_refl _) ω ω O ?_)))))))))
 intro w b13 hn13 hb13 H
 refine gS O (Lt ?_)
 rw [dz,fK] at H
 refine Cs (Cy (bU h0 (bG aZ O (ai O (Lt (Cb ?_))))))
 refine Cl (fun m ρ w' => ∃ i:Nat,m=ls.length - i∧i≤ls.length∧ρ 11=pT b11∧ρ 13=.slice (aT b13) ls.length ls.length∧ρ 66=.slice (some ⟨b,o,none⟩) ls.length c∧ρ 67=iT ls.length∧ρ 68=iT i ∧
  St W [] [aa b13 (bM .u32 (fun k => if k<i then cS ls k else 0) ls.length) 36,aa b11 (bM .u32 (fun k => if k=0 then 0 else dI ls k+(ls.take i).count k) 16) 198,aa b7 (bM .u32 (fun k => ls.count k) 16) 198] w') ls.length
  ⟨0,rfl,ω,h11,rfl,rfl,rfl,rfl,by
   rw [aW (g:=fun _ => 0)]
   ·exact H
   ·intro j hj
    rw [if_neg ω]⟩ ?_
 clear H
 clear h0 h7 h11 h10 h12 ρ
 rintro m ρ w4 ⟨i,rfl,hi,h11,h13,h66,h67,h68,H⟩
 refine Cy (bP h68 h67 (Lt ?_))
 by_cases hlt:i<ls.length
 case pos =>
  have hcell:=hr i hlt
  have hxl:=hle2 i hlt
  have hcs:=gt ls i hlt
  have hgd:ls.getD i 0=ls[i]:=by simp [hlt]
  obtain ⟨x,hx⟩:∃ x,x=ls[i]:=⟨_,rfl⟩
  rw [← hx] at hcell hxl hcs hgd
  have hct:=im ls i x
  have hs:=hsum x hxl
  refine Cs (CT O ω (Ck (tn (Cs (Cb (Cy (ai h68 (Lp (ci i aZ h66 h68 O hlt) (aC bD O (H.old hcell (by simp)) (az O (az O (Lt (Cy (ai O (Lp (e9 O O) (Ln ?_))))))))))))))))
  refine tn ?_
  by_cases hx0:0<x
  case pos =>
   have hx0':x≠0:=ω
   have hcode:cS ls i=dI ls x+(ls.take i).count x:=by unfold cS;rw [hgd,if_neg ω]
   refine CT O ω (Cy (bU h13 (ai O (ai O (Lp (fo x oI h11 O O ω) (aC (v:=.int .u32 ((dI ls x+(ls.take i).count x:Nat):Int)) bD O (H.cell 1 O (by rw [Nat.zero_add,af ω,if_neg hx0'])) (Lp (ci i aZ O O O hlt) (bC H 0 dY O O O (by rw [Nat.zero_add];exact af ω) ?_))))))))
   intro w H
   refine Lt ?_
   rw [Nat.zero_add,List.set_cons_zero,jQ (g:=fun k => if k<i+1 then cS ls k else 0) (by rw [if_pos ω,hcode]) (fun j hj hne => by
    by_cases h:j<i
    ·rw [if_pos h,if_pos ω]
    ·rw [if_neg h,if_neg ω])] at H
   refine Cr (ai O (Lp (fo x oI h11 O O ω) (aC (v:=.int .u32 ((dI ls x+(ls.take i).count x:Nat):Int)) bD O (H.cell 1 O (by rw [Nat.zero_add,af ω,if_neg hx0'])) (ao (r:=((dI ls x+(ls.take i).count x+1:Nat):Int)) O O (by rw [ew ω];omega) (Lp (fo x oI h11 O O ω) (bC H 1 dY O O O (by rw [Nat.zero_add];exact af ω) ?_))))))
   intro w H
   refine Ln (aF (tn ?_))
   rw [Nat.zero_add,List.set_cons_succ,List.set_cons_zero,jQ (g:=fun k => if k=0 then 0 else dI ls k+(ls.take (i+1)).count k) (by rw [if_neg hx0',hcs];simp;omega) (fun j hj hne => by rw [hcs];simp [Ne.symm hne])] at H
   refine Cr (ao (r:=((i+1:Nat):Int)) h68 O (by rw [fg ω];omega) (ai O (Lt ?_)))
   exact ⟨ls.length - (i+1),ω,i+1,O,ω,h11,h13,h66,h67,O,H⟩
  case neg =>
   have hcode:cS ls i=0:=by unfold cS;rw [hgd,if_pos ω]
   refine CF O ω (Ck (aF (tn (Cr (ao (r:=((i+1:Nat):Int)) h68 O (by rw [fg ω];omega) (ai O (Lt ?_)))))))
   rw [aW (g:=fun k => if k<i+1 then cS ls k else 0) (fun j hj => by
    by_cases h:j<i
    ·rw [if_pos h,if_pos ω]
    ·rw [if_neg h]
     by_cases h2:j<i+1
     ·obtain rfl:j=i:=ω
      rw [if_pos h2,hcode]
     ·rw [if_neg h2]),
    aW (f:=fun k => if k=0 then 0 else dI ls k+(ls.take i).count k) (g:=fun k => if k=0 then 0 else dI ls k+(ls.take (i+1)).count k) (fun j hj => by
     rw [hcs]
     by_cases h:j=0
     ·rw [if_pos h,if_pos h]
     ·rw [if_neg h,if_neg h,if_neg ω];rfl)] at H
   exact ⟨ls.length - (i+1),ω,i+1,O,ω,h11,h13,h66,h67,O,H⟩
 case neg =>
 obtain rfl:i=ls.length:=ω
 refine Cs (CF O ω (Cx (ax (ax (br (tn (Cy (bU h13 (gS O (bI O (Lt (Ct ?_))))))))))))
 rw [aW (g:=cS ls) (fun j hj => by rw [if_pos hj])] at H
 exact cr O O O (.inl ⟨hle,b13,hb13,O,H.blk (i:=0) rfl,H.frm⟩)
def PT.toT:PT→Option T
 | .e => none
 | .l s => some (.leaf s)
 | .n a b => match a.toT,b.toT with
  | some x,some y => some (.node x y)
  | _,_ => none
def PT.leaves:PT→Nat
 | .e => 0
 | .l _ => 1
 | .n a b => a.leaves+b.leaves
def PT.empties:PT→Nat
 | .e => 1
 | .l _ => 0
 | .n a b => a.empties+b.empties
theorem PT.count:∀ t:PT,t.leaves+t.empties=t.inner+1
 | .e => rfl
 | .l _ => rfl
 | .n a b => by have:=a.count;have:=b.count;simp only [PT.leaves,PT.empties,PT.inner];omega
theorem PT.full:∀ t:PT,t.empties=0→∃ T,t.toT=some T
 | .e,h => by simp [PT.empties] at h
 | .l s,h => ⟨_,rfl⟩
 | .n a b,h => by
  simp only [PT.empties] at h
  obtain ⟨x,hx⟩:=a.full ω
  obtain ⟨y,hy⟩:=b.full ω
  exact ⟨.node x y,by simp [PT.toT,hx,hy]⟩
def iR (t:PT) (p:aM):Prop:=∃ s,t.obs p=.leaf s 0
theorem mv:∀ (t:PT) (p q:aM) (s:Nat) (t':PT),t.ins q s=some t'→iR t p→iR t' p
 | .e,p,q,s,t',h,⟨s1,h1⟩ => by cases p <;> simp [PT.obs] at h1
 | .l s0,p,[],s,t',h,⟨s1,h1⟩ => by
  simp only [PT.ins,Option.some.injEq] at h
  subst h
  simp only [PT.obs,K_.leaf.injEq] at h1
  exact ⟨s,by simp [PT.obs,h1.2]⟩
 | .l s0,p,_ :: _,s,t',h,_ => by simp [PT.ins] at h
 | .n a b,[],q,s,t',h,⟨s1,h1⟩ => by simp [PT.obs] at h1
 | .n a b,_ :: _,[],s,t',h,_ => by simp [PT.ins] at h
 | .n a b,true :: p,true :: q,s,t',h,h1 => by
  simp only [PT.ins,Option.map_eq_some_iff] at h
  obtain ⟨u,hu,rfl⟩:=h
  exact mv b p q s u hu h1
 | .n a b,false :: p,false :: q,s,t',h,h1 => by
  simp only [PT.ins,Option.map_eq_some_iff] at h
  obtain ⟨u,hu,rfl⟩:=h
  exact mv a p q s u hu h1
 | .n a b,false :: p,true :: q,s,t',h,h1 => by
  simp only [PT.ins,Option.map_eq_some_iff] at h
  obtain ⟨u,hu,rfl⟩:=h
  exact h1
 | .n a b,true :: p,false :: q,s,t',h,h1 => by
  simp only [PT.ins,Option.map_eq_some_iff] at h
  obtain ⟨u,hu,rfl⟩:=h
  exact h1
theorem zc {t:PT} {p:aM} {s:Nat} {t':PT} (h:t.ins p s=some t'):iR t' p:=⟨s,by
 have:=eQ t p s t' h []
 simpa using this⟩
theorem je:∀ (t:PT) (p q:aM) (s:Nat) (t':PT),t.ins p s=some t'→iR t' q→q=p∨iR t q
 | .e,[],q,s,t',h,⟨s1,h1⟩ => by
  simp only [PT.ins,Option.some.injEq] at h
  subst h
  simp only [PT.obs,K_.leaf.injEq] at h1
  exact .inl (List.eq_nil_of_length_eq_zero h1.2)
 | .l _,[],q,s,t',h,⟨s1,h1⟩ => by
  simp only [PT.ins,Option.some.injEq] at h
  subst h
  simp only [PT.obs,K_.leaf.injEq] at h1
  exact .inl (List.eq_nil_of_length_eq_zero h1.2)
 | .n _ _,[],q,s,t',h,_ => by simp [PT.ins] at h
 | .l _,_ :: _,q,s,t',h,_ => by simp [PT.ins] at h
 | .e,true :: p,q,s,t',h,⟨s1,h1⟩ => by
  simp only [PT.ins,Option.map_eq_some_iff] at h
  obtain ⟨u,hu,rfl⟩:=h
  match q,h1 with
  | [],h1 => simp [PT.obs] at h1
  | true :: q,h1 =>
   rcases je .e p q s u hu ⟨s1,h1⟩ with h | h
   ·exact .inl (by rw [h])
   ·obtain ⟨s2,h2⟩:=h;cases q <;> simp [PT.obs] at h2
  | false :: q,h1 => cases q <;> simp [PT.obs] at h1
 | .e,false :: p,q,s,t',h,⟨s1,h1⟩ => by
  simp only [PT.ins,Option.map_eq_some_iff] at h
  obtain ⟨u,hu,rfl⟩:=h
  match q,h1 with
  | [],h1 => simp [PT.obs] at h1
  | false :: q,h1 =>
   rcases je .e p q s u hu ⟨s1,h1⟩ with h | h
   ·exact .inl (by rw [h])
   ·obtain ⟨s2,h2⟩:=h;cases q <;> simp [PT.obs] at h2
  | true :: q,h1 => cases q <;> simp [PT.obs] at h1
 | .n a b,true :: p,q,s,t',h,⟨s1,h1⟩ => by
  simp only [PT.ins,Option.map_eq_some_iff] at h
  obtain ⟨u,hu,rfl⟩:=h
  match q,h1 with
  | [],h1 => simp [PT.obs] at h1
  | true :: q,h1 =>
   rcases je b p q s u hu ⟨s1,h1⟩ with h | h
   ·exact .inl (by rw [h])
   ·exact .inr h
  | false :: q,h1 => exact .inr ⟨s1,h1⟩
 | .n a b,false :: p,q,s,t',h,⟨s1,h1⟩ => by
  simp only [PT.ins,Option.map_eq_some_iff] at h
  obtain ⟨u,hu,rfl⟩:=h
  match q,h1 with
  | [],h1 => simp [PT.obs] at h1
  | false :: q,h1 =>
   rcases je a p q s u hu ⟨s1,h1⟩ with h | h
   ·exact .inl (by rw [h])
   ·exact .inr h
  | true :: q,h1 => exact .inr ⟨s1,h1⟩
theorem jD:∀ (t:PT) (p:aM) (s:Nat) (t':PT),t.ins p s=some t'→¬ iR t p→t'.leaves=t.leaves+1
 | .e,[],s,t',h,hn => by
  simp only [PT.ins,Option.some.injEq] at h
  subst h
  rfl
 | .l s0,[],s,t',h,hn => absurd ⟨s0,rfl⟩ hn
 | .n _ _,[],s,t',h,_ => by simp [PT.ins] at h
 | .l _,_ :: _,s,t',h,_ => by simp [PT.ins] at h
 | .e,true :: p,s,t',h,hn => by
  simp only [PT.ins,Option.map_eq_some_iff] at h
  obtain ⟨u,hu,rfl⟩:=h
  have:=jD .e p s u hu (fun ⟨s2,h2⟩ => by cases p <;> simp [PT.obs] at h2)
  simp only [PT.leaves] at this ⊢
  omega
 | .e,false :: p,s,t',h,hn => by
  simp only [PT.ins,Option.map_eq_some_iff] at h
  obtain ⟨u,hu,rfl⟩:=h
  have:=jD .e p s u hu (fun ⟨s2,h2⟩ => by cases p <;> simp [PT.obs] at h2)
  simp only [PT.leaves] at this ⊢
  omega
 | .n a b,true :: p,s,t',h,hn => by
  simp only [PT.ins,Option.map_eq_some_iff] at h
  obtain ⟨u,hu,rfl⟩:=h
  have:=jD b p s u hu hn
  simp only [PT.leaves] at this ⊢
  omega
 | .n a b,false :: p,s,t',h,hn => by
  simp only [PT.ins,Option.map_eq_some_iff] at h
  obtain ⟨u,hu,rfl⟩:=h
  have:=jD a p s u hu hn
  simp only [PT.leaves] at this ⊢
  omega
theorem sC:∀ (m:Nat) (t:PT),(∀ q:aM,q.length=m→iR t q)→t.empties=0
 | 0,t,h => by
  obtain ⟨s,hs⟩:=h [] rfl
  cases t <;> simp [PT.obs] at hs
  rfl
 | m+1,.e,h => by
  obtain ⟨s,hs⟩:=h (List.replicate (m+1) true) (by simp)
  simp [PT.obs] at hs
 | m+1,.l s0,h => rfl
 | m+1,.n a b,h => by
  have h1:=sC m a (fun q hq => h (false :: q) (by simp [hq]))
  have h2:=sC m b (fun q hq => h (true :: q) (by simp [hq]))
  simp [PT.empties,h1,h2]
def nY (cap:Nat) (t:PT) (p:aM) (s:Nat):Option PT :=
 match t.ins p s with
 | some t' => if 2 * t'.inner+1≤cap then some t' else none
 | none => none
def eJ (cap:Nat):PT→List (aM × Nat)→Option PT
 | t,[] => some t
 | t,(p,s) :: r => match nY cap t p s with
  | some t' => eJ cap t' r
  | none => none
theorem gJ {cap:Nat} {t t':PT} {p:aM} {s:Nat} (h:nY cap t p s=some t'):t.ins p s=some t'∧2 * t'.inner+1≤cap:=by
 unfold nY at h
 split at h
 ·rename_i u hu
  split at h
  ·rename_i hc
   simp only [Option.some.injEq] at h
   subst h
   exact ⟨hu,hc⟩
  ·cases h
 ·cases h
theorem sW {cap:Nat}:∀ (ps:List (aM × Nat)) (t t':PT) (p:aM),eJ cap t ps=some t'→iR t p→iR t' p
 | [],t,t',p,h,hl => by simp only [eJ,Option.some.injEq] at h;exact h ▸ hl
 | (q,s) :: r,t,t',p,h,hl => by
  simp only [eJ] at h
  split at h
  ·rename_i u hu
   exact sW r u t' p h (mv t p q s u (gJ hu).1 hl)
  ·cases h
theorem xr {cap:Nat}:∀ (ps:List (aM × Nat)) (t t':PT),eJ cap t ps=some t'→∀ p ∈ ps.map (·.1),iR t' p
 | [],t,t',h,p,hp => by simp at hp
 | (q,s) :: r,t,t',h,p,hp => by
  simp only [eJ] at h
  split at h
  ·rename_i u hu
   rw [List.map_cons,List.mem_cons] at hp
   rcases hp with rfl | hp
   ·exact sW r u t' _ h (zc (gJ hu).1)
   ·exact xr r u t' h p hp
  ·cases h
theorem wR {cap:Nat}:∀ (ps:List (aM × Nat)) (t t':PT),eJ cap t ps=some t'→ps≠[]→2 * t'.inner+1≤cap
 | [],t,t',h,hne => absurd rfl hne
 | (q,s) :: r,t,t',h,_ => by
  simp only [eJ] at h
  split at h
  ·rename_i u hu
   cases r with
   | nil => simp only [eJ,Option.some.injEq] at h;exact h ▸ (gJ hu).2
   | cons x r => exact wR (x :: r) u t' h (by simp)
  ·cases h
theorem n6 {cap:Nat}:∀ (ps:List (aM × Nat)) (t t':PT),eJ cap t ps=some t'→(ps.map (·.1)).Nodup→(∀ p ∈ ps.map (·.1),¬ iR t p)→t'.leaves=t.leaves+ps.length
 | [],t,t',h,_,_ => by simp only [eJ,Option.some.injEq] at h;simp [h]
 | (q,s) :: r,t,t',h,hn,hl => by
  simp only [eJ] at h
  split at h
  ·rename_i u hu
   rw [List.map_cons,List.nodup_cons] at hn
   have h1:=jD t q s u (gJ hu).1 (hl q (by simp))
   have h2:=n6 r u t' h hn.2 (fun p hp hp2 => by
    rcases je t q p s u (gJ hu).1 hp2 with rfl | h3
    ·exact hn.1 hp
    ·exact hl p (List.mem_cons_of_mem _ hp) h3)
   simp only [List.length_cons]
   omega
  ·cases h
def pq (ls:List Nat) (i:Nat):Option (aM × Nat):=if ls.getD i 0=0 then none else some (aB (cS ls i) (ls.getD i 0),i)
def dw (ls:List Nat):List (aM × Nat):=(List.range ls.length).filterMap (pq ls)
def gK (ls:List Nat) (i:Nat):List (aM × Nat):=(List.range' i (ls.length - i)).filterMap (pq ls)
theorem kK (ls:List Nat):gK ls 0=dw ls:=by simp [gK,dw,List.range_eq_range']
theorem yh (ls:List Nat):gK ls ls.length=[]:=by simp [gK]
theorem nr {ls:List Nat} {i:Nat} (h:i<ls.length):gK ls i=if ls.getD i 0=0 then gK ls (i+1) else (aB (cS ls i) (ls.getD i 0),i) :: gK ls (i+1):=by
 unfold gK
 rw [show ls.length - i=(ls.length - (i+1))+1 by omega,List.range'_succ,List.filterMap_cons]
 unfold pq
 by_cases h0:ls.getD i 0=0
 ·rw [if_pos h0,if_pos h0]
 ·rw [if_neg h0,if_neg h0]
theorem lQ (ls:List Nat):∀ k i,k=ls.length - i→(gK ls i).length=(ls.drop i).countP (·≠0)
 | 0,i,h => by rw [List.drop_eq_nil_of_le ω];simp [gK,← h]
 | k+1,i,h => by
  have hi:i<ls.length:=ω
  rw [nr hi,List.drop_eq_getElem_cons hi,List.countP_cons]
  have ih:=lQ ls k (i+1) ω
  have hg:ls.getD i 0=ls[i]:=by simp [hi]
  rw [hg]
  by_cases h0:ls[i]=0
  ·simp [h0,ih]
  ·simp [h0,ih]
theorem pw (ls:List Nat):(dw ls).length=ls.countP (·≠0):=by
 rw [← kK,lQ ls _ 0 rfl,List.drop_zero]
theorem j4:∀ (l a b:Nat),aB a l=aB b l→a % 2 ^ l=b % 2 ^ l
 | 0,a,b,h => by simp [Nat.mod_one]
 | l+1,a,b,h => by
  simp only [aB,List.cons.injEq] at h
  have ih:=j4 l a b h.2
  apply Nat.eq_of_testBit_eq
  intro j
  have hj:=congrArg (fun x => x.testBit j) ih
  simp only [Nat.testBit_mod_two_pow] at hj ⊢
  by_cases hjl:j<l
  ·rw [decide_eq_true hjl,Bool.true_and,Bool.true_and] at hj
   rw [decide_eq_true ω,Bool.true_and,Bool.true_and,hj]
  ·by_cases hj2:j=l
   ·subst hj2;rw [h.1]
   ·rw [decide_eq_false ω];simp
theorem mP {l a b:Nat} (h:a % 2 ^ l=b % 2 ^ l):aB a l=aB b l:=by
 rw [← mo a l l (Nat.le_refl _),h,mo b l l (Nat.le_refl _)]
theorem rO:∀ q:aM,∃ x,x<2 ^ q.length∧aB x q.length=q
 | [] => ⟨0,by simp,rfl⟩
 | c :: q => by
  obtain ⟨x,hx,hp⟩:=rO q
  have hc:=Bool.toNat_le c
  refine ⟨c.toNat * 2 ^ q.length+x,?_,?_⟩
  ·rw [List.length_cons,Nat.pow_succ]
   have:c.toNat * 2 ^ q.length≤1 * 2 ^ q.length:=Nat.mul_le_mul_right _ hc
   omega
  ·simp only [List.length_cons,aB]
   have h1:aB (c.toNat * 2 ^ q.length+x) q.length=aB x q.length:=mP (by rw [Nat.add_comm,Nat.add_mul_mod_self_right])
   rw [h1,hp,Nat.mul_comm,Nat.testBit_two_pow_mul_add _ hx,if_neg ω,Nat.sub_self]
   cases c <;> rfl
theorem sI:∀ (ls:List Nat) (l c:Nat),c<ls.count l→∃ k,k<ls.length∧ls.getD k 0=l∧(ls.take k).count l=c
 | [],l,c,h => by simp at h
 | a :: ls,l,c,h => by
  by_cases ha:a=l
  ·subst ha
   cases c with
   | zero => exact ⟨0,by simp,by simp,by simp⟩
   | succ c =>
    rw [List.count_cons_self] at h
    obtain ⟨k,h1,h2,h3⟩:=sI ls a c ω
    exact ⟨k+1,by simp;omega,by simpa using h2,by simp [h3]⟩
  ·rw [List.count_cons_of_ne ha] at h
   obtain ⟨k,h1,h2,h3⟩:=sI ls l c h
   exact ⟨k+1,by simp;omega,by simpa using h2,by simp [List.count_cons_of_ne ha,h3]⟩
theorem z8 {ls:List Nat} {k:Nat} (hk:k<ls.length) (h0:ls.getD k 0≠0):aB (cS ls k) (ls.getD k 0) ∈ (dw ls).map (·.1):=by
 refine List.mem_map.2 ⟨(aB (cS ls k) (ls.getD k 0),k),List.mem_filterMap.2 ⟨k,List.mem_range.2 hk,by unfold pq;rw [if_neg h0]⟩,O⟩
theorem wC (ls:List Nat):((dw ls).map (·.1)).Nodup∨∃ l,∀ q:aM,q.length=l→q ∈ (dw ls).map (·.1):=by
 by_cases hd:((dw ls).map (·.1)).Nodup
 ·exact .inl hd
 ·refine .inr ?_
  have h:∃ i j,i<j∧j<ls.length∧ls.getD i 0≠0∧ls.getD j 0≠0∧aB (cS ls i) (ls.getD i 0)=aB (cS ls j) (ls.getD j 0):=by
   refine Classical.byContradiction fun hno => hd ?_
   unfold dw List.Nodup
   rw [List.pairwise_map,List.pairwise_filterMap]
   refine (List.pairwise_lt_range (n:=ls.length)).imp_of_mem ?_
   intro i j hi hj hij x hx y hy hxy
   rw [List.mem_range] at hi hj
   unfold pq at hx hy
   split at hx
   ·cases hx
   ·split at hy
    ·cases hy
    ·rename_i h1 h2
     simp only [Option.some.injEq] at hx hy
     subst hx hy
     exact hno ⟨i,j,hij,hj,h1,h2,hxy⟩
  obtain ⟨i,j,hij,hj,hi0,hj0,hp⟩:=h
  have hl:ls.getD i 0=ls.getD j 0:=by have:=congrArg List.length hp;simpa [bV] using this
  obtain ⟨l,hle⟩:∃ l,l=ls.getD i 0:=⟨_,rfl⟩
  rw [← hl,← hle] at hp
  have hm:=j4 l _ _ hp
  have hci:cS ls i=dI ls l+(ls.take i).count l:=by unfold cS;rw [if_neg hi0,← hle]
  have hcj:cS ls j=dI ls l+(ls.take j).count l:=by unfold cS;rw [if_neg hj0,← hl,← hle]
  have h1:(ls.take (i+1)).count l≤(ls.take j).count l:=(List.take_sublist_take_left ω).count_le l
  have hgi:ls[i]'ω=l:=by rw [hle];simp [show i<ls.length by omega]
  rw [gt ls i ω l,hgi,if_pos rfl] at h1
  have h2:=im ls j l
  rw [hci,hcj] at hm
  have h3:2 ^ l≤(ls.take j).count l - (ls.take i).count l:=by
   refine Nat.le_of_dvd ω ?_
   rw [show (ls.take j).count l - (ls.take i).count l=(dI ls l+(ls.take j).count l) - (dI ls l+(ls.take i).count l) by omega]
   exact Nat.dvd_of_mod_eq_zero (Nat.sub_mod_eq_zero_of_mod_eq hm.symm)
  refine ⟨l,fun q hq => ?_⟩
  obtain ⟨x,hx,hxp⟩:=rO q
  rw [hq] at hx hxp
  have h2l:=Nat.two_pow_pos l
  obtain ⟨c,hc,hcx⟩:∃ c,c<2 ^ l∧(dI ls l+c) % 2 ^ l=x:=by
   refine ⟨(x+(2 ^ l - dI ls l % 2 ^ l)) % 2 ^ l,Nat.mod_lt _ h2l,?_⟩
   have hlt:=Nat.mod_lt (dI ls l) h2l
   rw [Nat.add_mod_mod,← Nat.mod_add_mod,show dI ls l % 2 ^ l+(x+(2 ^ l - dI ls l % 2 ^ l))=x+2 ^ l by omega,Nat.add_mod_right,Nat.mod_eq_of_lt hx]
  obtain ⟨k,hk,hkl,hkc⟩:=sI ls l c ω
  have hk0:ls.getD k 0≠0:=by rw [hkl,hle];exact hi0
  have:=z8 hk hk0
  rw [hkl] at this
  have hck:cS ls k=dI ls l+c:=by unfold cS;rw [if_neg hk0,hkl,hkc]
  rw [hck] at this
  rw [← hxp]
  rw [show aB x l=aB (dI ls l+c) l from mP (by rw [hcx,Nat.mod_eq_of_lt hx])]
  exact this
theorem AJ {ls:List Nat} {t:PT} (hK:0<ls.countP (·≠0)) (h:eJ (2 * ls.countP (·≠0) - 1) .e (dw ls)=some t):∃ T,t.toT=some T:=by
 refine t.full ?_
 have hlen:=pw ls
 have hne:dw ls≠[]:=fun e => by rw [e,List.length_nil] at hlen;omega
 have hcap:=wR _ _ _ h hne
 have hcnt:=t.count
 rcases wC ls with hn | ⟨l,hl⟩
 ·have h1:=n6 _ _ _ h hn (fun p _ ⟨s,hs⟩ => by cases p <;> simp [PT.obs] at hs)
  simp only [PT.leaves] at h1
  omega
 ·exact sC l t fun q hq => xr _ _ _ h q (hl q hq)
def j7 (ls:List Nat):Nat:=(List.range ls.length).foldl (fun a i => if ls.getD i 0=0 then a else i) 0
def dX (ls:List Nat):Option T :=
 if ls.countP (·≠0)=0 then none
 else if ls.countP (·≠0)=1 then some (.leaf (j7 ls))
 else if ls.any (15<·) then none
 else (eJ (2 * ls.countP (·≠0) - 1) .e (dw ls)).bind PT.toT
theorem mj.toT {ns:List (Nat × Int)}:∀ {t:PT} {i:Nat} {A:List Nat} {u:T},mj ns i t A→t.toT=some u→sE ns i u
 | .e,i,A,u,_,h => by cases h
 | .l s,i,A,u,⟨_,h1⟩,h => by
  simp only [PT.toT,Option.some.injEq] at h
  subst h
  exact h1
 | .n a b,i,A,u,⟨s,c,B,C,hn,hc,ha,hb,hA⟩,h => by
  simp only [PT.toT] at h
  split at h
  ·rename_i x y hx hy
   simp only [Option.some.injEq] at h
   subst h
   exact ⟨s,c,hn,hc,ha.toT hx,hb.toT hy⟩
  ·cases h
theorem sm:∀ {t:PT} {u:T} (q:aM),t.toT=some u→(∀ s r,u.adv q=(.leaf s,r)→t.obs q=.leaf s r.length)∧(∀ x y r,u.adv q=(.node x y,r)→t.obs q=.inner)
 | .e,u,q,h => by cases h
 | .l s,u,q,h => by
  simp only [PT.toT,Option.some.injEq] at h
  subst h
  exact ⟨fun s' r h => by simp only [T.adv,Prod.mk.injEq,T.leaf.injEq] at h;obtain ⟨rfl,rfl⟩:=h;rfl,fun x y r h => by simp [T.adv] at h⟩
 | .n a b,u,q,h => by
  simp only [PT.toT] at h
  split at h
  ·rename_i x y hx hy
   simp only [Option.some.injEq] at h
   subst h
   match q with
   | [] => exact ⟨fun s r h => by simp [T.adv] at h,fun _ _ _ _ => rfl⟩
   | true :: q => exact sm q hy
   | false :: q => exact sm q hx
  ·cases h
theorem mj.adv_node {ns:List (Nat × Int)}:∀ {t:PT} {i:Nat} {A:List Nat} {u:T} (q:aM) {x y:T} {r:aM},mj ns i t A→t.toT=some u→u.adv q=(.node x y,r)→sE ns (jk ns i q) (.node x y)
 | .e,i,A,u,q,x,y,r,_,h,_ => by cases h
 | .l s,i,A,u,q,x,y,r,_,h,ha => by
  simp only [PT.toT,Option.some.injEq] at h
  subst h
  simp [T.adv] at ha
 | .n a b,i,A,u,q,x,y,r,hr,h,hadv => by
  have hrep:=hr.toT h
  obtain ⟨s,c,B,C,hn,hc,ha,hb,hA⟩:=hr
  simp only [PT.toT] at h
  split at h
  ·rename_i x' y' hx hy
   simp only [Option.some.injEq] at h
   subst h
   match q with
   | [] =>
    simp only [T.adv,Prod.mk.injEq] at hadv
    obtain ⟨h1,_⟩:=hadv
    rw [← h1]
    exact hrep
   | true :: q =>
    have:jk ns i (true :: q)=jk ns (c+1) q:=by simp [jk,hn]
    rw [this]
    exact hb.adv_node q hy hadv
   | false :: q =>
    have:jk ns i (false :: q)=jk ns c q:=by simp [jk,hn]
    rw [this]
    exact ha.adv_node q hx hadv
  ·cases h
theorem It.toT {ns:List (Nat × Int)} {t:PT} {u:T} {lut:Nat→Nat} {A:List Nat} (h:It ns t lut) (hr:mj ns 0 t A) (hu:t.toT=some u):Kr ns u lut:=by
 intro x hx
 have hl:=h x hx
 obtain ⟨h1,h2⟩:=sm (aV x 7) hu
 cases ha:u.adv (aV x 7) with
 | mk v r =>
 cases v with
 | leaf s => rw [h1 s r ha] at hl;exact hl
 | node a b => rw [h2 a b r ha] at hl;exact ⟨_,hl,hr.adv_node _ hu ha⟩
structure li (B:Nat) (w:World) (cs:List Value) (off:Nat) (u:T):Prop where
 ex:∃ bn cap ns lut len,B≤bn∧ff w bn (c_ ns) 181∧HC cs off bn len cap lut∧len≤ns.length∧len≤65536∧sE (ns.take len) 0 u∧Kr (ns.take len) u lut
theorem li.keep {B:Nat} {w w':World} {S:List Nat} {cs:List Value} {off:Nat} {u:T} (h:li B w cs off u) (hf:cf S w w') (hS:∀ s ∈ S,s<B):li B w' cs off u:=by
 obtain ⟨bn,cap,ns,lut,len,h1,h2,h3⟩:=h.ex
 exact ⟨bn,cap,ns,lut,len,h1,hf.blk h2 (fun hm => by have:=hS _ hm;omega),h3⟩
theorem li.low {B B':Nat} {w:World} {cs:List Value} {off:Nat} {u:T} (h:li B w cs off u) (hB:B'≤B):li B' w cs off u:=by
 obtain ⟨bn,cap,ns,lut,len,h1,h2,h3⟩:=h.ex
 exact ⟨bn,cap,ns,lut,len,ω,h2,h3⟩
theorem li.same {B:Nat} {w:World} {cs cs':List Value} {off off':Nat} {u:T} (h:li B w cs off u) (hs:d_ cs cs' off') (ho:off+129≤off'∨off'+129≤off):li B w cs' off u:=by
 obtain ⟨bn,cap,ns,lut,len,h1,h2,h3,h4⟩:=h.ex
 exact ⟨bn,cap,ns,lut,len,h1,h2,⟨by rw [hs.2 off ω];exact h3.nodes,fun x hx => by rw [hs.2 _ ω];exact h3.look x hx⟩,h4⟩
theorem li.ht {B:Nat} {w:World} {cs:List Value} {off:Nat} {u:T} {bg:Nat} {tG:TypeId} {S:List Nat} (h:li B w cs off u) (hb:ff w bg cs tG) (hg:bg ∉ S) (hS:∀ s ∈ S,s<B):oc S w bg off u:=by
 obtain ⟨bn,cap,ns,lut,len,h1,h2,h3,h4,h5,h6,h7⟩:=h.ex
 have hlen:(ns.take len).length=len:=by rw [List.length_take];omega
 have hget:∀ (i:Nat) (n:Nat × Int),(ns.take len)[i]?=some n→ns[i]?=some n:=fun i n hn => by
  rw [List.getElem?_take] at hn
  split at hn
  ·exact hn
  ·cases hn
 refine ⟨bn,cap,ns.take len,lut,?_,fun i n hn => ?_,fun i n hn => ?_,fun x hx => hb.cellv (h3.look x hx),h6,h7,ω,hg,fun hm => by have:=hS _ hm;omega⟩
 ·rw [hlen];exact hb.cellv h3.nodes
 ·rw [Nat.zero_add];exact h2.cellv (lJ ns i n (hget i n hn))
 ·rw [Nat.zero_add];exact h2.cellv (io ns i n (hget i n hn))
theorem tH {B:Nat} {w:World} {cs:List Value} {off bn len cap:Nat} {ns:List (Nat × Int)} {lut lut2:Nat→Nat} {t:PT} {u:T} (hB:B≤bn) (hn:ff w bn (c_ ns) 181) (hc:HC cs off bn len cap lut2) (hl:∀ x,x<128→lut2 x=lut x) (hb:B9 ns len t lut) (h6:len≤65536) (hu:t.toT=some u):li B w cs off u:=by
 obtain ⟨A,hr,hnd,hlt,hcount⟩:=hb.rep
 have hr2:mj (ns.take len) 0 t A:=hr.congr fun k hk => by rw [List.getElem?_take,if_pos (hlt k hk)]
 have hlut:It (ns.take len) t lut:=fun x hx => by
  have h:=hb.lutP x hx
  cases ho:t.obs (aV x 7) with
  | leaf s k => rw [ho] at h;exact h
  | empty => rw [ho] at h;exact h
  | inner =>
   rw [ho] at h
   have:=hr2.idx_same (ns':=ns) (aV x 7) ho (fun k m hk _ => ⟨m.1,by
    rw [List.getElem?_take] at hk
    split at hk
    ·exact hk
    ·cases hk⟩)
   show lut x=_
   rw [← this]
   exact h
 refine ⟨bn,cap,ns,lut2,len,hB,hn,hc,hb.len_le,h6,hr2.toT hu,fun x hx => ?_⟩
 rw [hl x hx]
 exact hlut.toT hr2 hu x hx
theorem D4 (n:Nat):dk n [.int .u32 0,.int .i32 0]=c_ (List.replicate n (0,0)):=by
 induction n with
 | zero => rfl
 | succ n ih => simp only [dk,List.replicate_succ,List.flatten_cons,gO] at ih ⊢;rw [ih];rfl
theorem y0 {n:Nat} (hn:0<n):B9 (List.replicate n (0,0)) 1 .e (fun _ => 0) :=
 ⟨⟨[0],⟨rfl,0,by simp [hn]⟩,by simp,by simp,rfl⟩,fun k _ hk => by simp at hk;simp [hk],by simp;omega,fun x _ => by
  show CY _ _ _ .empty
  rfl⟩
theorem sA {ls:List Nat} (h:0<ls.length):j7 ls<ls.length:=by
 have key:∀ n,n≤ls.length→(List.range n).foldl (fun a i => if ls.getD i 0=0 then a else i) 0<ls.length:=by
  intro n
  induction n with
  | zero => intro _;exact h
  | succ n ih =>
   intro hn
   rw [List.range_succ,List.foldl_append,List.foldl_cons,List.foldl_nil]
   split
   ·exact ih ω
   ·omega
 exact key _ (Nat.le_refl _)
def rj (bg off:Nat) (cs:List Value) (tG:TypeId) (r:Option T) (w:World) (e:Ending) (w':World):Prop :=
 (∃ u cs',r=some u∧e=.returned .nilIface∧ff w' bg cs' tG∧d_ cs cs' off∧li w.heap.size w' cs' off u∧cf [bg] w w') ∨
 (r=none∧(∃ a,e=.returned (.iface 149 (.pointer (some a))))∧cf [bg] w w')
structure Ep (cs:List Value) (off:Nat):Prop where
 nodes:∃ v,cs[off]?=some v
 look:∀ x,x<128→cs[off+1+x]?=some (.int .u32 0)
theorem Ep.hc {cs:List Value} {off:Nat} (h:Ep cs off) (bn len cap:Nat):HC (cs.set off (.slice (aT bn) len cap)) off bn len cap (fun _ => 0):=by
 obtain ⟨v,hv⟩:=h.nodes
 have hl:off<cs.length:=(List.getElem?_eq_some_iff.1 hv).1
 exact ⟨by simp [hl],fun x hx => by rw [List.getElem?_set_ne ω];exact h.look x hx⟩
theorem Ep.same {cs cs':List Value} {off off':Nat} (h:Ep cs off) (hs:d_ cs cs' off') (ho:off+129≤off'∨off'+129≤off):Ep cs' off :=
 ⟨by rw [hs.2 off ω];exact h.nodes,fun x hx => by rw [hs.2 _ ω];exact h.look x hx⟩
theorem uk (W:World) (bg off:Nat) (cs:List Value) (tG:TypeId) (b o c:Nat) (ls:List Nat) (gl:Gl W) (hbg:ff W bg cs tG) (hraw:Ep cs off) (hr:l7 W .u32 b o ls) (hbb:b≠bg) (hg1:nG≤bg)
  (hls:∀ x ∈ ls,x<2 ^ 32) (hn:ls.length≤30000) :
  Calls Tryz.prog 88 #[.pointer (some ⟨bg,off,none⟩),.slice (some ⟨b,o,none⟩) ls.length c] W (rj bg off cs tG (dX ls) W):=by
 have H:St W [bg] [aa bg cs tG] W:=gQ hbg
 have hS:rC [bg]:=fun x hx => by simp at hx;subst hx;exact hg1
 obtain ⟨ae,hae⟩:=gl.badTree
 obtain ⟨vold,hold⟩:=hraw.nodes
 have hbS:b ∉ [bg]:=by simpa using hbb
 refine enter (m:=79) Tryz.func88 O Tryz.ntmps88 O (Cy (bI O (Lt (Cy (az O (az O (Lt (Cs (Cy (bU O (bG aZ O (ai O (Lt (Cb ?_))))))))))))))
 refine Cl (fun m ρ w' => ∃ i:Nat,m=ls.length - i∧i≤ls.length∧ρ 0=.pointer (some ⟨bg,off,none⟩)∧ρ 1=.slice (some ⟨b,o,none⟩) ls.length c∧ρ 14=.slice (some ⟨b,o,none⟩) ls.length c∧ρ 15=iT ls.length∧ρ 16=iT i ∧
  ρ 5=.int .u32 ((ls.take i).countP (·≠0):Nat)∧ρ 6=.int .u32 ((List.range i).foldl (fun a i => if ls.getD i 0=0 then a else i) 0:Nat)∧St W [bg] [aa bg cs tG] w') ls.length
  ⟨0,rfl,ω,rfl,rfl,rfl,rfl,rfl,rfl,rfl,H⟩ ?_
 clear H
 rintro m ρ w1 ⟨i,rfl,hi,h0,h1,h14,h15,h16,h5,h6,H⟩
 refine Cy (bP h16 h15 (Lt ?_))
 by_cases hlt:i<ls.length
 case pos =>
  have hcell:=hr i hlt
  have hgd:ls.getD i 0=ls[i]:=by simp [hlt]
  have hxl:=hls _ (List.getElem_mem hlt)
  have hcp:(ls.take (i+1)).countP (·≠0)=(ls.take i).countP (·≠0)+if ls[i]=0 then 0 else 1:=by
   rw [List.take_succ_eq_append_getElem hlt,List.countP_append]
   by_cases h:ls[i]=0 <;> simp [h]
  have hcl:(ls.take i).countP (·≠0)≤ls.length:=Nat.le_trans List.countP_le_length (by simp;omega)
  have hfo:(List.range (i+1)).foldl (fun a i => if ls.getD i 0=0 then a else i) 0=if ls[i]=0 then (List.range i).foldl (fun a i => if ls.getD i 0=0 then a else i) 0 else i:=by
   rw [List.range_succ,List.foldl_append,List.foldl_cons,List.foldl_nil,hgd]
  obtain ⟨x,hx⟩:∃ x,x=ls[i]:=⟨_,rfl⟩
  rw [← hx] at hcell hcp hfo hxl
  generalize (ls.take i).countP (·≠0)=K at *
  generalize (List.range i).foldl (fun a i => if ls.getD i 0=0 then a else i) 0=L at *
  refine Cs (CT O ω (Ck (tn (Cs (Cb (Cy (ai h16 (Lp (ci i aZ h14 h16 O hlt) (aC bD O (H.old hcell hbS) (az O (az O (Lt (Cy (ai O (Lp (mh O O) (Ln ?_))))))))))))))))
  refine tn ?_
  by_cases hx0:x=0
  case neg =>
   rw [if_neg hx0] at hcp hfo
   refine CT O ω (Cy (ai h5 (ao (r:=((K+1:Nat):Int)) O O (by rw [ew ω];omega) (az O (Lt (Cr (ai O (cm jV O (ew ω) (az O (Ln (aF (tn (Cr (ao (r:=((i+1:Nat):Int)) h16 O (by rw [fg ω];omega) (ai O (Lt ?_))))))))))))))))
   exact ⟨ls.length - (i+1),ω,i+1,O,ω,h0,h1,h14,h15,O,by rw [hcp];rfl,by rw [hfo];rfl,H⟩
  case pos =>
   rw [if_pos hx0] at hcp hfo
   refine CF O ω (Ck (aF (tn (Cr (ao (r:=((i+1:Nat):Int)) h16 O (by rw [fg ω];omega) (ai O (Lt ?_)))))))
   exact ⟨ls.length - (i+1),ω,i+1,O,ω,h0,h1,h14,h15,O,by rw [hcp];exact h5,by rw [hfo];exact h6,H⟩
 case neg =>
 obtain rfl:i=ls.length:=ω
 rw [List.take_length] at h5
 have hcl:ls.countP (·≠0)≤ls.length:=List.countP_le_length
 have hlast:(List.range ls.length).foldl (fun a i => if ls.getD i 0=0 then a else i) 0=j7 ls:=rfl
 rw [hlast] at h6
 have hK:dX ls=if ls.countP (·≠0)=0 then none else if ls.countP (·≠0)=1 then some (.leaf (j7 ls)) else if ls.any (15<·) then none else (eJ (2 * ls.countP (·≠0) - 1) .e (dw ls)).bind PT.toT:=rfl
 have hfull:=@AJ ls
 generalize ls.countP (·≠0)=K at *
 refine Cs (CF O ω (Cx (ax (ax (br (tn (Cs (Cy (ai h5 (bF O O (Lt ?_)))))))))))
 by_cases hK0:K=0
 case pos =>
  refine CT O ω (Cy (aC nk O (H.old hae (hS.g _ O)) (bI O (Lt (Ct (aE ?_))))))
  rw [if_pos hK0] at hK
  exact ak O O (.inr ⟨hK,⟨_,O⟩,H.frm⟩)
 case neg =>
 rw [if_neg hK0] at hK
 refine CF O ω (Ck (tn (Cy (bH h0 (ai h5 (Lp (cX (r:=((2 * K:Nat):Int)) O O (by rw [ew ω];omega)) (bw (r:=((2 * K - 1:Nat):Int)) O O (by rw [ew ω];omega) (iJ H Gi 1 (2 * K - 1) O O O O ω ω ω O ?_))))))))
 intro w bn hn1 hn2 H
 refine aK O (aU eS O (kB H 1 Dd O O O hold ?_))
 intro w H
 refine Lt ?_
 rw [D4] at H
 have hgn:nG≤bn:=Nat.le_trans gl.high hn2
 have hne:bg≠bn:=by have:=hbg.lt;omega
 have hc1:=hraw.hc bn 1 (2 * K - 1)
 have hs1:d_ cs (cs.set off (.slice (aT bn) 1 (2 * K - 1))) off:=d_.set cs off off _ (Nat.le_refl _) ω
 have hbld:=y0 (n:=2 * K - 1) ω
 replace H:St W [bg] [aa bn (c_ (List.replicate (2 * K - 1) (0,0))) 181,aa bg (cs.set off (.slice (aT bn) 1 (2 * K - 1))) tG] w:=H
 generalize cs.set off (.slice (aT bn) 1 (2 * K - 1))=cs1 at *
 have hbgB:∀ s ∈ [bg,bn],s ∈ [bg]∨W.heap.size≤s:=by simp [hn2]
 refine Cs (Cy (ai h5 (bF O O (Lt ?_))))
 by_cases hK1:K=1
 case pos =>
  subst hK1
  rw [if_pos rfl] at hK
  have hll:=sA (ls:=ls) ω
  generalize j7 ls=L at *
  refine CT O ω (Cs (Cy (bU h1 (bG aZ O (ai h6 (cm jT O (fg ω) (Lp (uz O O (decide_eq_false ω)) (Lt (Cq O (Ck (tn (Cy (bH h0 (ai h6 (aS O zW (oN w bg off bn 1 1 cs1 _ _ (List.replicate (2 * 1 - 1) (0,0)) (fun _ => 0) .e L 0 0 (gl.keep H.frm hS) (H.blk (i:=1) O) (H.blk (i:=0) O) hc1 hbld (by simp) ω ω ω ω ω hne hg1 hgn) O ?_)))))))))))))))
  rintro e w2 hI
  rcases hI with ⟨t',cs',ns',len',lut',hins,hcap,rfl,hbg',hbn',hc',hb',hnl,hso,hfr⟩ | ⟨hno,_,hfr⟩
  rotate_left
  ·exact absurd (hno (.l L) O) (by simp [PT.inner])
  refine ⟨_,O,?_⟩
  refine bI O (Lt (Ct (aE ?_)))
  simp only [aB,PT.ins,Option.some.injEq] at hins
  subst hins
  exact ak O O (.inl ⟨.leaf L,cs',hK,O,hbg',hs1.trans hso,tH (hn2) hbn' hc' (fun _ _ => rfl) hb' (by have:=hb'.len_le;omega) rfl,H.frm.then hfr hbgB⟩)
 case neg =>
 rw [if_neg hK1] at hK
 refine CF O ω (Ck (tn ?_))
 by_cases hbig:ls.any (15<·)=true
 case pos =>
  rw [if_pos hbig] at hK
  rw [List.any_eq_true] at hbig
  obtain ⟨xb,hxb,hxb2⟩:=hbig
  simp only [decide_eq_true_eq] at hxb2
  refine Cy (bU h1 (aS O GQ (yz w b o c ls (gl.keep H.frm hS) (hr.keep H.frm hbS) hls ω ω) O ?_))
  rintro e w2 hC
  rcases hC with ⟨h,_⟩ | ⟨_,⟨a,rfl⟩,hfr⟩
  ·have:=h xb hxb;omega
  refine ⟨_,O,?_⟩
  refine gr O (av O O (av O O (gS O (bI O (Lt (Cs (Cy (db O (Lp (bu aX O O) (Lt ?_))))))))))
  refine Cp O ?_
  refine Cy (db O (bI O (Lt (Ct (aE ?_)))))
  exact ak O O (.inr ⟨hK,⟨_,O⟩,H.frm.then hfr (by simp)⟩)
 case neg =>
 rw [if_neg hbig] at hK
 have hall15:∀ x ∈ ls,x≤15:=fun x hx => by
  refine Classical.byContradiction fun h => hbig (List.any_eq_true.2 ⟨x,hx,?_⟩)
  simp only [decide_eq_true_eq]
  omega
 refine Cy (bU h1 (aS O GQ (yz w b o c ls (gl.keep H.frm hS) (hr.keep H.frm hbS) hls ω ω) O ?_))
 rintro e w2 hC
 rcases hC with ⟨_,bc,hbc,rfl,hblk,hfr⟩ | ⟨⟨x,hx,hx2⟩,_⟩
 rotate_left
 ·have:=hall15 x hx;omega
 replace H:=H.add (r:=aa bc (bM .u32 (cS ls) ls.length) 36) hfr hblk ⟨cw _ _ _,dW _ _ _⟩ (by simp [aa,hbc])
 refine ⟨_,O,?_⟩
 refine gr O (av O O (av O O (gS O (bI O (Lt (Cs (Cy (db O (Lp (bj aX O O) (Lt (Cq O (Ck (tn (Cs (Cy (bU h1 (bG aZ O ?_)))))))))))))))))
 refine ai O (Lt (Cb ?_))
 refine Cl (fun m ρ w' => ∃ (i:Nat) (cs2:List Value) (ns2:List (Nat × Int)) (len2:Nat) (lut2:Nat→Nat) (t2:PT),m=ls.length - i∧i≤ls.length∧ρ 0=.pointer (some ⟨bg,off,none⟩)∧ρ 9=.slice (aT bc) ls.length ls.length∧ρ 57=.slice (some ⟨b,o,none⟩) ls.length c∧ρ 58=iT ls.length∧ρ 59=iT i ∧
  eJ (2 * K - 1) .e (dw ls)=eJ (2 * K - 1) t2 (gK ls i)∧B9 ns2 len2 t2 lut2∧HC cs2 off bn len2 (2 * K - 1) lut2∧ns2.length=2 * K - 1∧d_ cs cs2 off ∧
  St W [bg] [aa bc (bM .u32 (cS ls) ls.length) 36,aa bn (c_ ns2) 181,aa bg cs2 tG] w') ls.length
  ⟨0,cs1,_,1,_,.e,rfl,ω,h0,rfl,rfl,rfl,rfl,by rw [kK],hbld,hc1,by simp,hs1,H⟩ ?_
 clear H hbld hc1 hs1 hblk hfr h5 h6 h14 h15 h16 h1 h0 ρ
 rintro m ρ w3 ⟨i,cs2,ns2,len2,lut2,t2,rfl,hi,h0,h9,h57,h58,h59,hins,hbld,hc1,hnl,hs1,H⟩
 refine Cy (bP h59 h58 (Lt ?_))
 by_cases hlt:i<ls.length
 case pos =>
  have hcell:=hr i hlt
  have hgd:ls.getD i 0=ls[i]:=by simp [hlt]
  have hsucc:=nr hlt
  rw [hgd] at hsucc
  obtain ⟨x,hx⟩:∃ x,x=ls[i]:=⟨_,rfl⟩
  rw [← hx] at hcell hsucc
  refine Cs (CT O ω (Ck (tn (Cs (Cb (Cy (ai h59 (Lp (ci i aZ h57 h59 O hlt) (aC bD O (H.old hcell hbS) (az O (az O (Lt (Cy (ai O (Lp (e9 O O) (Ln ?_))))))))))))))))
  refine tn ?_
  by_cases hx0:0<x
  case neg =>
   rw [if_pos ω] at hsucc
   rw [hsucc] at hins
   refine CF O ω (Ck (aF (tn (Cr (ao (r:=((i+1:Nat):Int)) h59 O (by rw [fg ω];omega) (ai O (Lt ?_)))))))
   exact ⟨ls.length - (i+1),ω,i+1,cs2,ns2,len2,lut2,t2,O,ω,h0,h9,h57,h58,O,hins,hbld,hc1,hnl,hs1,H⟩
  case pos =>
  rw [if_neg ω] at hsucc
  rw [hsucc,eJ] at hins
  have hx15:x≤15:=hx ▸ hall15 _ (List.getElem_mem hlt)
  have hcode:cS ls i<2 ^ 32:=by
   unfold cS
   rw [hgd,← hx,if_neg ω]
   have h1:=xA ls x hx15 ω
   have h2:=im ls i x
   omega
  have hcut:∀ s ∈ [bg,bn],s ∈ [bg]∨W.heap.size≤s:=hbgB
  refine CT O ω ?_
  by_cases hi1:∃ t',nY (2 * K - 1) t2 (aB (cS ls i) x) i=some t'
  case pos =>
   obtain ⟨t3,ht3⟩:=hi1
   rw [ht3] at hins
   obtain ⟨ht3i,ht3c⟩:=gJ ht3
   refine Cy (bH h0 (ai O (cm jV O (ew ω) (bU h9 (ai O (Lp (ci i aZ O O O hlt) (aC bD O (H.cell 0 O (by rw [Nat.zero_add];exact af hlt)) (ai O (aS O zW (oN _ bg off bn len2 (2 * K - 1) cs2 _ _ ns2 lut2 t2 i (cS ls i) x (gl.keep H.frm hS) (H.blk (i:=2) O) (H.blk (i:=1) O) hc1 hbld hnl ω ω ω hx15 hcode hne hg1 hgn) O ?_)))))))))
   rintro e w2 hI
   rcases hI with ⟨t',cs',ns',len',lut',hins2,hcap,rfl,hbg',hbn',hc',hb',hnl',hso,hfr⟩ | ⟨hno,_,hfr⟩
   rotate_left
   ·have:=hno _ ht3i;omega
   replace H:=H.turn2B 2 1 δ rfl rfl hfr hbg' hbn'
   refine ⟨_,O,?_⟩
   refine bI O (Lt (Cy (db O (Lp (bj aX O O) (Lt (Cq O (Ck (aF (tn (Cr (ao (r:=((i+1:Nat):Int)) h59 O (by rw [fg ω];omega) (ai O (Lt ?_)))))))))))))
   rw [ht3i] at hins2
   obtain rfl:=Option.some.inj hins2
   exact ⟨ls.length - (i+1),ω,i+1,cs',ns',len',lut',t3,O,ω,h0,h9,h57,h58,O,hins,hb',hc',hnl',hs1.trans hso,H⟩
  case neg =>
   have hnone:nY (2 * K - 1) t2 (aB (cS ls i) x) i=none:=Option.not_isSome_iff_eq_none.1 fun h => hi1 (Option.isSome_iff_exists.1 h)
   rw [hnone] at hins
   refine Cy (bH h0 (ai O (cm jV O (ew ω) (bU h9 (ai O (Lp (ci i aZ O O O hlt) (aC bD O (H.cell 0 O (by rw [Nat.zero_add];exact af hlt)) (ai O (aS O zW (oN _ bg off bn len2 (2 * K - 1) cs2 _ _ ns2 lut2 t2 i (cS ls i) x (gl.keep H.frm hS) (H.blk (i:=2) O) (H.blk (i:=1) O) hc1 hbld hnl ω ω ω hx15 hcode hne hg1 hgn) O ?_)))))))))
   rintro e w2 hI
   rcases hI with ⟨t',cs',ns',len',lut',hins2,hcap,_⟩ | ⟨hno,⟨a,rfl⟩,hfr⟩
   ·exact absurd ⟨t',by unfold nY;rw [hins2];exact if_pos hcap⟩ hi1
   refine ⟨_,O,?_⟩
   refine bI O (Lt (Cy (db O (Lp (bu aX O O) (Lt ?_)))))
   refine Cp O ?_
   refine Cy (db O (bI O (Lt (Ct (bL (aE (aE (bL (aE ?_)))))))))
   exact ak O O (.inr ⟨by rw [hK,hins];rfl,⟨_,O⟩,H.frm.then hfr hbgB⟩)
 case neg =>
 obtain rfl:i=ls.length:=ω
 rw [yh] at hins
 rw [hins] at hK hfull
 simp only [eJ,Option.bind_some] at hK
 obtain ⟨u,hu⟩:=hfull ω rfl
 refine Cs (CF O ω (Cx (ax (ax (br (tn (Cy (bI O (Lt (Ct ?_))))))))))
 exact ak O O (.inl ⟨u,cs2,by rw [hK,hu],O,H.blk (i:=2) rfl,hs1,tH hn2 (H.blk (i:=1) O) hc1 (fun _ _ => rfl) hbld (by have:=hbld.len_le;omega) hu,H.frm⟩)
def tS (n s0 s1:Nat):Nat→PT
 | 0 => .e
 | 1 => if n=1 then .l s0 else .n (.l s0) .e
 | _ => .n (.l s0) (.l s1)
def sy (s0 s1 i:Nat):Nat:=if i=0 then s0 else s1
def eU (n s0 s1 A:Nat):Option T :=
 if n=1 then (if s0<A then some (.leaf s0) else none) else (if s0<A∧s1<A then some (.node (.leaf s0) (.leaf s1)) else none)
theorem Ks {n s0 s1 i:Nat} (hn:n=1∨n=2) (hi:i<n):(tS n s0 s1 i).ins (aB i (n - 1)) (sy s0 s1 i)=some (tS n s0 s1 (i+1))∧(tS n s0 s1 (i+1)).inner+1≤n:=by
 rcases hn with rfl | rfl
 ·obtain rfl:i=0:=ω
  exact ⟨O,by simp [tS,PT.inner]⟩
 ·rcases (by omega:i=0∨i=1) with rfl | rfl
  ·exact ⟨O,by simp [tS,PT.inner]⟩
  ·exact ⟨O,by simp [tS,PT.inner]⟩
theorem C6 (W:World) (bg off:Nat) (cs:List Value) (tG:TypeId) (n s0 s1 A:Nat) (gl:Gl W) (hbg:ff W bg cs tG) (hraw:Ep cs off) (hg1:nG≤bg) (hn:n=1∨n=2) (h0:s0<65536) (h1:s1<65536) (hA:A<2 ^ 32) :
  Calls Tryz.prog 86 #[.pointer (some ⟨bg,off,none⟩),.int .u32 (n:Nat),.agg #[.int .u32 (s0:Nat),.int .u32 (s1:Nat)],.int .u32 (A:Nat)] W (rj bg off cs tG (eU n s0 s1 A) W):=by
 have H:St W [bg] [aa bg cs tG] W:=gQ hbg
 have hS:rC [bg]:=fun x hx => by simp at hx;subst hx;exact hg1
 obtain ⟨ae,hae⟩:=gl.badTree
 obtain ⟨vold,hold⟩:=hraw.nodes
 refine enter (m:=40) Tryz.func86 O Tryz.ntmps86 O (Cy (fM H (cs:=[.int .u32 (s0:Nat),.int .u32 (s1:Nat)]) O O O ?_))
 intro w bx hx1 hx2 H
 refine bI O (Lt (Cy (bH O (ai O (Lp (cX (r:=((2 * n:Nat):Int)) O O (by rw [ew ω];omega)) (bw (r:=((2 * n - 1:Nat):Int)) O O (by rw [ew ω];omega) (iJ H Gi 1 (2 * n - 1) O O O O ω ω ω O ?_)))))))
 intro w bn hn1 hn2 H
 refine aK O (aU eS O (kB H 2 Dd O O O hold ?_))
 intro w H
 refine Lt ?_
 rw [D4] at H
 have hgn:nG≤bn:=Nat.le_trans gl.high hn2
 have hne:bg≠bn:=by have:=hbg.lt;omega
 have hc1:=hraw.hc bn 1 (2 * n - 1)
 have hs1:d_ cs (cs.set off (.slice (aT bn) 1 (2 * n - 1))) off:=d_.set cs off off _ (Nat.le_refl _) ω
 have hbld:=y0 (n:=2 * n - 1) ω
 replace H:St W [bg] [aa bn (c_ (List.replicate (2 * n - 1) (0,0))) 181,aa bx [.int .u32 (s0:Nat),.int .u32 (s1:Nat)] 187,aa bg (cs.set off (.slice (aT bn) 1 (2 * n - 1))) tG] w:=H
 generalize cs.set off (.slice (aT bn) 1 (2 * n - 1))=cs1 at *
 have hbgB:∀ s ∈ [bg,bn],s ∈ [bg]∨W.heap.size≤s:=by simp [hn2]
 refine Cs (Cy (az O (Lt (Cb ?_))))
 refine Cl (fun m ρ w' => ∃ (i:Nat) (cs2:List Value) (ns2:List (Nat × Int)) (len2:Nat) (lut2:Nat→Nat),m=n - i∧i≤n∧ρ 0=.pointer (some ⟨bg,off,none⟩)∧ρ 1=.int .u32 (n:Nat)∧ρ 3=.int .u32 (A:Nat)∧ρ 6=pT bx∧ρ 9=.int .u32 (i:Nat) ∧
  (∀ j,j<i→sy s0 s1 j<A)∧B9 ns2 len2 (tS n s0 s1 i) lut2∧HC cs2 off bn len2 (2 * n - 1) lut2∧ns2.length=2 * n - 1∧d_ cs cs2 off ∧
  St W [bg] [aa bn (c_ ns2) 181,aa bx [.int .u32 (s0:Nat),.int .u32 (s1:Nat)] 187,aa bg cs2 tG] w') n
  ⟨0,cs1,_,1,_,rfl,ω,rfl,rfl,rfl,rfl,rfl,by simp,hbld,hc1,by simp,hs1,H⟩ ?_
 clear H hbld hc1 hs1
 rintro m ρ w3 ⟨i,cs2,ns2,len2,lut2,rfl,hi,h0',h1',h3',h6',h9',hsm,hbld,hc1,hnl,hs1,H⟩
 refine Cs (Cy (ai h9' (ai h1' (bP O O (Lt ?_)))))
 by_cases hlt:i<n
 case pos =>
  have hcell:([.int .u32 (s0:Nat),.int .u32 (s1:Nat)]:List Value)[i]?=some (.int .u32 (sy s0 s1 i:Nat)):=by
   rcases (by omega:i=0∨i=1) with rfl | rfl <;> rfl
  have hsl:sy s0 s1 i<65536:=by unfold sy;split <;> assumption
  obtain ⟨hins,hinn⟩:=Ks (s0:=s0) (s1:=s1) hn hlt
  refine CT O ω (Ck (tn (Cs (Cb ?_))))
  by_cases hA2:sy s0 s1 i<A
  case neg =>
   refine Cs (Cy (ai h9' (Lp (fo i sn h6' O O ω) (aC bD O (H.cell 1 O (by rw [Nat.zero_add];exact hcell)) (ai h3' (Lp (ou O O) (Lt (CT O ω (Cy (aC nk O (H.old hae (hS.g _ O)) (bI O (Lt (Ct (aE (bL (aE (aE (bL (aE ?_)))))))))))))))))))
   refine ak O O (.inr ⟨?_,⟨_,O⟩,H.frm⟩)
   unfold eU
   rcases (by omega:i=0∨i=1) with rfl | rfl
   ·replace hA2:¬ s0<A:=hA2
    simp [hA2]
   ·replace hA2:¬ s1<A:=hA2
    rw [if_neg ω];simp [hA2]
  case pos =>
  refine Cs (Cy (ai h9' (Lp (fo i sn h6' O O ω) (aC bD O (H.cell 1 O (by rw [Nat.zero_add];exact hcell)) (ai h3' (Lp (ou O O) (Lt (CF O ω (Ck (tn (Cy (bH h0' (ai h9' (Lp (fo i sn h6' O O ω) (aC bD O (H.cell 1 O (by rw [Nat.zero_add];exact hcell)) (ai h9' (ai h1' ?_)))))))))))))))))
  refine bw (r:=((n - 1:Nat):Int)) O O (by rw [ew ω];omega) (aS O zW (oN _ bg off bn len2 (2 * n - 1) cs2 _ _ ns2 lut2 (tS n s0 s1 i) (sy s0 s1 i) i (n - 1) (gl.keep H.frm hS) (H.blk (i:=2) O) (H.blk (i:=0) O) hc1 hbld hnl ω ω hsl ω ω hne hg1 hgn) O ?_)
  rintro e w2 hI
  rcases hI with ⟨t',cs',ns',len',lut',hins2,hcap,rfl,hbg',hbn',hc',hb',hnl',hso,hfr⟩ | ⟨hno,_,hfr⟩
  rotate_left
  ·have:=hno _ hins;omega
  replace H:=H.turn2B 2 0 δ rfl rfl hfr hbg' hbn'
  refine ⟨_,O,?_⟩
  refine bI O (Lt (Cy (db O (Lp (bj aX O O) (Lt (Cq O (Ck (aF (tn (Cr (ai h9' (ao (r:=((i+1:Nat):Int)) O O (by rw [ew ω];omega) (az O (Lt ?_))))))))))))))
  rw [hins] at hins2
  obtain rfl:=Option.some.inj hins2
  exact ⟨n - (i+1),ω,i+1,cs',ns',len',lut',O,ω,h0',h1',h3',h6',O,fun j hj => by
   by_cases h:j<i
   ·exact hsm j h
   ·obtain rfl:j=i:=ω
    exact hA2,hb',hc',hnl',hs1.trans hso,H⟩
 case neg =>
 have hB2:ff w3 bg cs2 tG:=H.blk (i:=2) rfl
 have hB0:ff w3 bn (c_ ns2) 181:=H.blk (i:=0) rfl
 have hF:=H.frm
 obtain rfl:i=n:=ω
 refine CF O ω (Cx (ax (ax (br (tn (Cy (bI O (Lt (Ct ?_)))))))))
 rcases hn with rfl | rfl
 ·have h:s0<A:=hsm 0 ω
  refine ak O O (.inl ⟨.leaf s0,cs2,?_,O,hB2,hs1,tH hn2 (hB0) hc1 (fun _ _ => rfl) hbld (by have:=hbld.len_le;omega) rfl,hF⟩)
  unfold eU
  rw [if_pos rfl,if_pos h]
 ·have h:s0<A:=hsm 0 ω
  have h':s1<A:=hsm 1 ω
  refine ak O O (.inl ⟨.node (.leaf s0) (.leaf s1),cs2,?_,O,hB2,hs1,tH hn2 (hB0) hc1 (fun _ _ => rfl) hbld (by have:=hbld.len_le;omega) rfl,hF⟩)
  unfold eU
  rw [if_neg ω,if_pos ⟨h,h'⟩]
def rd (n:Nat) (R:aM):Option (Nat × aM):=if n≤R.length then some (val (R.take n),R.drop n) else none
theorem ir {n:Nat} {R:aM} (h:n≤R.length):rd n R=some (val (R.take n),R.drop n):=if_pos h
theorem iH {n:Nat} {R:aM} (h:R.length<n):rd n R=none:=if_neg ω
def T.symLt (n:Nat):T→Prop
 | .leaf s => s<n
 | .node a b => a.symLt n∧b.symLt n
def PT.symLt (n:Nat):PT→Prop
 | .e => True
 | .l s => s<n
 | .n a b => a.symLt n∧b.symLt n
theorem kW {n:Nat}:∀ (t:PT) (p:aM) (s:Nat) (t':PT),t.ins p s=some t'→t.symLt n→s<n→t'.symLt n
 | .e,[],s,t',h,hb,hs => by simp only [PT.ins,Option.some.injEq] at h;subst h;exact hs
 | .l _,[],s,t',h,hb,hs => by simp only [PT.ins,Option.some.injEq] at h;subst h;exact hs
 | .n _ _,[],s,t',h,_,_ => by simp [PT.ins] at h
 | .l _,_ :: _,s,t',h,_,_ => by simp [PT.ins] at h
 | .e,true :: p,s,t',h,hb,hs => by
  simp only [PT.ins,Option.map_eq_some_iff] at h
  obtain ⟨u,hu,rfl⟩:=h
  exact ⟨trivial,kW .e p s u hu trivial hs⟩
 | .e,false :: p,s,t',h,hb,hs => by
  simp only [PT.ins,Option.map_eq_some_iff] at h
  obtain ⟨u,hu,rfl⟩:=h
  exact ⟨kW .e p s u hu trivial hs,trivial⟩
 | .n a b,true :: p,s,t',h,hb,hs => by
  simp only [PT.ins,Option.map_eq_some_iff] at h
  obtain ⟨u,hu,rfl⟩:=h
  exact ⟨hb.1,kW b p s u hu hb.2 hs⟩
 | .n a b,false :: p,s,t',h,hb,hs => by
  simp only [PT.ins,Option.map_eq_some_iff] at h
  obtain ⟨u,hu,rfl⟩:=h
  exact ⟨kW a p s u hu hb.1 hs,hb.2⟩
theorem t9 {cap n:Nat}:∀ (ps:List (aM × Nat)) (t t':PT),eJ cap t ps=some t'→t.symLt n→(∀ p ∈ ps,p.2<n)→t'.symLt n
 | [],t,t',h,hb,_ => by simp only [eJ,Option.some.injEq] at h;exact h ▸ hb
 | (q,s) :: r,t,t',h,hb,hp => by
  simp only [eJ] at h
  split at h
  ·rename_i u hu
   exact t9 r u t' h (kW t q s u (gJ hu).1 hb (hp (q,s) (by simp))) (fun p hm => hp p (List.mem_cons_of_mem _ hm))
  ·cases h
theorem pm {n:Nat}:∀ (t:PT) (u:T),t.toT=some u→t.symLt n→u.symLt n
 | .e,u,h,_ => by cases h
 | .l s,u,h,hb => by simp only [PT.toT,Option.some.injEq] at h;subst h;exact hb
 | .n a b,u,h,hb => by
  simp only [PT.toT] at h
  split at h
  ·rename_i x y hx hy
   simp only [Option.some.injEq] at h
   subst h
   exact ⟨pm a x hx hb.1,pm b y hy hb.2⟩
  ·cases h
theorem oV {ls:List Nat} {u:T} (h:dX ls=some u):u.symLt ls.length:=by
 unfold dX at h
 split at h
 ·cases h
 ·rename_i h0
  split at h
  ·simp only [Option.some.injEq] at h
   subst h
   have:ls.countP (·≠0)≤ls.length:=List.countP_le_length
   exact sA ω
  ·split at h
   ·cases h
   ·simp only [Option.bind_eq_some_iff] at h
    obtain ⟨t,ht,hu⟩:=h
    refine pm t u hu (t9 _ _ _ ht trivial fun p hp => ?_)
    unfold dw at hp
    rw [List.mem_filterMap] at hp
    obtain ⟨i,hi,he⟩:=hp
    unfold pq at he
    split at he
    ·cases he
    ·simp only [Option.some.injEq] at he
     subst he
     exact List.mem_range.1 hi
theorem gH {n:Nat}:∀ {t:T} {R R':aM} {s:Nat},t.symLt n→t.walk R=some (s,R')→s<n
 | .leaf s0,R,R',s,hb,h => by
  simp only [T.walk,T.adv,Option.some.injEq,Prod.mk.injEq] at h
  obtain ⟨rfl,_⟩:=h
  exact hb
 | .node a b,[],R',s,hb,h => by simp [T.walk,T.adv] at h
 | .node a b,true :: R,R',s,hb,h => by rw [lS] at h;exact gH hb.2 h
 | .node a b,false :: R,R',s,hb,h => by rw [lS] at h;exact gH hb.1 h
def repB (s:Nat):Nat:=mO.getD s 0
def repO (s:Nat):Nat:=kU.getD s 0
theorem qn:∀ j,j<3→3≤repO j∧repO j≤11∧repB j≤7:=δ
theorem ue (j:Nat):repB j=mO.getD j 0:=rfl
theorem tf (j:Nat):repO j=kU.getD j 0:=rfl
attribute [irreducible] repB repO
def il (t:T) (n:Nat):Nat→List Nat→Nat→Nat→aM→Option (List Nat × aM)
 | 0,acc,ms,prev,R => some (acc,R)
 | k+1,acc,ms,prev,R =>
  if n≤acc.length then some (acc,R)
  else if ms=0 then some (acc++List.replicate (n - acc.length) 0,R)
  else match t.walk R with
   | none => none
   | some (s,R1) =>
    if s<16 then il t n k (acc++[s]) (ms - 1) (if s≠0 then s else prev) R1
    else match rd (repB (s - 16)) R1 with
     | none => none
     | some (v,R2) =>
      if n<acc.length+(v+repO (s - 16)) then none
      else il t n k (acc++List.replicate (v+repO (s - 16)) (if s=16 then prev else 0)) (ms - 1) prev R2
theorem B6 (t:T) (n:Nat) (acc:List Nat) (ms prev:Nat) (R:aM):il t n 0 acc ms prev R=some (acc,R):=rfl
theorem nM (t:T) (n k:Nat) (acc:List Nat) (ms prev:Nat) (R:aM):il t n (k+1) acc ms prev R =
  if n≤acc.length then some (acc,R)
  else if ms=0 then some (acc++List.replicate (n - acc.length) 0,R)
  else match t.walk R with
   | none => none
   | some (s,R1) =>
    if s<16 then il t n k (acc++[s]) (ms - 1) (if s≠0 then s else prev) R1
    else match rd (repB (s - 16)) R1 with
     | none => none
     | some (v,R2) =>
      if n<acc.length+(v+repO (s - 16)) then none
      else il t n k (acc++List.replicate (v+repO (s - 16)) (if s=16 then prev else 0)) (ms - 1) prev R2:=rfl
def oy (n:Nat) (R:aM):Option (Nat × aM) :=
 match rd 1 R with
 | none => none
 | some (u,R1) => if u=0 then some (n,R1) else
  match rd 3 R1 with
  | none => none
  | some (k,R2) => match rd (2+2 * k) R2 with
   | none => none
   | some (ms,R3) => if n<ms+2 then none else some (ms+2,R3)
def mf (n:Nat) (ccl:List Nat) (R:aM):Option (List Nat × aM) :=
 match dX ccl with
 | none => none
 | some t => match oy n R with
  | none => none
  | some (ms,R1) => il t n n [] ms 8 R1
theorem Bl {t:T} {n:Nat} (ht:t.symLt 19):∀ (k:Nat) (acc:List Nat) (ms prev:Nat) (R:aM) (ls:List Nat) (R':aM),n - acc.length≤k→acc.length≤n→(∀ x ∈ acc,x<16)→prev<16 →
  il t n k acc ms prev R=some (ls,R')→ls.length=n∧∀ x ∈ ls,x<16:=by
 intro k
 induction k with
 | zero =>
  intro acc ms prev R ls R' hk hl ha hp h
  rw [B6] at h
  simp only [Option.some.injEq,Prod.mk.injEq] at h
  obtain ⟨rfl,_⟩:=h
  exact ⟨ω,ha⟩
 | succ k ih =>
  intro acc ms prev R ls R' hk hl ha hp h
  rw [nM] at h
  split at h
  ·simp only [Option.some.injEq,Prod.mk.injEq] at h
   obtain ⟨rfl,_⟩:=h
   exact ⟨ω,ha⟩
  ·split at h
   ·simp only [Option.some.injEq,Prod.mk.injEq] at h
    obtain ⟨rfl,_⟩:=h
    refine ⟨by simp;omega,fun x hx => ?_⟩
    rw [List.mem_append] at hx
    rcases hx with hx | hx
    ·exact ha x hx
    ·rw [List.eq_of_mem_replicate hx];omega
   ·split at h
    ·cases h
    ·rename_i s R1 hw
     have hs:=gH ht hw
     split at h
     ·rename_i hs16
      refine ih (acc++[s]) (ms - 1) (if s≠0 then s else prev) R1 ls R' (by rw [List.length_append,List.length_singleton];omega) (by rw [List.length_append,List.length_singleton];omega) (fun x hx => ?_) (by split;exact hs16;exact hp) h
      rw [List.mem_append,List.mem_singleton] at hx
      rcases hx with hx | hx
      ·exact ha x hx
      ·omega
     ·rename_i hs16
      have hO:=qn (s - 16) ω
      split at h
      ·cases h
      ·rename_i v R2 hv
       split at h
       ·cases h
       ·refine ih (acc++List.replicate (v+repO (s - 16)) (if s=16 then prev else 0)) (ms - 1) prev R2 ls R' (by rw [List.length_append,List.length_replicate];omega) (by rw [List.length_append,List.length_replicate];omega) (fun x hx => ?_) hp h
        rw [List.mem_append] at hx
        rcases hx with hx | hx
        ·exact ha x hx
        ·rw [List.eq_of_mem_replicate hx];split <;> omega
theorem Me (l:List Value) (h:l=[.slice none 0 0]++List.replicate 128 (.int .u32 0)):Ep l 0:=by
 subst h
 refine ⟨⟨_,O⟩,fun x hx => ?_⟩
 rw [show 0+1+x=x+1 by omega,List.singleton_append,List.getElem?_cons_succ,List.getElem?_replicate,if_pos hx]
theorem qU (acc:List Nat) (s j:Nat):(acc++[s]).getD j 0=if j=acc.length then s else acc.getD j 0:=by
 simp only [List.getD_eq_getElem?_getD]
 by_cases h:j<acc.length
 ·rw [List.getElem?_append_left h,if_neg ω]
 ·rw [List.getElem?_append_right ω]
  by_cases h2:j=acc.length
  ·subst h2;simp
  ·rw [if_neg h2,List.getElem?_eq_none (by simp;omega),List.getElem?_eq_none ω]
theorem DO (acc:List Nat) (q j:Nat):(acc++List.replicate q 0).getD j 0=acc.getD j 0:=by
 simp only [List.getD_eq_getElem?_getD]
 by_cases h:j<acc.length
 ·rw [List.getElem?_append_left h]
 ·rw [List.getElem?_append_right ω,List.getElem?_eq_none (l:=acc) ω,List.getElem?_replicate]
  split <;> rfl
def JR (σ:pL) (bd n:Nat) (r:Option (List Nat × aM)) (w:World) (e:Ending) (w':World):Prop :=
 (∃ ls R',r=some (ls,R')∧e=.returned .nilIface∧(cD σ R').pred w'∧ff w' bd (bM .u32 (fun j => ls.getD j 0) n) 36∧cf [σ.d,σ.rd,bd] w w') ∨
 (r=none∧(∃ a,e=.returned (.iface 149 (.pointer (some a))))∧cf [σ.d,σ.rd,bd] w w')
theorem yS (σ:pL) (R:aM) (W:World) (bd n b o c:Nat) (ccl:List Nat) (D:(cD σ R).pred W) (ro:RO σ W) (hbd:ff W bd (bM .u32 (fun _ => 0) n) 36) (hr:l7 W .u32 b o ccl)
  (hS:zG σ [σ.d,σ.rd,bd]) (hbS:b ∉ [σ.d,σ.rd,bd]) (hne:bd≠σ.d∧bd≠σ.rd) (hc19:ccl.length=19) (hccl:∀ x ∈ ccl,x<2 ^ 32) (hn:n≤30000) :
  Calls Tryz.prog 87 #[.pointer (some ⟨σ.d,0,none⟩),.slice (aT bd) n n,.slice (some ⟨b,o,none⟩) ccl.length c] W (JR σ bd n (mf n ccl R) W):=by
 have H:St W [σ.d,σ.rd,bd] [cD σ R,aa bd (bM .u32 (fun _ => 0) n) 36] W:=by
  refine St.cons (St.one hbd ⟨cw _ _ _,dW _ _ _⟩ (by simp [aa])) D (cK σ R) (by simp [cD]) ?_
  intro r hr x hx hx2
  simp only [List.mem_singleton] at hr
  subst hr
  simp only [aa,List.mem_singleton] at hx2
  subst hx2
  simp only [cD,List.mem_cons,List.not_mem_nil,or_false] at hx
  rcases hx with rfl | rfl
  ·exact hne.1 O
  ·exact hne.2 O
 obtain ⟨ae,hae⟩:=ro.gl.badLen
 have hbt:=@oV ccl
 have hdec:mf n ccl R=match dX ccl with
  | none => none
  | some t => match oy n R with
   | none => none
   | some (ms,R1) => il t n n [] ms 8 R1:=rfl
 refine enter (m:=135) Tryz.func87 O Tryz.ntmps87 O (Cy (bI O (Lt (Cy (Lp (nx JN) (cE H I2 O ?_))))))
 intro w b7 hn7 hb7 H
 refine dG H 0 Iv O O O O O δ ?_
 intro w H
 refine Lt ?_
 have hraw:=Me _ rfl
 have hg7:nG≤b7:=Nat.le_trans ro.gl.high hb7
 have hbW:b<W.heap.size:=World.block_lt_of_cell? W _ (hr 0 ω)
 have hbb:b≠b7:=ω
 have hbS2:b ∉ [σ.d,σ.rd,bd]:=hbS
 have hS3:∀ z ∈ [σ.d,σ.rd,bd],z<W.heap.size:=by
  obtain ⟨i,nb,pr,h1,h2,h3,h4⟩:=D
  intro z hz
  simp only [List.mem_cons,List.not_mem_nil,or_false] at hz
  rcases hz with rfl | rfl | rfl
  ·exact h1.lt
  ·exact h2.lt
  ·exact hbd.lt
 cases hbt2:dX ccl with
 | none =>
  rw [hbt2] at hdec
  refine Cs (Cy (bU O (aS O Ch (uk _ b7 0 _ _ b o c ccl (ro.frm H hS).gl (H.blk (i:=0) O) hraw (hr.keep H.frm hbS) hbb hg7 hccl ω) O ?_)))
  rintro e w2 hB
  rcases hB with ⟨u,cs',hu,_⟩ | ⟨_,⟨a,rfl⟩,hf⟩
  ·rw [hbt2] at hu;cases hu
  refine ⟨_,O,?_⟩
  refine bI O (Lt (Cy (db O (Lp (bu aX O O) (Lt ?_)))))
  refine Cp O ?_
  refine Cy (db O (bI O (Lt (Ct (aE ?_)))))
  exact ak O O (.inr ⟨hdec,⟨_,O⟩,H.frm.then hf (by simp [hb7])⟩)
 | some u =>
 rw [hbt2] at hdec
 have hu19:=hbt hbt2
 rw [hc19] at hu19
 refine Cs (Cy (bU O (aS O Ch (uk _ b7 0 _ _ b o c ccl (ro.frm H hS).gl (H.blk (i:=0) O) hraw (hr.keep H.frm hbS) hbb hg7 hccl ω) O ?_)))
 rintro e w2 hB
 rcases hB with ⟨u',cs',hu,rfl,hbg',hso,htc,hf⟩ | ⟨h,_⟩
 rotate_left
 ·rw [hbt2] at h;cases h
 rw [hbt2] at hu
 obtain rfl:=Option.some.inj hu
 have hfW:cf [σ.d,σ.rd,bd] W w2:=H.frm.then hf (by simp [hb7])
 have ht:oc [σ.d,σ.rd,bd] w2 b7 0 u:=htc.ht hbg' (fun hm => by have:=hS3 _ hm;omega) (fun s hs => by have:=hS3 _ hs;have:=H.high;omega)
 replace H:=((H.turnB 0 rfl hf hbg').sub [1,2] (l':=[cD σ R,aa bd (bM .u32 (fun _ => 0) n) 36]) rfl δ).base [σ.d,σ.rd,bd] (by simp [cD,aa])
 replace ro:RO σ w2:=ro.keep hfW hS
 replace hae:=hfW.cell hae (hS.1.g _ rfl)
 refine ⟨_,O,?_⟩
 refine bI O (Lt ?_)
 clear hf hso htc hbg'
 have hdS:∀ z ∈ [σ.d,σ.rd],z ∈ [σ.d,σ.rd,bd]:=by simp
 refine Cy (db O (Lp (bj aX O O) (Lt (Cq O (Ck (tn (Cy (bU O (bG aZ O (az O (Lt ?_)))))))))))
 by_cases hR1:1≤R.length
 case neg =>
  have hm:oy n R=none:=by unfold oy;rw [iH ω]
  refine Cy (bH O (ri (k:=1) H 0 O ro hS ω ω O O O ?_))
  intro w a hF
  refine gr O (av O O (av O O (az O (bI O (Lt (Cs (Cy (db O (Lp (bu aX O O) (Lt ?_))))))))))
  refine Cp O ?_
  refine Cy (db O (bI O (Lt (Ct (aE ?_)))))
  exact ak O O (.inr ⟨by rw [hdec];simp only [hm],⟨_,O⟩,hfW.trans hF⟩)
 case pos =>
 have hv1:val (R.take 1)<2:=by have:=bK R 1;omega
 refine Cy (bH O (dB (k:=1) H 0 O ro hS ω hR1 O O O ?_))
 intro w H
 refine gr O (av O O (av O O (az O (bI O (Lt (Cs (Cy (db O (Lp (bj aX O O) (Lt (Cq O (Ck (tn (Cs (Cy (ai O (Lp (mh O O) ?_)))))))))))))))))
 refine Lt ?_
 refine aH (fun ρ w' => ∃ ms R1,oy n R=some (ms,R1)∧ms≤262145∧ρ 0=.pointer (some ⟨σ.d,0,none⟩)∧ρ 1=.slice (aT bd) n n∧ρ 7=pT b7∧ρ 9=iT ms ∧
  St w2 [σ.d,σ.rd,bd] [cD σ R1,aa bd (bM .u32 (fun _ => 0) n) 36] w') ?_ ?_
 case refine_1 =>
  by_cases hu0:val (R.take 1)=0
  case pos =>
   refine CF O ω (Ck (tn ?_))
   exact ⟨n,R.drop 1,by unfold oy;rw [ir hR1];simp only [hu0,if_true],ω,O,O,O,O,H⟩
  case neg =>
  have hm0:oy n R=match rd 3 (R.drop 1) with
   | none => none
   | some (k,R2) => match rd (2+2 * k) R2 with
    | none => none
    | some (ms,R3) => if n<ms+2 then none else some (ms+2,R3):=by
   unfold oy
   rw [ir hR1]
   simp only [if_neg hu0]
  generalize R.drop 1=R1 at *
  refine CT O ω ?_
  by_cases hR2:3≤R1.length
  case neg =>
   rw [iH ω] at hm0
   refine Cy (bH O (ri (k:=3) H 0 O ro hS ω ω O O O ?_))
   intro w a hF
   refine gr O (av O O (av O O (az O (bI O (Lt (Cs (Cy (db O (Lp (bu aX O O) (Lt ?_))))))))))
   refine Cp O ?_
   refine Cy (db O (bI O (Lt (Ct (aE (aE ?_))))))
   exact ak O O (.inr ⟨by rw [hdec];simp only [hm0],⟨_,O⟩,hfW.trans hF⟩)
  case pos =>
  rw [ir hR2] at hm0
  have hv3:val (R1.take 3)<8:=by have:=bK R1 3;omega
  refine Cy (bH O (dB (k:=3) H 0 O ro hS ω hR2 O O O ?_))
  intro w H
  refine gr O (av O O (av O O (az O (bI O (Lt ?_)))))
  simp only at hm0
  generalize val (R1.take 3)=k at *
  generalize R1.drop 3=R2 at *
  refine Cs (Cy (db O (Lp (bj aX O O) (Lt (Cq O (Ck (tn (Cy (ai O (Lp (cX (r:=((2 * k:Nat):Int)) O O (by rw [ew ω];omega)) (ao (r:=((2+2 * k:Nat):Int)) O O (by rw [ew ω];omega) (az O (Lt ?_)))))))))))))
  by_cases hR3:2+2 * k≤R2.length
  case neg =>
   rw [iH ω] at hm0
   refine Cy (bH O (ai O (ri (k:=2+2 * k) H 0 O ro hS ω ω O O O ?_)))
   intro w a hF
   refine gr O (av O O (av O O (az O (bI O (Lt (Cs (Cy (db O (Lp (bu aX O O) (Lt ?_))))))))))
   refine Cp O ?_
   refine Cy (db O (bI O (Lt (Ct (aE (aE ?_))))))
   exact ak O O (.inr ⟨by rw [hdec];simp only [hm0],⟨_,O⟩,hfW.trans hF⟩)
  case pos =>
  rw [ir hR3] at hm0
  have hvm:val (R2.take (2+2 * k))<65536:=by
   have:=bK R2 (2+2 * k)
   have:2 ^ (2+2 * k)≤2 ^ 16:=Nat.pow_le_pow_right ω ω
   omega
  refine Cy (bH O (ai O (dB (k:=2+2 * k) H 0 O ro hS ω hR3 O O O ?_)))
  intro w H
  refine gr O (av O O (av O O (az O (bI O (Lt ?_)))))
  simp only at hm0
  generalize val (R2.take (2+2 * k))=ms at *
  generalize R2.drop (2+2 * k)=R3 at *
  refine Cs (Cy (db O (Lp (bj aX O O) (Lt (Cq O (Ck (tn (Cy (ai O (cm (r:=(ms:Nat)) jT O (fg ω) (ao (r:=((ms+2:Nat):Int)) O O (by rw [fg ω];omega) (az O (Lt (Cy (ai O ?_)))))))))))))))
  refine bU O (bG aZ O (Lp (e9 O O) (Lt ?_)))
  by_cases hbig:n<ms+2
  case pos =>
   rw [if_pos hbig] at hm0
   refine CT O ω (Cy (aC nk O (H.old hae (hS.1.g _ O)) (bI O (Lt (Ct (aE ?_))))))
   exact ak O O (.inr ⟨by rw [hdec];simp only [hm0],⟨_,O⟩,hfW.trans H.frm⟩)
  case neg =>
  rw [if_neg hbig] at hm0
  refine CF O ω (Ck (tn ?_))
  exact ⟨ms+2,R3,hm0,ω,O,O,O,O,H⟩
 case refine_2 =>
 clear H
 rintro ρ w3 ⟨ms0,R1,hm,hms,h0,h1,h7,h9,H⟩
 replace hdec:mf n ccl R=il u n n [] ms0 8 R1:=by rw [hdec];simp only [hm]
 refine Cy (az O (Lt (Cs (Cy (az O (Lt (Cb ?_)))))))
 refine Cl (fun m ρ w' => ∃ (k:Nat) (acc:List Nat) (ms prev:Nat) (R1:aM),m=n - acc.length∧n - acc.length≤k∧acc.length≤n∧prev<16∧ms≤262145∧mf n ccl R=il u n k acc ms prev R1 ∧
  ρ 0=.pointer (some ⟨σ.d,0,none⟩)∧ρ 1=.slice (aT bd) n n∧ρ 7=pT b7∧ρ 9=iT ms∧ρ 15=.int .u32 (prev:Nat)∧ρ 16=iT acc.length ∧
  St w2 [σ.d,σ.rd,bd] [cD σ R1,aa bd (bM .u32 (fun j => acc.getD j 0) n) 36] w') n
  ⟨n,[],ms0,8,R1,rfl,by simp,by simp,ω,hms,hdec,h0,h1,h7,h9,rfl,rfl,H⟩ ?_
 clear H h0 h1 h7 h9 hdec hm hms
 clear ρ
 rintro m ρ w4 ⟨k,acc,ms,prev,R1,rfl,hk,hal,hprev,hms,hdec,h0,h1,h7,h9,h15,h16,H⟩
 refine Cs (Cy (ai h16 (bU h1 (bG aZ O (bP O O (Lt ?_))))))
 by_cases hlt:acc.length<n
 case neg =>
  have hres:il u n k acc ms prev R1=some (acc,R1):=by
   cases k with
   | zero => rfl
   | succ k => rw [nM,if_pos ω]
  refine CF O ω (Cx (ax (ax (br (tn (Cy (bI O (Lt (Ct ?_)))))))))
  exact ak O O (.inl ⟨acc,R1,by rw [hdec,hres],O,H.get (i:=0) rfl,H.blk (i:=1) rfl,hfW.trans H.frm⟩)
 case pos =>
 obtain ⟨k,rfl⟩:∃ k',k=k'+1:=⟨k - 1,ω⟩
 rw [nM,if_neg ω] at hdec
 refine CT O ω (Ck (tn (Cb (Cs (Cy (ai h9 (bF O O (Lt ?_))))))))
 by_cases hms0:ms=0
 case pos =>
  rw [if_pos hms0] at hdec
  refine CT O ω (Cx (ax (FR O (ax (br (tn (Cy (bI O (Lt (Ct ?_))))))))))
  rw [aW (g:=fun j => (acc++List.replicate (n - acc.length) 0).getD j 0) (fun j _ => DO acc _ j)] at H
  exact ak O O (.inl ⟨_,R1,hdec,O,H.get (i:=0) rfl,H.blk (i:=1) rfl,hfW.trans H.frm⟩)
 case neg =>
 rw [if_neg hms0] at hdec
 refine CF O ω (Ck (tn (Cy (ai h9 (bw (r:=((ms - 1:Nat):Int)) O O (by rw [fg ω];omega) (az O (Lt ?_)))))))
 cases hw:u.walk R1 with
 | none =>
  rw [hw] at hdec
  refine Cy (bH h0 (mF H 0 O ro hS ht hdS hw O h7 O ?_))
  intro w a hF
  refine gr O (av O O (av O O (az O (bI O (Lt (Cs (Cy (db O (Lp (bu aX O O) (Lt ?_))))))))))
  refine Cp O ?_
  refine Cy (db O (bI O (Lt (Ct (aE (bL (aE (bL (aE ?_)))))))))
  exact ak O O (.inr ⟨hdec,⟨_,O⟩,hfW.trans hF⟩)
 | some sr =>
 obtain ⟨s,R2⟩:=sr
 rw [hw] at hdec
 simp only at hdec
 have hs19:=gH hu19 hw
 refine Cy (bH h0 (mH H 0 O ro hS ht hdS hw O h7 O ?_))
 intro w H
 refine gr O (av O O (av O O (az O (bI O (Lt (Cs (Cy (db O (Lp (bj aX O O) (Lt (Cq O (Ck (tn (Cs (Cy (ai O (bP O O ?_)))))))))))))))))
 refine Lt ?_
 by_cases hs16:s<16
 case pos =>
  rw [if_pos hs16] at hdec
  refine CT O ω (Cy (bU h1 (ai h16 (ai O (Lp (ci acc.length aZ O O O hlt) (bC H 1 dY O O O (by rw [Nat.zero_add];exact af hlt) ?_))))))
  intro w H
  refine Lt ?_
  simp only [Nat.zero_add,List.set_cons_succ,List.set_cons_zero] at H
  rw [jQ (g:=fun j => (acc++[s]).getD j 0) (by rw [qU,if_pos rfl]) (fun j hj hne => by rw [qU,if_neg hne])] at H
  refine Cy (ai h16 (ao (r:=((acc.length+1:Nat):Int)) O O (by rw [fg ω];omega) (az O (Lt (Cs (Cy (ai O (Lp (mh O O) (Lt ?_)))))))))
  have hl1:(acc++[s]).length=acc.length+1:=by simp
  by_cases hs0:s≠0
  case pos =>
   rw [if_pos hs0] at hdec
   refine CT O ω (Cr (ai O (az O (Lt (Cx (ax (br (tn ?_))))))))
   exact ⟨n - (acc++[s]).length,ω,k,acc++[s],ms - 1,s,R2,O,ω,ω,hs16,ω,hdec,h0,h1,h7,O,O,by rw [hl1];rfl,H⟩
  case neg =>
   rw [if_neg hs0] at hdec
   refine CF O ω (Ck (tn (Cx (ax (br (tn ?_))))))
   exact ⟨n - (acc++[s]).length,ω,k,acc++[s],ms - 1,prev,R2,O,ω,ω,hprev,ω,hdec,h0,h1,h7,O,h15,by rw [hl1];rfl,H⟩
 case neg =>
 rw [if_neg hs16] at hdec
 obtain ⟨j,hj⟩:∃ j,j=s - 16:=⟨_,rfl⟩
 have hj3:j<3:=ω
 obtain ⟨hO3,hO11,hB7⟩:=qn j hj3
 have hcB:=ro.gl.repB j hj3
 have hcO:=ro.gl.repO j hj3
 rw [← ue] at hcB
 rw [← tf] at hcO
 rw [← hj] at hdec
 generalize repB j=kb at *
 generalize repO j=ko at *
 refine CF O ω (Ck (tn ?_))
 by_cases hRb:kb≤R2.length
 case neg =>
  rw [iH ω] at hdec
  refine Cy (bH h0 (ai O (bw (r:=(j:Int)) O O (by rw [ew ω];omega) (Lp (fo j C9 O O O hj3) (aC aQ O (H.old hcB (hS.1.g _ O)) (cm gx O (ew ω) (ri (k:=kb) H 0 O ro hS ω ω O O O ?_)))))))
  intro w a hF
  refine gr O (av O O (av O O (az O (bI O (Lt (Cs (Cy (db O (Lp (bu aX O O) (Lt ?_))))))))))
  refine Cp O ?_
  refine Cy (db O (bI O (Lt (Ct (aE (bL (aE (bL (aE ?_)))))))))
  exact ak O O (.inr ⟨hdec,⟨_,O⟩,hfW.trans hF⟩)
 case pos =>
 rw [ir hRb] at hdec
 simp only at hdec
 have hvb:val (R2.take kb)<128:=by
  have:=bK R2 kb
  have:2 ^ kb≤2 ^ 7:=Nat.pow_le_pow_right ω hB7
  omega
 refine Cy (bH h0 (ai O (bw (r:=(j:Int)) O O (by rw [ew ω];omega) (Lp (fo j C9 O O O hj3) (aC aQ O (H.old hcB (hS.1.g _ O)) (cm gx O (ew ω) (dB (k:=kb) H 0 O ro hS ω hRb O O O ?_)))))))
 intro w H
 refine gr O (av O O (av O O (az O (bI O (Lt ?_)))))
 generalize val (R2.take kb)=v at *
 generalize R2.drop kb=R3 at *
 refine Cs (Cy (db O (Lp (bj aX O O) (Lt (Cq O (Ck (tn (Cy (ai O (ai O (bw (r:=(j:Int)) O O (by rw [ew ω];omega) (Lp (fo j C9 O O O hj3) (aC aQ O (H.old hcO (hS.1.g _ O)) (cm gx O (ew ω) (ao (r:=((v+ko:Nat):Int)) O O (by rw [ew ω];omega) (az O (Ln ?_)))))))))))))))))
 refine tn (Cs (Cy (ai h16 (ai O (cm (r:=((v+ko:Nat):Int)) jT O (fg ω) (ao (r:=((acc.length+(v+ko):Nat):Int)) O O (by rw [fg ω];omega) (bU h1 (bG aZ O (Lp (e9 O O) (Lt ?_))))))))))
 by_cases hbig:n<acc.length+(v+ko)
 case pos =>
  rw [if_pos hbig] at hdec
  refine CT O ω (Cy (aC nk O (H.old hae (hS.1.g _ O)) (bI O (Lt (Ct (aE (bL (aE (bL (aE ?_))))))))))
  exact ak O O (.inr ⟨hdec,⟨_,O⟩,hfW.trans H.frm⟩)
 case neg =>
 rw [if_neg hbig] at hdec
 refine CF O ω (Ck (tn (Cy (az O (Lt (Cs (Cy (ai O (bF O O (Lt ?_))))))))))
 simp only [List.set_cons_zero] at H
 obtain ⟨rep,hrep⟩:∃ rep,rep=v+ko:=⟨_,rfl⟩
 obtain ⟨cl,hcl⟩:∃ cl,cl=if s=16 then prev else 0:=⟨_,rfl⟩
 rw [← hrep,← hcl] at hdec
 refine aH (fun ρ w' => ρ 0=.pointer (some ⟨σ.d,0,none⟩)∧ρ 1=.slice (aT bd) n n∧ρ 7=pT b7∧ρ 9=iT (ms - 1)∧ρ 15=.int .u32 (prev:Nat)∧ρ 16=iT acc.length ∧
  ρ 19=.int .u32 (rep:Nat)∧ρ 20=.int .u32 (cl:Nat)∧St w2 [σ.d,σ.rd,bd] [cD σ R3,aa bd (bM .u32 (fun j => acc.getD j 0) n) 36] w') ?_ ?_
 case refine_1 =>
  by_cases he16:s=16
  case pos =>
   rw [if_pos he16] at hcl
   refine CT O ω (Cr (ai h15 (az O (Lt ?_))))
   exact ⟨h0,h1,h7,O,h15,h16,by rw [hrep];rfl,by rw [hcl];rfl,H⟩
  case neg =>
   rw [if_neg he16] at hcl
   refine CF O ω (Ck (tn ?_))
   exact ⟨h0,h1,h7,O,h15,h16,by rw [hrep];rfl,by rw [hcl];rfl,H⟩
 case refine_2 =>
 have hrep0:3≤rep∧acc.length+rep≤n:=ω
 clear H h0 h1 h7 h9 h15 h16 hrep hcl hbig
 clear ρ
 rintro ρ w5 ⟨h0,h1,h7,h9,h15,h16,h19,h20,H⟩
 refine Cb ?_
 refine Cl (fun m ρ w' => ∃ q:Nat,m=rep - q∧q≤rep∧ρ 0=.pointer (some ⟨σ.d,0,none⟩)∧ρ 1=.slice (aT bd) n n∧ρ 7=pT b7∧ρ 9=iT (ms - 1)∧ρ 15=.int .u32 (prev:Nat)∧ρ 16=iT (acc.length+q) ∧
  ρ 19=.int .u32 ((rep - q:Nat):Int)∧ρ 20=.int .u32 (cl:Nat)∧St w2 [σ.d,σ.rd,bd] [cD σ R3,aa bd (bM .u32 (fun j => (acc++List.replicate q cl).getD j 0) n) 36] w') rep
  ⟨0,rfl,ω,h0,h1,h7,h9,h15,h16,h19,h20,by simpa using H⟩ ?_
 clear H h0 h1 h7 h9 h15 h16 h19 h20
 clear ρ
 rintro m ρ w6 ⟨q,rfl,hq,h0,h1,h7,h9,h15,h16,h19,h20,H⟩
 refine Cs (Cy (ai h19 (Lp (e9 O O) (Lt ?_))))
 by_cases hqr:q<rep
 case pos =>
  have hlq:(acc++List.replicate q cl).length=acc.length+q:=by simp
  refine CT O ω (Ck (tn (Cs (Cb (Cy (bU h1 (ai h16 (ai h20 (Lp (ci (acc.length+q) aZ O O O ω) (bC H 1 dY O O O (by rw [Nat.zero_add];exact af ω) ?_))))))))))
  intro w H
  refine Lt ?_
  simp only [Nat.zero_add,List.set_cons_succ,List.set_cons_zero] at H
  rw [jQ (g:=fun j => (acc++List.replicate (q+1) cl).getD j 0) (by rw [List.replicate_succ',← List.append_assoc,qU,hlq,if_pos rfl]) (fun j hj hne => by rw [List.replicate_succ',← List.append_assoc,qU,hlq,if_neg hne])] at H
  refine Cr (ai h16 (ao (r:=((acc.length+(q+1):Nat):Int)) O O (by rw [fg ω];omega) (az O (Ln (aF (tn (Cr (ai h19 (bw (r:=((rep - (q+1):Nat):Int)) O O (by rw [ew ω];omega) (az O (Lt ?_)))))))))))
  exact ⟨rep - (q+1),ω,q+1,O,ω,h0,h1,h7,h9,h15,O,O,h20,H⟩
 case neg =>
 obtain rfl:q=rep:=ω
 have hlq:(acc++List.replicate q cl).length=acc.length+q:=by simp
 refine CF O ω (Cx (ax (ax (br (aF (tn ?_))))))
 exact ⟨n - (acc++List.replicate q cl).length,ω,k,acc++List.replicate q cl,ms - 1,prev,R3,O,ω,ω,hprev,ω,hdec,h0,h1,h7,h9,h15,by rw [hlq];exact h16,H⟩
end Go.Proofs.YtmgemcffhbnpfaaGreatDoor
namespace Go.Proofs.YtmgemcffhbnpfaaGreatDoor
abbrev jh (α:Type):=aM→Option (α × aM)
def pb {α β:Type} (p:jh α) (f:α→jh β):jh β:=fun R => match p R with
 | none => none
 | some (v,R1) => f v R1
def ret {α:Type} (v:α):jh α:=fun R => some (v,R)
def no {α:Type}:jh α:=fun _ => none
section
variable {α β:Type} {p:jh α} {f:α→jh β} {R R1:aM} {v:α}
theorem dp (h:p R=some (v,R1)):pb p f R=f v R1:=by unfold pb;rw [h]
theorem dN (h:p R=none):pb p f R=none:=by unfold pb;rw [h]
theorem eR {γ:Type} {g:β→jh γ} (p:jh α) (f:α→jh β) (R:aM):pb (pb p f) g R=pb p (fun v => pb (f v) g) R:=by
 unfold pb
 cases p R with
 | none => rfl
 | some q => rfl
def xQ (o:Option α):jh α:=match o with
 | some v => Go.Proofs.YtmgemcffhbnpfaaGreatDoor.ret v
 | none => no
def mu (p:jh α):Prop:=∀ R v R' X,p R=some (v,R')→p (R++X)=some (v,R'++X)
theorem mu.pb (hp:mu p) (hf:∀ v,mu (f v)):mu (pb p f):=by
 intro R u R' X h
 cases hR:p R with
 | none => rw [dN hR] at h;cases h
 | some q =>
  obtain ⟨v,R1⟩:=q
  rw [dp hR] at h
  rw [dp (hp _ _ _ X hR)]
  exact hf v _ _ _ X h
theorem mu.ret (v:α):mu (ret v):=fun R u R' X h => by
 simp only [Go.Proofs.YtmgemcffhbnpfaaGreatDoor.ret,Option.some.injEq,Prod.mk.injEq] at h ⊢
 obtain ⟨rfl,rfl⟩:=h
 exact ⟨O,O⟩
theorem mu.no:mu (no:jh α):=fun R u R' X h => by cases h
theorem Lc (o:Option α):mu (xQ o):=by cases o <;> first | exact mu.no | exact mu.ret _
theorem LE {c:Prop} [Decidable c] {q:jh α} (hp:mu p) (hq:mu q):mu (if c then p else q):=by split <;> assumption
theorem mu.map {g:α→β} (hp:mu p):mu fun R => (p R).map fun q => (g q.1,q.2):=by
 intro R u R' X h
 simp only [Option.map_eq_some_iff] at h ⊢
 obtain ⟨⟨v,R1⟩,h1,h2⟩:=h
 simp only [Prod.mk.injEq] at h2
 obtain ⟨rfl,rfl⟩:=h2
 exact ⟨_,hp _ _ _ X h1,O⟩
theorem LR {q:jh α} (hp:mu p) (h:∀ R,q R=p R):mu q:=by
 have:q=p:=funext h
 exact this ▸ hp
theorem LK (hp:mu p) {X Z:aM} (h:p (X++Z)=some (v,[])) (hZ:Z≠[]):p X=none:=by
 cases hX:p X with
 | none => rfl
 | some q =>
  obtain ⟨u,R'⟩:=q
  have:=hp _ _ _ Z hX
  rw [h] at this
  simp only [Option.some.injEq,Prod.mk.injEq] at this
  obtain ⟨_,h2⟩:=this
  have:=congrArg List.length h2
  simp only [List.length_nil,List.length_append] at this
  exact absurd (List.length_eq_zero_iff.1 (by omega:Z.length=0)) hZ
def d7 (p:jh α) (X:aM) (v:α):Prop:=∀ Y,p (X++Y)=some (v,Y)
theorem d7.pb {X Z:aM} {u:β} (h:d7 p X v) (k:d7 (f v) Z u):d7 (pb p f) (X++Z) u:=fun Y => by
 rw [List.append_assoc,dp (h _)]
 exact k Y
theorem d7.ret (v:α):d7 (ret v) [] v:=fun Y => rfl
theorem uQ {q:jh α} {X:aM} (h:d7 p X v) (he:∀ R,q R=p R):d7 q X v:=fun Y => by rw [he];exact h Y
theorem d7.nil {X:aM} (h:d7 p X v):p X=some (v,[]):=by have:=h [];rwa [List.append_nil] at this
end
theorem wq (n:Nat) (R:aM):oy n R=pb (rd 1) (fun u => if u=0 then ret n else pb (rd 3) fun k => pb (rd (2+2 * k)) fun ms => if n<ms+2 then no else ret (ms+2)) R:=by
 unfold oy
 cases h1:rd 1 R with
 | none => rw [dN h1]
 | some q =>
  obtain ⟨u,R1⟩:=q
  rw [dp h1]
  simp only
  by_cases hu:u=0
  ·rw [if_pos hu,if_pos hu];rfl
  ·rw [if_neg hu,if_neg hu]
   cases h2:rd 3 R1 with
   | none => rw [dN h2]
   | some q =>
    obtain ⟨k,R2⟩:=q
    rw [dp h2]
    simp only
    cases h3:rd (2+2 * k) R2 with
    | none => rw [dN h3]
    | some q =>
     obtain ⟨ms,R3⟩:=q
     rw [dp h3]
     simp only
     split <;> rfl
theorem un (t:T) (n k:Nat) (acc:List Nat) (ms prev:Nat) (R:aM):il t n (k+1) acc ms prev R =
  (if n≤acc.length then ret acc else if ms=0 then ret (acc++List.replicate (n - acc.length) 0) else pb t.walk fun s =>
   if s<16 then il t n k (acc++[s]) (ms - 1) (if s≠0 then s else prev) else pb (rd (repB (s - 16))) fun v =>
    if n<acc.length+(v+repO (s - 16)) then no else il t n k (acc++List.replicate (v+repO (s - 16)) (if s=16 then prev else 0)) (ms - 1) prev) R:=by
 rw [nM]
 by_cases hn:n≤acc.length
 ·rw [if_pos hn,if_pos hn];rfl
 rw [if_neg hn,if_neg hn]
 by_cases hm:ms=0
 ·rw [if_pos hm,if_pos hm];rfl
 rw [if_neg hm,if_neg hm]
 cases h1:t.walk R with
 | none => rw [dN h1]
 | some q =>
  obtain ⟨s,R1⟩:=q
  rw [dp h1]
  simp only
  by_cases h16:s<16
  ·rw [if_pos h16,if_pos h16]
  rw [if_neg h16,if_neg h16]
  cases h2:rd (repB (s - 16)) R1 with
  | none => rw [dN h2]
  | some q =>
   obtain ⟨v,R2⟩:=q
   rw [dp h2]
   simp only
   split <;> rfl
theorem s9 (n:Nat) (ccl:List Nat) (R:aM):mf n ccl R=(match dX ccl with
 | none => no
 | some t => pb (oy n) fun ms => il t n n [] ms 8) R:=by
 unfold mf
 cases dX ccl with
 | none => rfl
 | some t =>
  simp only
  cases h:oy n R with
  | none => rw [dN h]
  | some q => obtain ⟨ms,R1⟩:=q;rw [dp h]
end Go.Proofs.YtmgemcffhbnpfaaGreatDoor
namespace Go.Proofs.YtmgemcffhbnpfaaGreatDoor
open Go
def ry (i:Nat):Nat:=bY.getD i 0
theorem xk:∀ i,i<19→ry i<19:=δ
theorem Dl (i:Nat):ry i=bY.getD i 0:=rfl
attribute [irreducible] ry
def lG:Nat→Nat→(Nat→Nat)→jh (Nat→Nat)
 | 0,i,f => ret f
 | k+1,i,f => pb (rd 3) fun v => lG k (i+1) (fun j => if j=ry i then v else f j)
def ow (A:Nat):jh T:=pb (rd 1) fun ns => pb (rd 1) fun f => pb (rd (7 * f+1)) fun s0 =>
 if ns=1 then pb (rd 8) fun s1 => xQ (eU 2 s0 s1 A) else xQ (eU 1 s0 0 A)
def kv (A:Nat):jh T:=pb (rd 4) fun nc => if 19<nc+4 then no else pb (lG (nc+4) 0 (fun _ => 0)) fun f => pb (mf A ((List.range 19).map f)) fun ls => xQ (dX ls)
def nz (A:Nat):jh T:=pb (rd 1) fun u => if u=0 then kv A else ow A
end Go.Proofs.YtmgemcffhbnpfaaGreatDoor
namespace Go.Proofs.YtmgemcffhbnpfaaGreatDoor
def fQ (a r g b:Nat):Nat:=((a * 256+r) * 256+g) * 256+b
def pA (p:Nat):Nat:=p / 16777216 % 256
def pR (p:Nat):Nat:=p / 65536 % 256
def pG (p:Nat):Nat:=p / 256 % 256
def pB (p:Nat):Nat:=p % 256
def CS (p:Nat) (k:Nat):Nat:=if k=0 then pR p else if k=1 then pG p else if k=2 then pB p else pA p
def ap (l:List Nat) (j:Nat):Nat:=CS (l.getD (j / 4) 0) (j % 4)
def aq (n b:Nat):Nat:=(n+2 ^ b - 1) / 2 ^ b
def lz (s:Nat):jh Nat:=if s<4 then ret (s+1) else pb (rd ((s - 2) / 2)) fun n => ret ((2+s % 2) * 2 ^ ((s - 2) / 2)+n+1)
def lg (i:Nat):Nat:=eT.getD i 0
def eX (w c:Nat):Nat:=if 120<c then c - 120 else if lg (c - 1) / 16 * w+8<lg (c - 1) % 16+1 then 1 else lg (c - 1) / 16 * w+8 - lg (c - 1) % 16
def dZ (cc p:Nat):Nat:=p * 506832829 % 4294967296 / 2 ^ (32 - cc)
def dv (cc:Nat) (acc:List Nat) (i:Nat):Nat:=acc.foldl (fun v p => if dZ cc p=i then p else v) 0
def fN (d:Nat):Nat→List Nat→List Nat
 | 0,acc => acc
 | n+1,acc => fN d n (acc++[acc.getD (acc.length - d) 0])
def yA (w n cc:Nat) (g:Nat→T) (acc:List Nat):jh (List Nat) :=
 pb (g 0).walk fun s =>
  if s<256 then pb (g 1).walk fun r => pb (g 2).walk fun b => pb (g 3).walk fun a => ret (acc++[fQ a r s b])
  else if s<280 then pb (lz (s - 256)) fun len => pb (g 4).walk fun ds => pb (lz ds) fun dc =>
   if acc.length<eX w dc∨n<acc.length+len then no else ret (fN (eX w dc) len acc)
  else if cc=0∨2 ^ cc≤s - 280 then no else ret (acc++[dv cc acc (s - 280)])
def iz (w n cc:Nat) (grp:Nat→Nat→T):Nat→List Nat→jh (List Nat)
 | 0,acc => ret acc
 | k+1,acc => if n≤acc.length then ret acc else pb (yA w n cc (grp acc.length) acc) (iz w n cc grp k)
def ut:jh Nat:=pb (rd 1) fun u => if u=0 then ret 0 else pb (rd 4) fun c => if c<1∨11<c then no else ret c
def bm (cc j:Nat):Nat:=if j=0 then 280+(if cc=0 then 0 else 2 ^ cc) else if j=4 then 40 else 256
def eC (cc:Nat):Nat→Nat→jh (List T)
 | 0,i => ret []
 | k+1,i => pb (nz (bm cc (i % 5))) fun t => pb (eC cc k (i+1)) fun ts => ret (t :: ts)
def bB (px:List Nat):Nat:=px.foldl (fun m p => max m (p / 256 % 65536)) 0
def dF (hb tpr:Nat) (hpx:List Nat) (w at_:Nat):Nat:=if hb=0 then 0 else hpx.getD (tpr * (at_ / w / 2 ^ hb)+at_ % w / 2 ^ hb) 0 / 256 % 65536
def gL (mt:jh (Nat × List Nat)) (cc:Nat):jh ((Nat × List Nat) × List T):=pb mt fun m => pb (eC cc (5 * (bB m.2+1)) 0) fun ts => ret (m,ts)
def rH (w:Nat) (q:(Nat × List Nat) × List T) (at_ j:Nat):T:=q.2.getD (5 * dF q.1.1 (aq w q.1.1) q.1.2 w at_+j) (.leaf 0)
def qR (mt:jh (Nat × List Nat)) (w h:Nat):jh (List Nat):=pb ut fun cc => pb (gL mt cc) fun q => iz w (w * h) cc (rH w q) (w * h) []
def ip (w h:Nat):jh (List Nat):=qR (ret (0,[])) w h
def zq (w h:Nat):jh (Nat × List Nat):=pb (rd 1) fun u => if u=0 then ret (0,[]) else pb (rd 3) fun b => pb (ip (aq w (b+2)) (aq h (b+2))) fun px => ret (b+2,px)
def tj (top:Bool) (w h:Nat):jh (Nat × List Nat):=if top then zq w h else ret (0,[])
def gT (top:Bool) (w h:Nat):jh (List Nat):=qR (tj top w h) w h
structure Tr where
 kind:Nat
 wd:Nat
 bits:Nat
 px:List Nat
def da (p q:Nat):Nat:=fQ ((pA p+pA q) % 256) ((pR p+pR q) % 256) ((pG p+pG q) % 256) ((pB p+pB q) % 256)
def i4 (f:List Nat→Nat→Nat):List Nat→List Nat→List Nat
 | acc,[] => acc
 | acc,p :: l => i4 f (acc++[f acc p]) l
def mN (l:List Nat):List Nat:=i4 (fun acc p => if acc.length=0 then p else da p (acc.getD (acc.length - 1) 0)) [] l
def b0 (n:Nat):Nat:=if n≤2 then 3 else if n≤4 then 2 else if n≤16 then 1 else 0
def rU (w h:Nat):jh (Tr × Nat):=pb (rd 2) fun k =>
 if k≤1 then pb (rd 3) fun b => pb (ip (aq w (b+2)) (aq h (b+2))) fun px => ret (⟨k,w,b+2,px⟩,w)
 else if k=2 then ret (⟨2,w,0,[]⟩,w)
 else pb (rd 8) fun n => pb (ip (n+1) 1) fun px => ret (⟨3,w,b0 (n+1),mN px⟩,aq w (b0 (n+1)))
def kQ (h:Nat):Nat→Nat→List Tr→jh (List Tr × Nat)
 | 0,w,l => no
 | k+1,w,l => pb (rd 1) fun u => if u=0 then ret (l,w) else pb (rU w h) fun t => if l.any (·.kind=t.1.kind) then no else kQ h k t.2 (l++[t.1])
def l5:jh (Nat × Nat):=pb (rd 8) fun m => if m≠47 then no else pb (rd 14) fun w => pb (rd 14) fun h => pb (rd 1) fun _ => pb (rd 3) fun v => if v≠0 then no else ret (w+1,h+1)
structure L0 where
 w:Nat
 h:Nat
 trs:List Tr
 px:List Nat
def L1:jh L0:=pb l5 fun q => pb (kQ q.2 5 q.1 []) fun t => pb (gT true t.2 q.2) fun px => ret ⟨q.1,q.2,t.1,px⟩
theorem d9 {α β:Type} {p:jh α} {f:α→jh β} {R R':aM} {u:β} (h:pb p f R=some (u,R')):∃ v R1,p R=some (v,R1)∧f v R1=some (u,R'):=by
 cases hp:p R with
 | none => rw [dN hp] at h;cases h
 | some q => obtain ⟨v,R1⟩:=q;rw [dp hp] at h;exact ⟨v,R1,rfl,h⟩
theorem iY {α:Type} {v u:α} {R R':aM} (h:ret v R=some (u,R')):v=u∧R=R':=by simpa [ret] using h
theorem uP {α:Type} {o:Option α} {u:α} {R R':aM} (h:xQ o R=some (u,R')):o=some u∧R=R':=by
 cases o with
 | none => cases h
 | some v => obtain ⟨rfl,rfl⟩:=iY h;exact ⟨rfl,rfl⟩
theorem T.symLt.mono {n m:Nat} (h:n≤m):∀ {t:T},t.symLt n→t.symLt m
 | .leaf s,hs => Nat.lt_of_lt_of_le hs h
 | .node a b,hs => ⟨T.symLt.mono h hs.1,T.symLt.mono h hs.2⟩
theorem si {n s0 s1 A:Nat} {u:T} (h:eU n s0 s1 A=some u):u.symLt A:=by
 unfold eU at h
 split at h
 ·split at h
  ·simp only [Option.some.injEq] at h;subst h;assumption
  ·cases h
 ·split at h
  ·rename_i hs
   simp only [Option.some.injEq] at h;subst h;exact hs
  ·cases h
theorem xR {n:Nat} {ccl:List Nat} {R:aM} {ls:List Nat} {R':aM} (hc:ccl.length=19) (h:mf n ccl R=some (ls,R')):ls.length=n∧∀ x ∈ ls,x<16:=by
 rw [s9] at h
 cases hb:dX ccl with
 | none => rw [hb] at h;cases h
 | some t =>
  rw [hb] at h
  have ht:=oV hb
  rw [hc] at ht
  simp only at h
  obtain ⟨ms,R1,_,h⟩:=d9 h
  exact Bl ht n [] ms 8 R1 ls R' (by simp) (by simp) (by simp) ω h
theorem BU {A:Nat} {R R':aM} {u:T} (h:nz A R=some (u,R')):u.symLt A:=by
 obtain ⟨c,R1,_,h⟩:=d9 h
 split at h
 ·obtain ⟨nc,R2,_,h⟩:=d9 h
  split at h
  ·cases h
  ·obtain ⟨f,R3,_,h⟩:=d9 h
   obtain ⟨ls,R4,h4,h⟩:=d9 h
   obtain ⟨hl,_⟩:=xR (by simp) h4
   have:=oV (uP h).1
   rwa [hl] at this
 ·obtain ⟨ns,R2,_,h⟩:=d9 h
  obtain ⟨f,R3,_,h⟩:=d9 h
  obtain ⟨s0,R4,_,h⟩:=d9 h
  split at h
  ·obtain ⟨s1,R5,_,h⟩:=d9 h
   exact si (uP h).1
  ·exact si (uP h).1
theorem rG {cc:Nat}:∀ (k i:Nat) {R R':aM} {ts:List T},eC cc k i R=some (ts,R')→ts.length=k∧∀ j,j<k→(ts.getD j (.leaf 0)).symLt (bm cc ((i+j) % 5))
 | 0,i,R,R',ts,h => by
  obtain ⟨rfl,_⟩:=iY h
  exact ⟨O,fun j hj => ω⟩
 | k+1,i,R,R',ts,h => by
  obtain ⟨t,R1,ht,h⟩:=d9 h
  obtain ⟨ts',R2,hts,h⟩:=d9 h
  obtain ⟨rfl,_⟩:=iY h
  obtain ⟨h1,h2⟩:=rG k (i+1) hts
  refine ⟨by simp [h1],fun j hj => ?_⟩
  cases j with
  | zero => exact BU ht
  | succ j => have:=h2 j ω;rw [show i+1+j=i+(j+1) by omega] at this;simpa using this
theorem lI (d:Nat):∀ (n:Nat) (acc:List Nat),(fN d n acc).length=acc.length+n
 | 0,acc => rfl
 | n+1,acc => by rw [fN,lI d n];simp;omega
end Go.Proofs.YtmgemcffhbnpfaaGreatDoor
namespace Go.Proofs.YtmgemcffhbnpfaaGreatDoor
open Go
section
variable {a b:Nat}
theorem ck (h:a+b≤9223372036854775807):IntKind.i64.wrap ((a:Int)+(b:Int))=((a+b:Nat):Int):=by rw [fg ω];omega
theorem fX (h:a+b≤2147483647):IntKind.i32.wrap ((a:Int)+(b:Int))=((a+b:Nat):Int):=by rw [jm ω];omega
theorem nT (h:a+b≤4294967295):IntKind.u32.wrap ((a:Int)+(b:Int))=((a+b:Nat):Int):=by rw [ew ω];omega
theorem i5:IntKind.u8.wrap ((a:Int)+(b:Int))=(((a+b) % 256:Nat):Int):=by rw [Kc];omega
theorem iw (h:b≤a∧a≤9223372036854775807):IntKind.i64.wrap ((a:Int) - (b:Int))=((a - b:Nat):Int):=by rw [fg ω];omega
theorem nZ (h:b≤a∧a≤2147483647):IntKind.i32.wrap ((a:Int) - (b:Int))=((a - b:Nat):Int):=by rw [jm ω];omega
theorem Fd (h:b≤a∧a≤4294967295):IntKind.u32.wrap ((a:Int) - (b:Int))=((a - b:Nat):Int):=by rw [ew ω];omega
theorem xw:(a:Int) * (b:Int)=((a * b:Nat):Int):=(Int.natCast_mul a b).symm
theorem pK (h:a * b≤9223372036854775807):IntKind.i64.wrap ((a:Int) * (b:Int))=((a * b:Nat):Int):=by rw [xw,fg ω]
theorem CJ (h:a * b≤2147483647):IntKind.i32.wrap ((a:Int) * (b:Int))=((a * b:Nat):Int):=by rw [xw,jm ω]
theorem KM (h:a * b≤4294967295):IntKind.u32.wrap ((a:Int) * (b:Int))=((a * b:Nat):Int):=by rw [xw,ew ω]
theorem Dt (h:a≤9223372036854775807):IntKind.i64.wrap ((a:Int).tdiv (b:Int))=((a / b:Nat):Int):=by
 have:(a:Int).tdiv (b:Int)=((a / b:Nat):Int):=rfl
 have h2:=Nat.div_le_self a b
 rw [this]
 generalize a / b=q at *
 rw [fg ω]
theorem Ml (h:a≤2147483647):IntKind.i32.wrap ((a:Int).tdiv (b:Int))=((a / b:Nat):Int):=by
 have:(a:Int).tdiv (b:Int)=((a / b:Nat):Int):=rfl
 have h2:=Nat.div_le_self a b
 rw [this]
 generalize a / b=q at *
 rw [jm ω]
theorem rN:(a:Int).tmod (b:Int)=((a % b:Nat):Int):=rfl
theorem I_ {k:IntKind} (hb:b≤k.bits) (hw:k.wrap ((a * 2 ^ b:Nat):Int)=((a * 2 ^ b:Nat):Int)):k.wrap ((a:Int) * 2 ^ min (b:Int).toNat k.bits)=((a * 2 ^ b:Nat):Int):=by
 rw [Int.toNat_natCast,Nat.min_eq_left hb]
 refine Eq.trans ?_ hw
 congr 1
theorem x7 (h:b≤64∧a * 2 ^ b≤9223372036854775807):IntKind.i64.wrap ((a:Int) * 2 ^ min (b:Int).toNat IntKind.i64.bits)=((a * 2 ^ b:Nat):Int):=I_ h.1 (fg ω)
theorem LV (h:b≤32∧a * 2 ^ b≤2147483647):IntKind.i32.wrap ((a:Int) * 2 ^ min (b:Int).toNat IntKind.i32.bits)=((a * 2 ^ b:Nat):Int):=I_ h.1 (jm ω)
theorem yn (h:b≤32∧a * 2 ^ b≤4294967295):IntKind.u32.wrap ((a:Int) * 2 ^ min (b:Int).toNat IntKind.u32.bits)=((a * 2 ^ b:Nat):Int):=I_ h.1 (ew ω)
theorem jd {k:IntKind} (hb:b≤k.bits):(a:Int).fdiv (2 ^ min (b:Int).toNat k.bits)=((a / 2 ^ b:Nat):Int):=by
 rw [Int.toNat_natCast,Nat.min_eq_left hb,show ((2:Int) ^ b)=((2 ^ b:Nat):Int) by simp,Int.fdiv_eq_ediv_of_nonneg _ (Int.natCast_nonneg _)]
 exact (Int.natCast_ediv a (2 ^ b)).symm
theorem zI {B:Nat} (ha:a<2 ^ B) (hb:b<2 ^ B):(BitVec.ofInt B (a:Int) &&& BitVec.ofInt B (b:Int)).toNat=a &&& b:=by
 rw [BitVec.toNat_and,BitVec.ofInt_natCast,BitVec.ofInt_natCast,BitVec.toNat_ofNat,BitVec.toNat_ofNat,Nat.mod_eq_of_lt ha,Nat.mod_eq_of_lt hb]
theorem GN {B:Nat} (ha:a<2 ^ B) (hb:b<2 ^ B):(BitVec.ofInt B (a:Int) ||| BitVec.ofInt B (b:Int)).toNat=a ||| b:=by
 rw [BitVec.toNat_or,BitVec.ofInt_natCast,BitVec.ofInt_natCast,BitVec.toNat_ofNat,BitVec.toNat_ofNat,Nat.mod_eq_of_lt ha,Nat.mod_eq_of_lt hb]
theorem Kj {B:Nat} (ha:a<2 ^ B) (hb:b<2 ^ B):(BitVec.ofInt B (a:Int) ^^^ BitVec.ofInt B (b:Int)).toNat=a ^^^ b:=by
 rw [BitVec.toNat_xor,BitVec.ofInt_natCast,BitVec.ofInt_natCast,BitVec.toNat_ofNat,BitVec.toNat_ofNat,Nat.mod_eq_of_lt ha,Nat.mod_eq_of_lt hb]
theorem L8 (h:a<2 ^ 63∧b<2 ^ 63):sL .i64 (a:Int) (b:Int)=((a &&& b:Nat):Int):=by
 have h2:a &&& b<2 ^ 63:=Nat.and_lt_two_pow _ h.2
 show IntKind.i64.wrap ((BitVec.ofInt 64 _ &&& BitVec.ofInt 64 _).toNat:Int)=_
 rw [zI ω ω,fg ω]
theorem La (h:a<2 ^ 31∧b<2 ^ 31):sL .i32 (a:Int) (b:Int)=((a &&& b:Nat):Int):=by
 have h2:a &&& b<2 ^ 31:=Nat.and_lt_two_pow _ h.2
 show IntKind.i32.wrap ((BitVec.ofInt 32 _ &&& BitVec.ofInt 32 _).toNat:Int)=_
 rw [zI ω ω,jm ω]
theorem G0 (h:a<2 ^ 32∧b<2 ^ 32):sL .u32 (a:Int) (b:Int)=((a &&& b:Nat):Int):=by
 have h2:a &&& b<2 ^ 32:=Nat.and_lt_two_pow _ h.2
 show IntKind.u32.wrap ((BitVec.ofInt 32 _ &&& BitVec.ofInt 32 _).toNat:Int)=_
 rw [zI ω ω,ew ω]
theorem Mi (h:a<2 ^ 8∧b<2 ^ 8):sL .u8 (a:Int) (b:Int)=((a &&& b:Nat):Int):=by
 have h2:a &&& b<2 ^ 8:=Nat.and_lt_two_pow _ h.2
 show IntKind.u8.wrap ((BitVec.ofInt 8 _ &&& BitVec.ofInt 8 _).toNat:Int)=_
 rw [zI ω ω,yl ω]
theorem Mc (h:a<2 ^ 63∧b<2 ^ 63):H9 .i64 (a:Int) (b:Int)=((a ||| b:Nat):Int):=by
 have h2:a ||| b<2 ^ 63:=Nat.or_lt_two_pow h.1 h.2
 show IntKind.i64.wrap ((BitVec.ofInt 64 _ ||| BitVec.ofInt 64 _).toNat:Int)=_
 rw [GN ω ω,fg ω]
theorem Cm (h:a<2 ^ 32∧b<2 ^ 32):H9 .u32 (a:Int) (b:Int)=((a ||| b:Nat):Int):=by
 have h2:a ||| b<2 ^ 32:=Nat.or_lt_two_pow h.1 h.2
 show IntKind.u32.wrap ((BitVec.ofInt 32 _ ||| BitVec.ofInt 32 _).toNat:Int)=_
 rw [GN ω ω,ew ω]
theorem MB (h:a<2 ^ 8∧b<2 ^ 8):H9 .u8 (a:Int) (b:Int)=((a ||| b:Nat):Int):=by
 have h2:a ||| b<2 ^ 8:=Nat.or_lt_two_pow h.1 h.2
 show IntKind.u8.wrap ((BitVec.ofInt 8 _ ||| BitVec.ofInt 8 _).toNat:Int)=_
 rw [GN ω ω,yl ω]
theorem Mn (h:a≤9223372036854775807):IntKind.i64.wrap (a:Int)=(a:Int):=fg ω
theorem c32 (h:a≤2147483647):IntKind.i32.wrap (a:Int)=(a:Int):=jm ω
theorem Md:IntKind.u32.wrap (a:Int)=((a % 4294967296:Nat):Int):=by rw [vd];omega
theorem Jx:IntKind.u8.wrap (a:Int)=((a % 256:Nat):Int):=by rw [Kc];omega
end
section
variable {P:Program} {e:Operand→Value} {d:Option Tmp} {ty:TypeId} {pos:String} {after:Array Edge} {g:Option (Nat × Bool)} {w:World}
variable {t:TypeId} {x y:Operand} {k:IntKind} {m:Int}
theorem bO {el b l c:Nat} (j:Nat) (F:SL P t el 1) (hx:e x=.slice (aT b) l c) (hy:e y=.int k m) (hj:m=(j:Int)) (hl:j<l) :
  dE P e ⟨d,.indexAddr t x y,ty,pos,after,g⟩ w (.pointer (some ⟨b,j,none⟩)) w:=by
 have:=ci (ty:=ty) (pos:=pos) (after:=after) (g:=g) (d:=d) (w:=w) j F hx hy hj hl
 rwa [Nat.zero_add] at this
theorem dU {nn dd:Nat}{Q:cY}{ρ:dK}{ops:Array Oper}{rest:List Oper} {el b l c:Nat} {j:Nat} (F:SL P t el 1) (hx:ev ρ x=.slice (aT b) l c) (hy:ev ρ y=.int k m) (hj:m=(j:Int))(h':VL P nn ops Q rest (eW ρ dd (.pointer (some ⟨b,j,none⟩))) w)(hl:j<l:=by omega)(hd:Nat.blt dd nn=true:=by exact rfl):VL P nn ops Q (⟨some dd,.indexAddr t x y,ty,pos,after,none⟩::rest) ρ w:=Lp (bO _ F hx hy hj hl) h' hd
theorem aR {nn dd:Nat}{K:dK → Prop}{ρ:dK}{ops:Array Oper}{rest:List Oper} {el b l c:Nat} {j:Nat} (F:SL P t el 1) (hx:ev ρ x=.slice (aT b) l c) (hy:ev ρ y=.int k m) (hj:m=(j:Int))(h':VS P nn ops w K rest (eW ρ dd (.pointer (some ⟨b,j,none⟩))))(hl:j<l:=by omega)(hd:Nat.blt dd nn=true:=by exact rfl):VS P nn ops w K (⟨some dd,.indexAddr t x y,ty,pos,after,none⟩::rest) ρ:=Sp (bO _ F hx hy hj hl) h' hd
theorem jB {el len b:Nat} (j:Nat) (F:AR P t len el 1) (hx:e x=pT b) (hy:e y=.int k m) (hj:m=(j:Int)) (hl:j<len) :
  dE P e ⟨d,.indexAddr t x y,ty,pos,after,g⟩ w (.pointer (some ⟨b,j,none⟩)) w:=by
 have:=fo (ty:=ty) (pos:=pos) (after:=after) (g:=g) (d:=d) (w:=w) j F hx hy hj hl
 rwa [Nat.zero_add] at this
end
section
variable {w0 w:World} {S:List Nat} {l:List e_} {P:Program} {n:Nat} {ops:Array Oper} {Q:cY} {rest:List Oper} {ρ:dK} {ty:TypeId} {pos:String} {after:Array Edge} {t tt:TypeId} {x y:Operand} {b off nn:Nat}
theorem aP {k:IntKind} {f:Nat→Nat} {v:Nat} (H:St w0 S l w) (i:Nat) (F:vK P t) (hx:ev ρ x=.pointer (some ⟨b,off,none⟩)) (hi:l[i]?=some (aa b (bM k f nn) tt)) (hy:ev ρ y=.int k (v:Nat)) (ho:off<nn)
  (h:∀ w',St w0 S (l.set i (aa b (bM k (fun j => if j=off then v else f j) nn) tt)) w'→VL P n ops Q rest ρ w'):VL P n ops Q (⟨none,.store t x y,ty,pos,after,none⟩ :: rest) ρ w :=
 bC H i F hx hi hy (af ho) fun w' H' => h w' (by rwa [jQ (g:=fun j => if j=off then v else f j) (if_pos rfl) (fun j _ hne => if_neg hne)] at H')
theorem Ie {fuel:Nat} {listed:Array Bool} {lo:List Oper} {k:IntKind} {f:Nat→Nat} {v:Nat} (i:Nat) (hio:lo[i]?=some ⟨none,.store t x y,ty,pos,after,none⟩) (hr:Region.ready .any lo.toArray listed=[i]) (H:St w0 S l w) (j:Nat) (F:vK P t) (hx:ev ρ x=.pointer (some ⟨b,off,none⟩)) (hi:l[j]?=some (aa b (bM k f nn) tt)) (hy:ev ρ y=.int k (v:Nat)) (ho:off<nn)
  (h:∀ w',St w0 S (l.set j (aa b (bM k (fun j => if j=off then v else f j) nn) tt)) w'→VH P n lo.toArray Q (cf S w0) fuel (listed.setIfInBounds i true) ρ w'):VH P n lo.toArray Q (cf S w0) (fuel+1) listed ρ w :=
 zu i hio hr H j F hx hi hy (af ho) fun w' H' => h w' (by rwa [jQ (g:=fun j => if j=off then v else f j) (if_pos rfl) (fun j _ hne => if_neg hne)] at H')
theorem bZ {f:FuncId} {xs:Array Operand} {ts:Array TypeId} {d:Nat} {vs:List Value} {v:Value}
  (hd:Nat.blt d n=true) (he:fZ P f) (hc:Calls P f vs.toArray w fun e w' => e=.returned v∧w'=w) (hx:xs.toList.map (ev ρ)=vs)
  (h:VL P n ops Q rest (eW ρ d v) w) :
  VL P n ops Q (⟨some d,.call ⟨.value (.func f),xs,ts⟩,ty,pos,after,none⟩ :: rest) ρ w :=
 aS hd he hc hx fun e w' hR => ⟨v,hR.1,hR.2 ▸ h⟩
end
theorem FP {w:World} {k:IntKind} {b:Nat} {f:Nat→Nat} {n:Nat} {t:TypeId} (h:ff w b (bM k f n) t):l7 w k b 0 ((List.range n).map f):=fun j hj => by
 simp only [List.length_map,List.length_range] at hj
 rw [Nat.zero_add]
 refine h.cellv ?_
 rw [af hj]
 simp
theorem Fv {w:World} {k:IntKind} {b:Nat} {ls:List Nat} {t:TypeId} {n:Nat} (hn:ls.length=n) (h:ff w b (bM k (fun j => ls.getD j 0) n) t):l7 w k b 0 ls:=fun j hj => by
 rw [Nat.zero_add]
 refine h.cellv ?_
 rw [af ω]
 simp [hj]
def J9 (σ:pL) (bg off:Nat) (cs:List Value) (tG:TypeId) (r:Option (T × aM)) (w:World) (e:Ending) (w':World):Prop :=
 (∃ u R' cs',r=some (u,R')∧e=.returned .nilIface∧(cD σ R').pred w'∧ff w' bg cs' tG∧d_ cs cs' off∧li w.heap.size w' cs' off u∧cf [σ.d,σ.rd,bg] w w') ∨
 (r=none∧(∃ a,e=.returned (.iface 149 (.pointer (some a))))∧cf [σ.d,σ.rd,bg] w w')
theorem EA (σ:pL) (R:aM) (W:World) (bg off A:Nat) (cs:List Value) (tG:TypeId) (D:(cD σ R).pred W) (ro:RO σ W) (hbg:ff W bg cs tG) (hraw:Ep cs off)
  (hS:zG σ [σ.d,σ.rd,bg]) (hne:bg≠σ.d∧bg≠σ.rd) (hg1:nG≤bg) (hA:A≤30000) :
  Calls Tryz.prog 84 #[.pointer (some ⟨σ.d,0,none⟩),.pointer (some ⟨bg,off,none⟩),.int .u32 (A:Nat)] W (J9 σ bg off cs tG (nz A R) W):=by
 have H:St W [σ.d,σ.rd,bg] [cD σ R,aa bg cs tG] W:=by
  refine St.cons (St.one hbg ⟨cw _ _ _,dW _ _ _⟩ (by simp [aa])) D (cK σ R) (by simp [cD]) ?_
  intro r hr x hx hx2
  simp only [List.mem_singleton] at hr
  subst hr
  simp only [aa,List.mem_singleton] at hx2
  subst hx2
  simp only [cD,List.mem_cons,List.not_mem_nil,or_false] at hx
  rcases hx with rfl | rfl
  ·exact hne.1 O
  ·exact hne.2 O
 obtain ⟨ae,hae⟩:=ro.gl.badTree
 have hdec:nz A R=pb (rd 1) (fun u => if u=0 then kv A else ow A) R:=rfl
 refine enter (m:=118) Tryz.func84 O Tryz.ntmps84 O (Cy (bI O (Lt ?_)))
 by_cases hR_:1≤R.length
 case neg =>
  rw [dN (iH ω)] at hdec
  refine Cy (bH O (dJ (k:=1) H 0 O ro hS ω ω O O O ?_))
  intro w a H
  refine gr O (av O O (av O O (az O (bI O (Lt (Cs (Cy (db O (Lp (bu aX O O) (Lt ?_))))))))))
  refine Cp O ?_
  refine Cy (db O (bI O (Lt (Ct (aE ?_)))))
  have hF:=H.frm
  exact ak O O (.inr ⟨hdec,⟨_,O⟩,hF⟩)
 case pos =>
 rw [dp (ir hR_)] at hdec
 have hu:val (R.take (1))<2 ^ (1):=bK R (1)
 refine Cy (bH O (dB (k:=1) H 0 O ro hS ω hR_ O O O ?_))
 intro w H
 simp only [List.set] at H
 refine gr O (av O O (av O O (az O (bI O (Lt ?_)))))
 generalize val (R.take (1))=u at *
 generalize R.drop (1)=R1 at *
 clear hR_
 refine Cs (Cy (db O (Lp (bj aX O O) (Lt (Cq O (Ck (tn (Cs (Cy (ai O (Lp (mh O O) (Lt ?_))))))))))))
 by_cases hu:u=0
 case neg =>
  rw [if_neg hu,ow] at hdec
  refine CT O ω ?_
  by_cases hR_:1≤R1.length
  case neg =>
   rw [dN (iH ω)] at hdec
   refine Cy (bH O (dJ (k:=1) H 0 O ro hS ω ω O O O ?_))
   intro w a H
   refine gr O (av O O (av O O (az O (bI O (Lt (Cs (Cy (db O (Lp (bu aX O O) (Lt ?_))))))))))
   refine Cp O ?_
   refine Cy (db O (bI O (Lt (Ct (aE (aE ?_))))))
   have hF:=H.frm
   exact ak O O (.inr ⟨hdec,⟨_,O⟩,hF⟩)
  case pos =>
  rw [dp (ir hR_)] at hdec
  have hns:val (R1.take (1))<2 ^ (1):=bK R1 (1)
  refine Cy (bH O (dB (k:=1) H 0 O ro hS ω hR_ O O O ?_))
  intro w H
  simp only [List.set] at H
  refine gr O (av O O (av O O (az O (bI O (Lt ?_)))))
  generalize val (R1.take (1))=ns at *
  generalize R1.drop (1)=R2 at *
  clear hR_
  refine Cs (Cy (db O (Lp (bj aX O O) (Lt (Cq O (Ck (tn (Cy (ai O (ao O O (nT (b:=1) ω) (az O (Lt ?_))))))))))))
  by_cases hR_:1≤R2.length
  case neg =>
   rw [dN (iH ω)] at hdec
   refine Cy (bH O (dJ (k:=1) H 0 O ro hS ω ω O O O ?_))
   intro w a H
   refine gr O (av O O (av O O (az O (bI O (Lt (Cs (Cy (db O (Lp (bu aX O O) (Lt ?_))))))))))
   refine Cp O ?_
   refine Cy (db O (bI O (Lt (Ct (aE (aE ?_))))))
   have hF:=H.frm
   exact ak O O (.inr ⟨hdec,⟨_,O⟩,hF⟩)
  case pos =>
  rw [dp (ir hR_)] at hdec
  have hf:val (R2.take (1))<2 ^ (1):=bK R2 (1)
  refine Cy (bH O (dB (k:=1) H 0 O ro hS ω hR_ O O O ?_))
  intro w H
  simp only [List.set] at H
  refine gr O (av O O (av O O (az O (bI O (Lt ?_)))))
  generalize val (R2.take (1))=f at *
  generalize R2.drop (1)=R3 at *
  clear hR_
  refine Cs (Cy (db O (Lp (bj aX O O) (Lt (Cq O (Ck (tn (Cy (ai O (Lp (cX O O (KM (a:=7) ω)) (ao O O (nT (b:=1) ω) (az O (Lt (Cy (cE H IV O ?_)))))))))))))))
  intro w b12 hn12 hb12 H
  refine Lt ?_
  by_cases hR_:7 * f+1≤R3.length
  case neg =>
   rw [dN (iH ω)] at hdec
   refine Cy (bH O (ai O (dJ (k:=7 * f+1) H 1 O ro hS ω ω O O O ?_)))
   intro w a H
   refine gr O (av O O (av O O (Lp (jB 0 sn O O O ω) (bC H 0 dY O O O O ?_))))
   intro w H
   try simp only [List.set,List.eraseIdx] at H
   refine bI O (Lt (Cs (Cy (db O (Lp (bu aX O O) (Lt ?_))))))
   refine Cp O ?_
   refine Cy (db O (bI O (Lt (Ct (aE (aE ?_))))))
   have hF:=H.frm
   exact ak O O (.inr ⟨hdec,⟨_,O⟩,hF⟩)
  case pos =>
  rw [dp (ir hR_)] at hdec
  have hs0:val (R3.take (7 * f+1))<2 ^ (7 * f+1):=bK R3 (7 * f+1)
  refine Cy (bH O (ai O (dB (k:=7 * f+1) H 1 O ro hS ω hR_ O O O ?_)))
  intro w H
  simp only [List.set] at H
  refine gr O (av O O (av O O (Lp (jB 0 sn O O O ω) (bC H 0 dY O O O O ?_))))
  intro w H
  try simp only [List.set,List.eraseIdx] at H
  refine bI O (Lt ?_)
  generalize val (R3.take (7 * f+1))=s0 at *
  generalize R3.drop (7 * f+1)=R4 at *
  clear hR_
  refine Cs (Cy (db O (Lp (bj aX O O) (Lt (Cq O (Ck (tn ?_)))))))
  have hs0':s0<256:=Nat.lt_of_lt_of_le hs0 (Nat.pow_le_pow_right (n:=2) ω (by omega:7 * f+1≤8))
  refine Cs (Cy (ai O (bF O O (Lt ?_))))
  refine aH (fun ρ w' => ∃ s1 R5,nz A R=xQ (eU (ns+1) s0 s1 A) R5∧s1<256∧ρ 0=.pointer (some ⟨σ.d,0,none⟩)∧ρ 1=.pointer (some ⟨bg,off,none⟩)∧ρ 2=.int .u32 (A:Nat)∧ρ 9=.int .u32 ((ns+1:Nat):Int)∧ρ 12=pT b12 ∧
   St W [σ.d,σ.rd,bg] [aa b12 [.int .u32 (s0:Nat),.int .u32 (s1:Nat)] 187,cD σ R5,aa bg cs tG] w') ?_ ?_
  case refine_1 =>
   by_cases hn2:ns=1
   case pos =>
    subst hn2
    rw [if_pos rfl] at hdec
    refine CT O ω ?_
    by_cases hR_:8≤R4.length
    case neg =>
     rw [dN (iH ω)] at hdec
     refine Cy (bH O (dJ (k:=8) H 1 O ro hS ω ω O O O ?_))
     intro w a H
     refine gr O (av O O (av O O (Lp (jB 1 sn O O O ω) (bC H 0 dY O O O O ?_))))
     intro w H
     try simp only [List.set,List.eraseIdx] at H
     refine bI O (Lt (Cy (db O (Lp (bu aX O O) (Lt ?_)))))
     refine Cp O ?_
     refine Cy (db O (bI O (Lt (Ct (aE (aE ?_))))))
     have hF:=H.frm
     exact ak O O (.inr ⟨hdec,⟨_,O⟩,hF⟩)
    case pos =>
    rw [dp (ir hR_)] at hdec
    have hs1:val (R4.take (8))<2 ^ (8):=bK R4 (8)
    refine Cy (bH O (dB (k:=8) H 1 O ro hS ω hR_ O O O ?_))
    intro w H
    simp only [List.set] at H
    refine gr O (av O O (av O O (Lp (jB 1 sn O O O ω) (bC H 0 dY O O O O ?_))))
    intro w H
    try simp only [List.set,List.eraseIdx] at H
    refine bI O (Lt ?_)
    generalize val (R4.take (8))=s1 at *
    generalize R4.drop (8)=R5 at *
    clear hR_
    refine Cy (db O (Lp (bj aX O O) (Lt (Cq O (Ck (tn ?_))))))
    exact ⟨s1,R5,hdec,ω,O,O,O,O,O,H⟩
   case neg =>
    rw [if_neg hn2] at hdec
    obtain rfl:ns=0:=ω
    refine CF O ω (Ck (tn ?_))
    exact ⟨0,R4,hdec,ω,O,O,O,O,O,H⟩
  case refine_2 =>
  have hbW:bg<W.heap.size:=hbg.lt
  clear H hdec
  rintro ρ w3 ⟨s1,R5,hdec,hs1,h0,h1,h2,h9,h12,H⟩
  refine Cy (bH η (ai η (Lp (fH (cs:=[.int .u32 (s0:Nat),.int .u32 (s1:Nat)]) Jg h12 O (fun j hj => by rw [Nat.zero_add];exact (H.blk (i:=0) O).cell j)) (ai η (aS O K5 (C6 _ bg off cs tG (ns+1) s0 s1 A (ro.frm H hS).gl (H.blk (i:=2) O) hraw hg1 ω ω ω ω) O ?_)))))
  rintro e w2 hB
  have hB2:rj bg off cs tG (eU (ns+1) s0 s1 A) w3 e w2:=hB
  clear hB
  obtain ⟨v,rfl⟩:∃ v,e=.returned v:=by rcases hB2 with ⟨u,cs',_,rfl,_⟩ | ⟨_,⟨a,rfl⟩,_⟩ <;> exact ⟨_,rfl⟩
  refine ⟨v,O,?_⟩
  refine bI O (Lt (Ct (aE ?_)))
  rcases hB2 with ⟨u,cs',hT,he,hbg',hso,htc,hf⟩ | ⟨hT,⟨a,he⟩,hf⟩
  ·obtain rfl:=Ending.returned.inj he
   rw [hT] at hdec
   have hd:(cD σ R5).pred w2:=(cK σ R5).1 _ _ (fun b hb => hf.block b ((cK σ R5).2 _ (H.get (i:=1) rfl) b hb) (by
    simp only [cD,List.mem_cons,List.not_mem_nil,or_false] at hb
    simp only [List.mem_singleton]
    rintro rfl
    rcases hb with h | h
    ·exact hne.1 h
    ·exact hne.2 h)) (H.get (i:=1) O)
   exact ak O O (.inl ⟨u,R5,cs',hdec,O,hd,hbg',hso,htc.low H.high,H.frm.then hf (by simp)⟩)
  ·obtain rfl:=Ending.returned.inj he
   rw [hT] at hdec
   exact ak O O (.inr ⟨hdec,⟨_,O⟩,H.frm.then hf (by simp)⟩)
 case pos =>
 rw [if_pos hu,kv] at hdec
 refine CF O ω (Ck (tn ?_))
 by_cases hR_:4≤R1.length
 case neg =>
  rw [dN (iH ω)] at hdec
  refine Cy (bH O (dJ (k:=4) H 0 O ro hS ω ω O O O ?_))
  intro w a H
  refine gr O (av O O (av O O (az O (bI O (Lt (Cs (Cy (db O (Lp (bu aX O O) (Lt ?_))))))))))
  refine Cp O ?_
  refine Cy (db O (bI O (Lt (Ct (aE ?_)))))
  have hF:=H.frm
  exact ak O O (.inr ⟨hdec,⟨_,O⟩,hF⟩)
 case pos =>
 rw [dp (ir hR_)] at hdec
 have hnc:val (R1.take (4))<2 ^ (4):=bK R1 (4)
 refine Cy (bH O (dB (k:=4) H 0 O ro hS ω hR_ O O O ?_))
 intro w H
 simp only [List.set] at H
 refine gr O (av O O (av O O (az O (bI O (Lt ?_)))))
 generalize val (R1.take (4))=nc at *
 generalize R1.drop (4)=R2 at *
 clear hR_
 refine Cs (Cy (db O (Lp (bj aX O O) (Lt (Cq O (Ck (tn (Cy (ai O (ao O O (nT (b:=4) ω) (az O (Lt (Cs (Cy (ai O (cm jT O (fg ω) ?_))))))))))))))))
 refine Lp (e9 O O) (Lt ?_)
 by_cases h19:19<nc+4
 case pos =>
  rw [if_pos h19] at hdec
  refine CT O ω (Cy (aC nk O (H.old hae (hS.1.g _ O)) (bI O (Lt (Ct (aE ?_))))))
  exact ak O O (.inr ⟨hdec,⟨_,O⟩,H.frm⟩)
 case neg =>
 rw [if_neg h19] at hdec
 refine CF O ω (Ck (tn (Cy (Lp (CQ wz.1 κ D_) (cE H D_ O ?_)))))
 intro w b14 hn14 hb14 H
 refine dG H 0 IB O O O O O δ ?_
 intro w H
 refine Lt ?_
 rw [fK] at H
 refine Cs (Cy (az O (Lt (Cb ?_))))
 refine Cl (fun m ρ w' => ∃ (i:Nat) (f:Nat→Nat) (Ri:aM),m=nc+4 - i∧i≤nc+4∧(∀ j,f j<8)∧nz A R=pb (lG (nc+4 - i) i f) (fun f => pb (mf A ((List.range 19).map f)) fun ls => xQ (dX ls)) Ri ∧
  ρ 0=.pointer (some ⟨σ.d,0,none⟩)∧ρ 1=.pointer (some ⟨bg,off,none⟩)∧ρ 2=.int .u32 (A:Nat)∧ρ 13=.int .u32 ((nc+4:Nat):Int)∧ρ 14=pT b14∧ρ 15=.int .u32 (i:Nat) ∧
  St W [σ.d,σ.rd,bg] [aa b14 (bM .u32 f 19) 189,cD σ Ri,aa bg cs tG] w') (nc+4)
  ⟨0,fun _ => 0,R2,rfl,ω,by simp,hdec,rfl,rfl,rfl,rfl,rfl,rfl,H⟩ ?_
 have hb14W:W.heap.size≤b14:=hb14
 clear H hdec
 rintro m ρ w3 ⟨i,f,Ri,rfl,hi,hf8,hdec,h0,h1,h2,h13,h14,h15,H⟩
 refine Cs (Cy (ai η (ai η (bP O O (Lt ?_)))))
 by_cases hlt:i<nc+4
 case pos =>
  have ho:=ro.gl.order i (by show i<19;omega)
  rw [← Dl,Nat.zero_add] at ho
  have hol:=xk i ω
  rw [show nc+4 - i=(nc+4 - (i+1))+1 by omega,lG,eR] at hdec
  generalize ry i=oi at *
  refine CT O ω (Ck (tn (Cs (Cb ?_))))
  by_cases hR_:3≤Ri.length
  case neg =>
   rw [dN (iH ω)] at hdec
   refine Cs ?_
   refine VC.held (cf [σ.d,σ.rd,bg] W) aJ (by with_reducible repeat (first | refine fB ?_ | refine eP.blk ?_ | refine fy ?_ | refine dP ?_ | exact eP.done)) ?_
   intro w hsame
   replace H:=H.same hsame
   refine Ht 3 O κ κ κ O H.frm (fun w hI => YP h0) (Ht 0 O κ κ κ O H.frm (fun w hI => YI h15) (Ht 1 O κ κ κ O H.frm (fun w hI => jB i G3 O O O ω) (Ht 2 O κ κ κ O H.frm (fun w hI => ef aQ O (hI.cell ho (hS.1.g _ O))) (Fw (k:=3) 4 O κ H 1 O ro hS ω ω O O O ?_))))
   intro w a H
   refine Ht 5 O κ κ κ O H.frm (fun w hI => uq O) (Ht 6 O κ κ κ O H.frm (fun w hI => qF O O) (Ht 7 O κ κ κ O H.frm (fun w hI => qF O O) (Ht 8 O κ κ κ O H.frm (fun w hI => jB oi wz h14 O O ω) (zu 9 O κ H 0 dY O O O (af ω) ?_))))
   intro w H
   refine Ht 10 O κ κ κ O H.frm (fun w hI => rD O) (g7 κ (tn (Cy (db O (Lp (bu aX O O) (Lt ?_))))))
   refine Cp O ?_
   refine Cy (db O (bI O (Lt (Ct (bL (aE (aE (bL (aE ?_)))))))))
   exact ak O O (.inr ⟨hdec,⟨_,O⟩,H.frm⟩)
  case pos =>
  rw [dp (ir hR_)] at hdec
  have hv:val (Ri.take 3)<2 ^ 3:=bK Ri 3
  refine Cs ?_
  refine VC.held (cf [σ.d,σ.rd,bg] W) aJ (by with_reducible repeat (first | refine fB ?_ | refine eP.blk ?_ | refine fy ?_ | refine dP ?_ | exact eP.done)) ?_
  intro w hsame
  replace H:=H.same hsame
  refine Ht 3 O κ κ κ O H.frm (fun w hI => YP h0) (Ht 0 O κ κ κ O H.frm (fun w hI => YI h15) (Ht 1 O κ κ κ O H.frm (fun w hI => jB i G3 O O O ω) (Ht 2 O κ κ κ O H.frm (fun w hI => ef aQ O (hI.cell ho (hS.1.g _ O))) (EI (k:=3) 4 O κ H 1 O ro hS ω hR_ O O O ?_))))
  intro w H
  refine Ht 5 O κ κ κ O H.frm (fun w hI => uq O) (Ht 6 O κ κ κ O H.frm (fun w hI => qF O O) (Ht 7 O κ κ κ O H.frm (fun w hI => qF O O) (Ht 8 O κ κ κ O H.frm (fun w hI => jB oi wz h14 O O ω) (Ie 9 O κ H 0 dY O O O hol ?_))))
  intro w H
  refine Ht 10 O κ κ κ O H.frm (fun w hI => rD O) (g7 κ (tn ?_))
  simp only [List.set] at H
  generalize val (Ri.take 3)=v at *
  generalize Ri.drop 3=Rj at *
  refine Cy (db O (Lp (bj aX O O) (Lt (Cq O (Ck (aF (tn (Cr (ai η (ao O O (nT (b:=1) ω) (az O (Lt ?_))))))))))))
  exact ⟨nc+4 - (i+1),ω,i+1,_,Rj,O,ω,fun j => by have:=hf8 j;split <;> omega,hdec,h0,h1,h2,h13,h14,O,H⟩
 case neg =>
 obtain rfl:i=nc+4:=ω
 rw [Nat.sub_self,lG,dp (show ret f Ri=some (f,Ri) from rfl)] at hdec
 have hgl:=ro.gl
 have hb14l:b14<w3.heap.size:=(H.blk (i:=0) rfl).lt
 refine CF O ω (Cx (ax (ax (br (tn (Cy (ai η (iJ H gj A A O O O O (Nat.le_refl _) ω ω O ?_))))))))
 intro w b16 hn16 hb16 H
 refine gS O (Lt ?_)
 rw [dz,fK] at H
 have hbW:bg<W.heap.size:=hbg.lt
 have hdW:σ.d<W.heap.size∧σ.rd<W.heap.size:=by
  obtain ⟨i,nb,pr,g1,g2,g3,g4⟩:=D
  exact ⟨g1.lt,g2.lt⟩
 have hsb:=ro.sbl
 have hS2:zG σ [σ.d,σ.rd,b16]:=by
  refine ⟨fun b hb => ?_,?_⟩
  ·simp only [List.mem_cons,List.not_mem_nil,or_false] at hb
   rcases hb with rfl | rfl | rfl
   ·exact ro.ne.2.1
   ·exact ro.ne.2.2.1
   ·exact Nat.le_trans ro.gl.high hb16
  ·simp only [List.mem_cons,List.not_mem_nil,or_false,not_or]
   exact ⟨ro.ne.2.2.2.1,ro.ne.2.2.2.2,ω⟩
 have hb14n:b14 ∉ [σ.d,σ.rd,b16]:=by
  simp only [List.mem_cons,List.not_mem_nil,or_false,not_or]
  omega
 have hcl:((List.range 19).map f).length=19:=by simp
 have hrow:l7 w .u32 b14 0 ((List.range 19).map f):=FP (H.blk (i:=1) rfl)
 have hbnd:∀ x ∈ (List.range 19).map f,x<2 ^ 32:=fun x hx => by
  obtain ⟨j,_,rfl⟩:=List.mem_map.1 hx
  have:=hf8 j
  omega
 have hgood:=@xR A ((List.range 19).map f) Ri
 cases hcl2:mf A ((List.range 19).map f) Ri with
 | none =>
  rw [dN hcl2] at hdec
  refine Cs (Cy (bH η (bU O (Lp (Bx wz h14) (aS O HL (yS σ Ri w b16 A b14 0 19 _ (H.get (i:=2) O) (ro.frm H hS) (H.blk (i:=0) O) hrow hS2 hb14n ω hcl hbnd hA) O ?_)))))
  rintro e w2 hC
  rcases hC with ⟨ls,R',hn,_⟩ | ⟨_,⟨a,rfl⟩,hf⟩
  ·rw [hcl2] at hn;cases hn
  refine ⟨_,O,?_⟩
  refine bI O (Lt (Cy (db O (Lp (bu aX O O) (Lt ?_)))))
  refine Cp O ?_
  refine Cy (db O (bI O (Lt (Ct (aE ?_)))))
  exact ak O O (.inr ⟨hdec,⟨_,O⟩,H.frm.then hf (by simp [hb16])⟩)
 | some q =>
 obtain ⟨ls,Rk⟩:=q
 obtain ⟨hlsn,hls16⟩:=hgood hcl hcl2
 rw [dp hcl2] at hdec
 refine Cs (Cy (bH η (bU O (Lp (Bx wz h14) (aS O HL (yS σ Ri w b16 A b14 0 19 _ (H.get (i:=2) O) (ro.frm H hS) (H.blk (i:=0) O) hrow hS2 hb14n ω hcl hbnd hA) O ?_)))))
 rintro e w2 hC
 rcases hC with ⟨ls2,R2',hn,rfl,hd2,hb2,hf⟩ | ⟨hn,_⟩
 rotate_left
 ·rw [hcl2] at hn;cases hn
 rw [hcl2] at hn
 obtain ⟨rfl,rfl⟩:=Prod.mk.inj (Option.some.inj hn)
 have hbg2:ff w2 bg cs tG:=hf.blk (H.blk (i:=3) rfl) (by simp only [List.mem_cons,List.not_mem_nil,or_false,not_or];omega)
 replace H:=H.re (l':=[aa b16 (bM .u32 (fun j => ls.getD j 0) A) 36,aa b14 (bM .u32 f 19) 189,cD σ Rk,aa bg cs tG]) hf (by simp [hb16]) rfl (by
  intro r hr
  simp only [List.mem_cons,List.not_mem_nil,or_false] at hr
  rcases hr with rfl | rfl | rfl | rfl
  ·exact hb2
  ·exact hf.blk (H.blk (i:=1) O) hb14n
  ·exact hd2
  ·exact hbg2) (by
  intro r hr
  simp only [List.mem_cons,List.not_mem_nil,or_false] at hr
  rcases hr with rfl | rfl | rfl | rfl
  ·exact ⟨cw _ _ _,dW _ _ _⟩
  ·exact ⟨cw _ _ _,dW _ _ _⟩
  ·exact cK _ _
  ·exact ⟨cw _ _ _,dW _ _ _⟩)
 refine ⟨_,O,?_⟩
 refine bI O (Lt (Cy (db O (Lp (bj aX O O) (Lt (Cq O (Ck (tn ?_))))))))
 have hrow2:l7 w2 .u32 b16 0 ls:=Fv hlsn hb2
 rw [← hlsn] at h2
 refine Cy (bH η (Lp (YS (show _=Value.slice (aT b16) ls.length A by rw [hlsn];rfl)) (aS O Ch (uk _ bg off cs tG b16 0 A ls (ro.frm H hS).gl (H.blk (i:=3) O) hraw hrow2 ω hg1 (fun x hx => by have:=hls16 x hx;omega) ω) O ?_)))
 rintro e w3 hB
 have hB2:rj bg off cs tG (dX ls) w2 e w3:=hB
 clear hB
 obtain ⟨v,rfl⟩:∃ v,e=.returned v:=by rcases hB2 with ⟨u,cs',_,rfl,_⟩ | ⟨_,⟨a,rfl⟩,_⟩ <;> exact ⟨_,rfl⟩
 refine ⟨v,O,?_⟩
 refine bI O (Lt (Ct ?_))
 rcases hB2 with ⟨u,cs',hT,he,hbg',hso,htc,hf⟩ | ⟨hT,⟨a,he⟩,hf⟩
 ·obtain rfl:=Ending.returned.inj he
  rw [hT] at hdec
  have hd:(cD σ Rk).pred w3:=(cK σ Rk).1 _ _ (fun b hb => hf.block b ((cK σ Rk).2 _ (H.get (i:=2) rfl) b hb) (by
   simp only [cD,List.mem_cons,List.not_mem_nil,or_false] at hb
   simp only [List.mem_singleton]
   rintro rfl
   rcases hb with h | h
   ·exact hne.1 h
   ·exact hne.2 h)) (H.get (i:=2) O)
  exact ak O O (.inl ⟨u,Rk,cs',hdec,O,hd,hbg',hso,htc.low H.high,H.frm.then hf (by simp)⟩)
 ·obtain rfl:=Ending.returned.inj he
  rw [hT] at hdec
  exact ak O O (.inr ⟨hdec,⟨_,O⟩,H.frm.then hf (by simp)⟩)
theorem ik (W:World) (n b:Nat) (h0:1≤n) (hn:n≤1000000) (hb:b≤9) :
  Calls Tryz.prog 69 #[.int .i32 (n:Nat),.int .u32 (b:Nat)] W fun e w' => e=.returned (.int .i32 (aq n b:Nat))∧w'=W:=by
 have hp:2 ^ b≤2 ^ 9:=Nat.pow_le_pow_right ω hb
 have hp1:=Nat.two_pow_pos b
 refine enter (m:=12) Tryz.func69 O Tryz.ntmps69 O (Cy (az O (Lt (Cy (ai O (ai O (Lp (ed O O ω (LV (a:=1) ω)) (ao (r:=((n+2 ^ b:Nat):Int)) O O (by rw [jm ω];omega) (bw (r:=((n+2 ^ b - 1:Nat):Int)) O O (by rw [jm ω];omega) (ai O (Lp (d6 O O ω (jd (k:=.i32) (by show _≤(32:Nat);omega))) (az O (Lt (Ct ?_))))))))))))))
 exact ak O O ⟨O,O⟩
theorem cu {n b:Nat} (h0:1≤n):1≤aq n b∧aq n b≤n:=by
 have hp1:=Nat.two_pow_pos b
 unfold aq
 refine ⟨(Nat.le_div_iff_mul_le hp1).2 ω,?_⟩
 refine Nat.div_le_of_le_mul ?_
 have:n+2 ^ b≤2 ^ b * n+1:=by
  obtain ⟨k,rfl⟩:∃ k,n=k+1:=⟨n - 1,ω⟩
  have h2:k≤2 ^ b * k:=Nat.le_mul_of_pos_left _ hp1
  rw [Nat.mul_add,Nat.mul_one]
  omega
 omega
def KT (σ:pL) (r:Option (Nat × aM)) (w:World) (e:Ending) (w':World):Prop :=
 (∃ v R',r=some (v,R')∧e=.returned (.tuple #[.int .u32 (v:Nat),.nilIface])∧(cD σ R').pred w'∧cf [σ.d,σ.rd] w w') ∨
 (r=none∧(∃ a,e=.returned (.tuple #[.int .u32 0,.iface 149 (.pointer (some a))]))∧cf [σ.d,σ.rd] w w')
theorem Hd (σ:pL) (R:aM) (s:Nat) (W:World) (D:(cD σ R).pred W) (ro:RO σ W) (hs:s<40) :
  Calls Tryz.prog 72 #[.pointer (some ⟨σ.d,0,none⟩),.int .u32 (s:Nat)] W (KT σ (lz s R) W):=by
 have hS:=ro.okS
 have H:St W [σ.d,σ.rd] [cD σ R] W:=St.one D (cK σ R) (by simp [cD])
 have hdec:lz s R=(if s<4 then ret (s+1) else pb (rd ((s - 2) / 2)) fun n => ret ((2+s % 2) * 2 ^ ((s - 2) / 2)+n+1)) R:=rfl
 refine enter (m:=35) Tryz.func72 O Tryz.ntmps72 O (Cy (az O (bI O (Lt (Cs (Cy (ai O (bP O O (Lt ?_)))))))))
 by_cases h4:s<4
 case pos =>
  rw [if_pos h4] at hdec
  refine CT O ω (Cy (ai O (ao O O (nT (b:=1) ω) (az O (bI O (Lt (Ct (aE ?_))))))))
  exact cr O O O (.inl ⟨s+1,R,hdec,O,D,H.frm⟩)
 case neg =>
 rw [if_neg h4] at hdec
 refine CF O ω (Ck (tn (Cy (ai O (bw O O (Fd (b:=2) ω) (Lp (d6 (r:=(((s - 2) / 2:Nat):Int)) O O ω (jd (k:=.u32) (b:=1) δ)) (az O (Lt ?_))))))))
 obtain ⟨x,hx⟩:∃ x,x=(s - 2) / 2:=⟨_,rfl⟩
 rw [← hx] at hdec ⊢
 have hx18:x≤18:=ω
 have hp:2 ^ x≤2 ^ 18:=Nat.pow_le_pow_right ω hx18
 have ha:s &&& 1=s % 2:=Nat.and_one_is_mod s
 have hm:(2+s % 2) * 2 ^ x≤3 * 2 ^ 18:=Nat.mul_le_mul ω hp
 refine Cy (ai O (Lp (gZ O O (show sL .u32 (s:Int) 1=((s % 2:Nat):Int) by rw [← ha];exact G0 (b:=1) ω)) (ao (r:=((2+s % 2:Nat):Int)) O O (by rw [ew ω];omega) (ai O (Lp (ed O O ω (yn (a:=2+s % 2) (b:=x) ω)) (az O (Lt ?_)))))))
 generalize (2+s % 2) * 2 ^ x=o at *
 by_cases hR_:x≤R.length
 case neg =>
  rw [dN (iH ω)] at hdec
  refine Cy (bH O (ai O (dJ (k:=x) H 0 O ro hS ω ω O O O ?_)))
  intro w a H
  refine gr O (av O O (av O O (az O (bI O (Lt (Cs (Cy (db O (Lp (bu aX O O) (Lt ?_))))))))))
  refine Cp O ?_
  refine Cy (db O (az O (bI O (Lt (Ct (aE ?_))))))
  have hF:=H.frm
  exact cr O O O (.inr ⟨hdec,⟨_,O⟩,hF⟩)
 case pos =>
 rw [dp (ir hR_)] at hdec
 have hv:val (R.take (x))<2 ^ (x):=bK R (x)
 refine Cy (bH O (ai O (dB (k:=x) H 0 O ro hS ω hR_ O O O ?_)))
 intro w H
 simp only [List.set] at H
 refine gr O (av O O (av O O (az O (bI O (Lt ?_)))))
 generalize val (R.take (x))=v at *
 generalize R.drop (x)=R1 at *
 clear hR_
 refine Cs (Cy (db O (Lp (bj aX O O) (Lt (Cq O (Ck (tn ?_)))))))
 have hv2:v<2 ^ 18:=Nat.lt_of_lt_of_le hv hp
 refine Cy (ai O (ai O (ao O O (nT ω) (ao O O (nT (b:=1) ω) (az O (bI O (Lt (Ct ?_))))))))
 exact cr O O O (.inl ⟨o+v+1,R1,hdec,O,H.get (i:=0) rfl,H.frm⟩)
theorem Jq {s:Nat} {R R':aM} {v:Nat} (hs:s<40) (h:lz s R=some (v,R')):1≤v∧v≤1048576∧(s<24→v≤4096):=by
 unfold lz at h
 split at h
 ·simp only [ret,Option.some.injEq,Prod.mk.injEq] at h
  omega
 ·rename_i h4
  by_cases hR:(s - 2) / 2≤R.length
  ·rw [dp (ir hR)] at h
   simp only [ret,Option.some.injEq,Prod.mk.injEq] at h
   have h1:=bK R ((s - 2) / 2)
   obtain ⟨x,hx⟩:∃ x,x=(s - 2) / 2:=⟨_,rfl⟩
   rw [← hx] at h h1
   have hp:2 ^ x≤2 ^ 18:=Nat.pow_le_pow_right ω ω
   have hm:(2+s % 2) * 2 ^ x≤3 * 2 ^ x:=Nat.mul_le_mul_right _ ω
   refine ⟨ω,ω,fun h24 => ?_⟩
   have hp:2 ^ x≤2 ^ 10:=Nat.pow_le_pow_right ω ω
   omega
  ·rw [dN (iH ω)] at h
   cases h
theorem BY:∀ i,i<120→lg i / 16≤7∧lg i % 16≤15∧lg i<256:=δ
theorem xN (i:Nat):lg i=eT.getD i 0:=rfl
theorem F7 (W:World) (gl:Gl W) (n c:Nat) (hn:n≤1000000) (hc:1≤c∧c≤1048576) :
  Calls Tryz.prog 73 #[.int .i32 (n:Nat),.int .u32 (c:Nat)] W fun e w' => e=.returned (.int .i32 (eX n c:Nat))∧w'=W:=by
 have H:St W [] [] W:=St.nil W []
 refine enter (m:=33) Tryz.func73 O Tryz.ntmps73 O (Cy (az O (Lt (Cs (Cy (ai O (cm lr O (jm ω) (Lp (e9 O O) (Lt ?_)))))))))
 by_cases h:120<c
 case pos =>
  have hd:eX n c=c - 120:=by unfold eX;rw [if_pos h]
  refine CT O ω (Cy (ai O (cm lr O (jm ω) (bw O O (nZ (b:=120) ω) (az O (Lt (Ct (aE ?_))))))))
  exact ak O O ⟨by rw [hd];rfl,O⟩
 case neg =>
 have ht:=gl.dist (c - 1) (by show c - 1<120;omega)
 rw [← xN,Nat.zero_add] at ht
 have hd:eX n c=if lg (c - 1) / 16 * n+8<lg (c - 1) % 16+1 then 1 else lg (c - 1) / 16 * n+8 - lg (c - 1) % 16:=by unfold eX;rw [if_neg h]
 obtain ⟨hl1,hl2,hl3⟩:=BY (c - 1) ω
 generalize lg (c - 1)=q at *
 have hq:q &&& 15=q % 16:=by rw [show 15=2 ^ 4 - 1 by rfl,Nat.and_two_pow_sub_one_eq_mod]
 obtain ⟨y,hy⟩:∃ y,y=q / 16:=⟨_,rfl⟩
 obtain ⟨x,hx⟩:∃ x,x=q % 16:=⟨_,rfl⟩
 rw [← hy,← hx] at hd
 rw [← hx] at hq
 have hm:y * n≤7 * 1000000:=Nat.mul_le_mul ω hn
 refine CF O ω (Ck (tn (Cy (ai O (bw O O (Fd (b:=1) ω) (Lp (jB (c - 1) J2 O O O ω) (aC aQ O ht (cm df O (jm ω) (az O (Lt (Cy (ai O (Lp (d6 (r:=(y:Int)) O O ω (by rw [hy];exact jd (k:=.i32) (b:=4) δ)) (az O (Lt ?_)))))))))))))))
 refine Cy (ai O (Lp (gZ (r:=(x:Int)) O O (by rw [← hq];exact La (b:=15) ω)) (bw (r:=8 - (x:Int)) O O (jm ω) (az O (Lt (Cs (Cy (ai O (ai O (Lp (cX O O (CJ ω)) (ai O (ao (r:=((y * n:Nat):Int)+(8 - (x:Int))) O O (jm ω) (az O (Lt (Cy ?_)))))))))))))))
 refine ai O (Lp (ou O O) (Lt ?_))
 generalize y * n=z at *
 by_cases h1:z+8<x+1
 case pos =>
  rw [if_pos h1] at hd
  refine CF O ω (Ck (tn (Cy (az O (Lt (Ct ?_))))))
  exact ak O O ⟨by rw [hd];rfl,O⟩
 case neg =>
  rw [if_neg h1] at hd
  refine CT O ω (Cy (ai O (az O (Lt (Ct (aE ?_))))))
  exact ak O O ⟨by rw [hd,show ((z+8 - x:Nat):Int)=(z:Int)+(8 - (x:Int)) by omega];rfl,O⟩
end Go.Proofs.YtmgemcffhbnpfaaGreatDoor
