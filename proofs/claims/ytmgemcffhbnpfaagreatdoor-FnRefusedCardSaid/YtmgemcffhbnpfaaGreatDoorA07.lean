/-
  A picture is written and read: part 7 of 13 (LenA, RunsP, Runs, TokP, Sym, Ops5, Dist, TransP, Color, Any).
-/
import Derived.Test.YtmgemcffhbnpfaaGreatDoorA06
set_option linter.unusedVariables false
set_option linter.unusedSimpArgs false
set_option maxRecDepth 100000
set_option maxHeartbeats 1000000
namespace Go.Proofs.YtmgemcffhbnpfaaGreatDoor
open Go
theorem ye (W:World) (ub uo uc n:Nat) (u:Nat→Bool) (hu:∀ j,j<n→W.cell? ⟨ub,uo+j,none⟩=some (.bool (u j))) (cb B k:Nat) (v:Value) (most:Nat) (hb:ff W cb (dt v k) 39) (hw:jA B v W) (hB:B≠cb) (hk:k≤4611686018427387000) (hn:n≤4096) (hm:most=15∨(most=7∧n≤19)) (hub:ub≠cb) :
  Calls Tryz.prog 56 #[.slice (some ⟨ub,uo,none⟩) n uc,pT cb,iT most] W fun e w' => ∃ ls g k',pt u n most ls∧e=.returned (.slice (aT g) n n)∧W.heap.size≤g∧ff w' g (nums .i64 ls) 3 ∧
   ff w' cb (dt v k') 39∧k≤k'∧k'≤k+5∧cf [cb] W w':=by
 have H:=gQ hb
 have hS:ub ∉ [cb]:=by simpa using hub
 refine enter (m:=121) Tryz.func56 O Tryz.ntmps56 O (Cy (bI O (Lt (Cy (bU O (bG rz O (iJ H mg n n O O O O (Nat.le_refl _) ω ω O ?_)))))))
 intro w g hn13 hg H
 refine gS O (Lt ?_)
 rw [dz] at H
 have hnew:aA none 0 3 1 0 []=⟨[],fun w => bT w none 0 3 1 0 []⟩:=rfl
 replace H:St W [cb] [aA none 0 3 1 0 [],aa g (List.replicate n (.int .i64 0)) 3,aa cb (dt v k) 39] w :=
  H.cons (.inl ⟨rfl,rfl,rfl,rfl⟩) (cI _ _ _ _ _ _) (by simp [aA,bQ]) (by simp [aA,bQ])
 refine Cy (bI O (Lt (Cs (Cy (bU O (bG rz O (ai O (Lt ?_))))))))
 refine aH (fun ρ w' => ∃ a c,ρ 0=.slice (some ⟨ub,uo,none⟩) n uc∧ρ 1=pT cb∧ρ 2=iT most∧ρ 7=.slice (aT g) n n∧ρ 8=.slice a (bS u n).length c ∧
  St W [cb] [aA a c 3 1 (bS u n).length (nums .i64 (bS u n)),aa g (List.replicate n (.int .i64 0)) 3,aa cb (dt v k) 39] w') ?_ ?_
 case refine_1 =>
  refine Cb ?_
  refine Cl (fun mm ρ w' => ∃ i a c,i≤n∧mm=n - i∧ρ 0=.slice (some ⟨ub,uo,none⟩) n uc∧ρ 1=pT cb∧ρ 2=iT most∧ρ 7=.slice (aT g) n n∧ρ 8=.slice a (bS u i).length c∧ρ 21=.slice (some ⟨ub,uo,none⟩) n uc∧ρ 22=iT n∧ρ 23=iT i ∧
   St W [cb] [aA a c 3 1 (bS u i).length (nums .i64 (bS u i)),aa g (List.replicate n (.int .i64 0)) 3,aa cb (dt v k) 39] w') n
   ⟨0,none,0,ω,rfl,rfl,rfl,rfl,rfl,rfl,rfl,rfl,rfl,H⟩ ?_
  clear H
  rintro mm ρ w5 ⟨i,a,c,hi,hmm,r0,r1,r2,r7,r8,r21,r22,r23,H⟩
  refine Cy (bP η η (Lt ?_))
  by_cases hy:i=n
  case pos =>
   subst hy
   refine Cs (CF O ω (Cx (ax (ax (br (tn ?_))))))
   exact ⟨a,c,r0,r1,r2,r7,r8,H⟩
  have hlt:i<n:=ω
  have hcell:=hu i hlt
  have hul:=mV u i
  refine Cs (CT O ω (Ck (tn (Cs (Cb (Cy (ai η (Lp (ci i rz r21 r23 O hlt) (aC jz O (H.old hcell hS) (az O (cU O (Lt (Cy (dh O (Lt ?_)))))))))))))))
  have hsucc:=mT u i
  cases hui:u i
  case false =>
   rw [hui,if_neg (by simp)] at hsucc
   refine Cq O (Ck (aF (tn (Cr (ao (r:=((i+1:Nat):Int)) r23 O (ck (b:=1) ω) (ai O (Lt ?_)))))))
   exact ⟨n - (i+1),ω,i+1,a,c,ω,O,r0,r1,r2,r7,by rw [hsucc];exact r8,r21,r22,O,by rw [hsucc];exact H⟩
  rw [hui,if_pos rfl] at hsucc
  refine Cp O ?_
  refine Cr (bU r8 (ai O (cH H mg (nums .i64 [i]) O O δ δ κ ?_)))
  intro w b21 hn21 hb21 H
  refine dH H 1 mg δ O O O O (news:=nums .i64 [i]) O (fun j u hj => by rw [Nat.zero_add];exact H.cell 0 O hj) (fD _ _) (by simp only [maxLen];omega) ω ?_
  intro a' c' w hfa H
  have hl1:(bS u (i+1)).length=(bS u i).length+1:=by rw [hsucc];simp
  replace H:St W [cb] [aA a' c' 3 1 (bS u (i+1)).length (nums .i64 (bS u (i+1))),aa g (List.replicate n (.int .i64 0)) 3,aa cb (dt v k) 39] w:=by rw [hl1,hsucc,dT];exact H.sub [1,2,3] rfl δ
  refine gS O (Ln (aF (tn (Cr (ao (r:=((i+1:Nat):Int)) r23 O (ck (b:=1) ω) (ai O (Lt ?_)))))))
  exact ⟨n - (i+1),ω,i+1,a',c',ω,O,r0,r1,r2,r7,by rw [hl1];rfl,r21,r22,O,H⟩
 case refine_2 =>
 clear H
 rintro ρ w5 ⟨a,c,r0,r1,r2,r7,r8,H⟩
 refine Cy (az O (Lt (Cs (Cy (bH η (gh H 2 O hw (by simpa using hB) hB 5 ω ω ω O O O ?_))))))
 intro w sk hsk H
 simp only [List.set] at H
 refine az O (Lt ?_)
 have hsk0:xE u n (bS u n).length (bS u n) (List.replicate n 0) 0:=Dh u n
 replace H:St W [cb] [aA a c 3 1 (bS u n).length (nums .i64 (bS u n)),aa g (nums .i64 (List.replicate n 0)) 3,aa cb (dt v (k+1)) 39] w:=by
  rw [show nums .i64 (List.replicate n 0)=List.replicate n (.int .i64 0) by simp [nums]]
  exact H
 refine aH (fun ρ w' => ∃ l out long kk a c,xE u n (bS u n).length l out long∧(long=0∨(long+12≤most∧1≤l.length))∧k+1≤kk∧kk≤k+5∧ρ 7=.slice (aT g) n n∧ρ 8=.slice a l.length c∧ρ 11=iT long ∧
  St W [cb] [aA a c 3 1 l.length (nums .i64 l),aa g (nums .i64 out) 3,aa cb (dt v kk) 39] w') ?_ ?_
 case refine_1 =>
  refine Cb ?_
  refine Cl (fun mm ρ w' => ∃ l out long kk a c sk,mm=sk∧xE u n (bS u n).length l out long∧(long=0∨(long+12≤most∧1≤l.length))∧k+1≤kk∧kk+sk≤k+5∧ρ 1=pT cb∧ρ 2=iT most∧ρ 7=.slice (aT g) n n∧ρ 8=.slice a l.length c∧ρ 11=iT long∧ρ 12=iT sk ∧
   St W [cb] [aA a c 3 1 l.length (nums .i64 l),aa g (nums .i64 out) 3,aa cb (dt v kk) 39] w') sk
   ⟨bS u n,List.replicate n 0,0,k+1,a,c,sk,rfl,hsk0,.inl rfl,ω,ω,r1,r2,r7,r8,rfl,rfl,H⟩ ?_
  clear H hsk0
  rintro mm ρ w6 ⟨l,out,long,kk,a,c,sk,hmm,hS1,hlm,hk1,hk2,r1,r2,r7,r8,r11,r12,H⟩
  by_cases h0:sk=0
  case pos =>
   refine Cs (Cy (ai r12 (Lp (bE (b:=false) O O (decide_eq_false ω)) (dh O (Lk (Lk (Lk (ay O O (dh O (Lk (Lk (Lk (Lk (ay O O (Lt (Cq O (Cx (ax (ax (br (tn ?_)))))))))))))))))))))
   exact ⟨l,out,long,kk,a,c,hS1,hlm,hk1,ω,r7,r8,r11,H⟩
  by_cases h1:l.length≤1
  case pos =>
   refine Cs (Cy (ai r12 (Lp (bE (b:=true) O O (decide_eq_true ω)) (dh O (Lg (YS η) (Lg (dx bh O) (Lg (bE (b:=false) O O (decide_eq_false ω)) (ay O O (dh O (Lk (Lk (Lk (Lk (ay O O (Lt (Cq O (Cx (ax (ax (br (tn ?_)))))))))))))))))))))
   exact ⟨l,out,long,kk,a,c,hS1,hlm,hk1,ω,r7,r8,r11,H⟩
  by_cases h2:most≤long+12
  case pos =>
   refine Cs (Cy (ai r12 (Lp (bE (b:=true) O O (decide_eq_true ω)) (dh O (Lg (YS η) (Lg (dx bh O) (Lg (bE (b:=true) O O (decide_eq_true ω)) (ay O O (dh O (Lg (YI η) (Lg (YI η) (Lg (mX O O (fg ω)) (Lg (dy (b:=false) O O (decide_eq_false ω)) (ay O O (Lt (Cq O (Cx (ax (ax (br (tn ?_)))))))))))))))))))))
   exact ⟨l,out,long,kk,a,c,hS1,hlm,hk1,ω,r7,r8,r11,H⟩
  have hul:=mV u n
  have hsum:=hS1.sum
  refine Cs (Cy (ai r12 (Lp (bE (b:=true) O O (decide_eq_true ω)) (dh O (Lg (YS η) (Lg (dx bh O) (Lg (bE (b:=true) O O (decide_eq_true ω)) (ay O O (dh O (Lg (YI η) (Lg (YI η) (Lg (mX O O (fg ω)) (Lg (dy (b:=true) O O (decide_eq_true ω)) (ay O O (Lt ?_)))))))))))))))
  refine Cp O ?_
  refine Ck (tn (Cs (Cb ?_)))
  obtain ⟨q,rfl,_⟩:=(H.get (i:=0) rfl:bT _ _ _ _ _ _ _).cell ω
  refine Cy (bH η (bU η (bG bh O (gh H 2 O hw (by simpa using hB) hB l.length ω ω ω O O O ?_))))
  intro w r hr H
  simp only [List.set] at H
  refine az O (Lt ?_)
  obtain ⟨x,hx⟩:∃ x,x=l[r]:=⟨_,rfl⟩
  have hlx:l=l.take r++x :: l.drop (r+1):=by rw [hx,List.getElem_cons_drop,List.take_append_drop]
  have hxn:=hS1.inl x (by rw [hx];exact List.getElem_mem hr)
  have hxg:(nums .i64 l)[r]?=some (iT x):=by simp [nums,hr,hx]
  refine Cy (ai η (ao O O (ck (b:=1) ω) (az O (Lt (Cy (bU η (bU η (ai O (Lp (bO r bh O O O hr) (aC a_ O (bT.cellS (H.get (i:=0) O) hxg) (ai O (Lp (bO x bh O O O hxn.1) (bC H 1 k_ O O O (show (nums .i64 out)[x]?=some (iT (out.getD x 0)) by simp [nums,show x<out.length by rw [hS1.len];exact hxn.1]) ?_)))))))))))))
  intro w H
  simp only [List.set] at H
  refine Lt ?_
  have hlc:l.length≤c:=by
   rcases (H.get (i:=0) rfl:bT _ _ _ _ _ _ _) with ⟨h0,_⟩ | ⟨g',cur,h0,h1,h2,_⟩
   ·cases h0
   ·exact h2
  refine ar 8 aJ κ ?_
  intro w hsame
  replace H:=H.same hsame
  refine cF η (bW O (bW O (Sp (Ho r bh O O O O O ω) (cF η (bW O (aG (r:=((r+1:Nat):Int)) O O (ck (b:=1) ω) (Sp (zf (r+1) bh O O O ω) (Sn ?_))))))))
  have hV:bT w (aT q) c 3 1 l.length (nums .i64 l):=H.get (i:=0) rfl
  replace H:=H.turn (i:=0) (r':=aA (aT q) r 3 1 r ((nums .i64 l).take r)) rfl (cf.refl _ _) (bT.pre (m:=r) (c':=r) hV ω (Nat.le_refl _) ω) (cI _ _ _ _ _ _) (fun b hb => .inl hb)
  simp only [List.set] at H
  refine dH (n:=r) (c:=r) (xs:=(nums .i64 l).take r) (m:=l.length - (r+1)) H 0 mg δ O O O O (news:=nums .i64 (l.drop (r+1))) (by simp [nums]) ?_ (fD _ _) (by simp only [maxLen];omega) ω ?_
  ·intro j y hj
   by_cases hcr:c=r+1
   ·rw [List.drop_eq_nil_of_le ω] at hj
    simp [nums] at hj
   ·rw [if_neg hcr,Nat.zero_add,Nat.mul_one]
    refine bT.cellS hV ?_
    rw [← hj]
    simp [nums,List.getElem?_drop]
  intro a' c' w hfa H
  have hl2:r+(l.length - (r+1))=(l.take r++l.drop (r+1)).length:=by simp;omega
  have hset:(nums .i64 out).set x (.int .i64 ((long+1:Nat):Int))=nums .i64 (out.set x (long+1)):=by simp [nums,List.map_set]
  have htk:(nums .i64 l).take r++nums .i64 (l.drop (r+1))=nums .i64 (l.take r++l.drop (r+1)):=by simp [nums,List.map_take]
  simp only [List.set,htk,hset,hl2] at H
  refine gS O (Ln (aF (tn (Cr (ai r12 (bw (r:=((sk - 1:Nat):Int)) O O (by rw [fg ω];omega) (az O (Lt ?_))))))))
  rw [hlx] at hS1
  have hne:l.take r++l.drop (r+1)≠[]:=fun e => by
   have:=congrArg List.length e
   simp only [List.length_append,List.length_take,List.length_drop,List.length_nil] at this
   omega
  exact ⟨sk - 1,ω,_,_,long+1,kk+1,a',c',sk - 1,O,hS1.pick hne ω,.inr ⟨ω,by rw [← hl2];omega⟩,ω,ω,r1,r2,r7,by rw [← hl2];rfl,O,O,H⟩
 case refine_2 =>
 clear H hsk0 r0 r1 r2 r7 r8
 rintro ρ w6 ⟨l,out,long,kk,a,c,hS1,hlm,hk1,hk2,r7,r8,r11,H⟩
 have hul:=mV u n
 have hsum:=hS1.sum
 have hln:l.length≤n:=ω
 have hlong:long≤15:=ω
 have hempty:l=[]→long=0:=fun e => by subst e;simp at hlm;exact hlm
 refine Cy (az O (Lt (Cs ?_)))
 refine aH (fun ρ w' => ∃ deep,deep≤12∧l.length≤2 ^ deep∧(deep=0∨2 ^ (deep - 1)<l.length)∧ρ 7=.slice (aT g) n n∧ρ 8=.slice a l.length c∧ρ 11=iT long∧ρ 14=iT deep ∧
  St W [cb] [aA a c 3 1 l.length (nums .i64 l),aa g (nums .i64 out) 3,aa cb (dt v kk) 39] w') ?_ ?_
 case refine_1 =>
  refine Cb ?_
  refine Cl (fun mm ρ w' => ∃ deep,mm=12 - deep∧deep≤12∧(deep=0∨2 ^ (deep - 1)<l.length)∧ρ 7=.slice (aT g) n n∧ρ 8=.slice a l.length c∧ρ 11=iT long∧ρ 14=iT deep ∧
   St W [cb] [aA a c 3 1 l.length (nums .i64 l),aa g (nums .i64 out) 3,aa cb (dt v kk) 39] w') 12
   ⟨0,rfl,ω,.inl rfl,r7,r8,r11,rfl,H⟩ ?_
  clear H r7 r8 r11
  rintro mm ρ w7 ⟨deep,hmm,hd12,hd,r7,r8,r11,r14,H⟩
  have hpow:2 ^ deep≤2 ^ 12:=Nat.pow_le_pow_right ω hd12
  refine Cs (Cy (ai η (Lp (ed (r:=((1 * 2 ^ deep:Nat):Int)) O O ω (x7 (a:=1) ω)) (bU η (bG bh O (bP O O (Lt ?_)))))))
  by_cases hlt:1 * 2 ^ deep<l.length
  case neg =>
   refine CF O ω (Cx (ax (ax (br (tn ?_)))))
   exact ⟨deep,hd12,ω,hd,r7,r8,r11,r14,H⟩
  have hd11:deep<12:=Nat.lt_of_not_le fun hle => by
   have:=Nat.pow_le_pow_right (n:=2) ω hle
   omega
  refine CT O ω (Ck (tn (Cb (Cr (ai η (ao O O (ck (b:=1) ω) (az O (Ln (aF (tn ?_))))))))))
  exact ⟨12 - (deep+1),ω,deep+1,O,ω,.inr (by rw [Nat.add_sub_cancel];omega),r7,r8,r11,O,H⟩
 case refine_2 =>
 clear H r7 r8 r11
 rintro ρ w7 ⟨deep,hd12,hd1,hd2,r7,r8,r11,r14,H⟩
 have hpow:2 ^ deep≤2 ^ 12:=Nat.pow_le_pow_right ω hd12
 obtain ⟨D,hD⟩:∃ D,D=long+deep:=⟨_,rfl⟩
 obtain ⟨short,hshort⟩:∃ short,short=2 ^ deep - l.length:=⟨_,rfl⟩
 refine Cy (ai η (Lp (ed (r:=((1 * 2 ^ deep:Nat):Int)) O O ω (x7 (a:=1) ω)) (bU η (bG bh O (bw (r:=((short:Nat):Int)) O O (by rw [fg ω];omega) (az O (Lt (Cs (Cy (bU η (bG bh O (ai O (Lt ?_)))))))))))))
 refine aH (fun ρ w' => ρ 7=.slice (aT g) n n∧ρ 8=.slice a l.length c∧ρ 11=iT long ∧
  St W [cb] [aA a c 3 1 l.length (nums .i64 l),aa g (nums .i64 (nl D short 0 l out)) 3,aa cb (dt v kk) 39] w') ?_ ?_
 case refine_1 =>
  refine Cb ?_
  refine Cl (fun mm ρ w' => ∃ i o,i≤l.length∧mm=l.length - i∧o.length=n∧nl D short i (l.drop i) o=nl D short 0 l out∧ρ 7=.slice (aT g) n n∧ρ 8=.slice a l.length c∧ρ 11=iT long∧ρ 14=iT deep∧ρ 15=iT short ∧
   ρ 85=.slice a l.length c∧ρ 86=iT l.length∧ρ 87=iT i ∧
   St W [cb] [aA a c 3 1 l.length (nums .i64 l),aa g (nums .i64 o) 3,aa cb (dt v kk) 39] w') l.length
   ⟨0,out,ω,rfl,hS1.len,by rw [List.drop_zero],r7,r8,r11,r14,rfl,rfl,rfl,rfl,H⟩ ?_
  clear H r7 r8 r11 r14
  rintro mm ρ w8 ⟨i,o,hi,hmm,ho,hfill,r7,r8,r11,r14,r15,r85,r86,r87,H⟩
  refine Cy (bP η η (Lt ?_))
  by_cases hlt:i<l.length
  case neg =>
   obtain rfl:i=l.length:=ω
   refine Cs (CF O ω (Cx (ax (ax (br (tn ?_))))))
   rw [List.drop_length,nl] at hfill
   subst hfill
   exact ⟨r7,r8,r11,H⟩
  obtain ⟨q,rfl,_⟩:=(H.get (i:=0) rfl:bT _ _ _ _ _ _ _).cell ω
  rw [CM D short i l o hlt] at hfill
  obtain ⟨x,hx⟩:∃ x,x=l[i]:=⟨_,rfl⟩
  have hxn:x<n:=(hS1.inl x (by rw [hx];exact List.getElem_mem hlt)).1
  have hxg:(nums .i64 l)[i]?=some (iT x):=by simp [nums,hlt,hx]
  rw [← hx] at hfill
  refine Cs (CT O ω (Ck (tn (Cs (Cb (Cy (ai η (Lp (bO i bh r85 r87 O hlt) (aC a_ O (bT.cellS (H.get (i:=0) O) hxg) (az O (az O (Lt (Cy (bU η (ai O (ai η ?_))))))))))))))))
  refine ai η (ao (r:=((D:Nat):Int)) O O (by rw [fg ω];omega) (Lp (bO x bh O O O hxn) (bC H 1 k_ O O O (de ω) ?_)))
  intro w H
  simp only [List.set,jR] at H
  refine Lt (Cy (ai O (ai η (bP O O (Lt ?_)))))
  refine iC (fun ρ w' => ρ 7=.slice (aT g) n n∧ρ 8=.slice (aT q) l.length c∧ρ 11=iT long∧ρ 14=iT deep∧ρ 15=iT short ∧
   ρ 85=.slice (aT q) l.length c∧ρ 86=iT l.length∧ρ 87=iT i ∧
   St W [cb] [aA (aT q) c 3 1 l.length (nums .i64 l),aa g (nums .i64 (o.set x (D - if i<short then 1 else 0))) 3,aa cb (dt v kk) 39] w') ?_ ?_
  case refine_1 =>
   by_cases his:i<short
   case neg =>
    refine CF O ω (Ck (aF (tn ?_)))
    rw [if_neg his]
    exact ⟨r7,r8,r11,r14,r15,r85,r86,r87,H⟩
   have hD1:1≤D:=by
    refine Nat.pos_of_ne_zero fun h0 => ?_
    obtain rfl:deep=0:=ω
    simp at hshort
    omega
   refine CT O ω (Cr (bU η (ai O (Lp (bO x bh O O O hxn) (aC a_ O (H.cell 1 O (show (nums .i64 (o.set x D))[x]?=some (iT D) by rw [de (by rw [List.length_set];omega)];simp [show x<o.length by omega])) (bw (r:=((D - 1:Nat):Int)) O O (by rw [fg ω];omega) (Lp (bO x bh O O O hxn) (bC H 1 k_ O O O (de (by rw [List.length_set];omega)) ?_))))))))
   intro w H
   simp only [List.set,jR,List.set_set] at H
   refine Ln (aF (tn ?_))
   rw [if_pos his]
   exact ⟨r7,r8,r11,r14,r15,r85,r86,r87,H⟩
  case refine_2 =>
  clear H r7 r8 r11 r14 r15 r85 r86 r87
  rintro ρ w9 ⟨r7,r8,r11,r14,r15,r85,r86,r87,H⟩
  refine Cr (ao η O (ck (b:=1) ω) (ai O (Lt ?_)))
  exact ⟨l.length - (i+1),ω,i+1,_,ω,O,by rw [List.length_set];exact ho,hfill,r7,r8,r11,r14,r15,r85,r86,O,H⟩
 case refine_2 =>
 clear H r7 r8 r11 r14
 rintro ρ w8 ⟨r7,r8,r11,H⟩
 have hfin:=hS1.done (deep:=deep) (hlm.imp id (·.1)) hm hn hd1 hd2 hempty
 rw [← hD,← hshort] at hfin
 have hflen:(nl D short 0 l out).length=n:=by
  have:=hfin.len
  split at this
  ·rwa [List.length_set] at this
  ·exact this
 by_cases hone:long=0∧l.length=1
 case pos =>
  rw [if_pos hone] at hfin
  obtain ⟨h0,hl1⟩:=hone
  obtain ⟨q,rfl,_⟩:=(H.get (i:=0) rfl:bT _ _ _ _ _ _ _).cell ω
  obtain ⟨x,hx⟩:∃ x,x=l.getD 0 0:=⟨_,rfl⟩
  rw [← hx] at hfin
  have hxg:(nums .i64 l)[0]?=some (iT x):=by rw [de ω,hx]
  have hxn:x<n:=by
   have e:l.getD 0 0=l[0]:=by simp [hl1]
   rw [hx,e]
   exact (hS1.inl _ (List.getElem_mem ω)).1
  refine Cs (Cy (ai η (Lp (bR (b:=true) O O (decide_eq_true ω)) (dh O (Lg (YS η) (Lg (dx bh O) (Lg (bR (b:=true) O O (decide_eq_true ω)) (ay O O (Lt ?_)))))))))
  refine Cp O ?_
  refine Cr (bU η (bU η (Lp (bO 0 bh O O O ω) (aC a_ O (bT.cellS (H.get (i:=0) O) hxg) (Lp (bO x bh O O O hxn) (bC (m:=((1:Nat):Int)) H 1 k_ O O O (de ω) ?_))))))
  intro w H
  simp only [List.set,jR] at H
  refine Lt (Cy (bU η (gS O (Lt (Ct ?_)))))
  exact ak O O ⟨_,g,kk,hfin,O,hg,H.blk (i:=1) rfl,H.blk (i:=2) rfl,ω,ω,H.frm⟩
 rw [if_neg hone] at hfin
 by_cases h0:long=0
 case neg =>
  refine Cs (Cy (ai η (Lp (bR (b:=false) O O (decide_eq_false ω)) (dh O (Lk (Lk (Lk (ay O O (Lt (Cq O (Ck (tn (Cy (bU η (gS O (Lt ?_))))))))))))))))
  refine Ct ?_
  exact ak O O ⟨_,g,kk,hfin,O,hg,H.blk (i:=1) rfl,H.blk (i:=2) rfl,ω,ω,H.frm⟩
 refine Cs (Cy (ai η (Lp (bR (b:=true) O O (decide_eq_true ω)) (dh O (Lg (YS η) (Lg (dx bh O) (Lg (bR (b:=false) O O (decide_eq_false ω)) (ay O O (Lt (Cq O (Ck (tn (Cy (bU η (gS O (Lt ?_))))))))))))))))
 refine Ct ?_
 exact ak O O ⟨_,g,kk,hfin,O,hg,H.blk (i:=1) rfl,H.blk (i:=2) rfl,ω,ω,H.frm⟩
abbrev qW:=Nat × Nat × Nat
def oA (p:Nat) (r:qW):List Nat:=if r.1<16 then [r.1] else List.replicate (r.2.1+repO (r.1 - 16)) (if r.1=16 then p else 0)
def z5 (p s:Nat):Nat:=if s<16∧s≠0 then s else p
def ep:Nat→List qW→List Nat
 | _,[] => []
 | p,r :: rs => oA p r++ep (z5 p r.1) rs
def i9:Nat→List qW→Nat
 | p,[] => p
 | p,r :: rs => i9 (z5 p r.1) rs
theorem nV:∀ (rs ts:List qW) (p:Nat),ep p (rs++ts)=ep p rs++ep (i9 p rs) ts
 | [],ts,p => rfl
 | r :: rs,ts,p => by rw [List.cons_append,ep,nV rs ts,ep,i9,List.append_assoc]
theorem pM:∀ (rs ts:List qW) (p:Nat),i9 p (rs++ts)=i9 (i9 p rs) ts
 | [],ts,p => rfl
 | r :: rs,ts,p => by rw [List.cons_append,i9,pM rs ts,i9]
def me (r:qW):Prop:=(r.1<16∧r.2.1=0∧r.2.2=0)∨(16≤r.1∧r.1≤18∧r.2.2=repB (r.1 - 16)∧r.2.1<2 ^ repB (r.1 - 16))
theorem t6:repB 0=2∧repB 1=3∧repB 2=7∧repO 0=3∧repO 1=3∧repO 2=11:=by
 rw [ue,ue,ue,tf,tf,tf]
 decide
theorem me.out_pos {r:qW} (h:me r) (p:Nat):1≤(oA p r).length:=by
 unfold oA
 rcases h with h | h
 ·rw [if_pos h.1];simp
 ·rw [if_neg ω,List.length_replicate]
  have:=qn (r.1 - 16) ω
  omega
theorem me.bits {r:qW} (h:me r):r.1≤18∧r.2.2≤7∧r.2.1<128:=by
 rcases h with ⟨h1,h2,h3⟩ | ⟨h1,h2,h3,h4⟩
 ·omega
 ·have:=qn (r.1 - 16) ω
  have hp:2 ^ repB (r.1 - 16)≤2 ^ 7:=Nat.pow_le_pow_right ω this.2.2
  omega
theorem sj:∀ (rs:List qW) (p:Nat),(∀ r ∈ rs,me r)→rs.length≤(ep p rs).length
 | [],p,h => by simp [ep]
 | r :: rs,p,h => by
  have h1:=(h r (by simp)).out_pos p
  have h2:=sj rs (z5 p r.1) fun x hx => h x (List.mem_cons_of_mem _ hx)
  rw [ep,List.length_append,List.length_cons]
  omega
def fR (cd:Nat→aM) (rs:List qW):aM:=rs.flatMap fun r => cd r.1++aV r.2.1 r.2.2
theorem tu (cd:Nat→aM) (r:qW) (rs:List qW):fR cd (r :: rs)=cd r.1++aV r.2.1 r.2.2++fR cd rs:=rfl
theorem xG (cd:Nat→aM) (rs ts:List qW):fR cd (rs++ts)=fR cd rs++fR cd ts:=by simp [fR]
theorem vh (cd:Nat→aM) (m:Nat):∀ (rs:List qW),(∀ r ∈ rs,me r∧(cd r.1).length≤m)→(fR cd rs).length≤(m+7) * rs.length
 | [],h => by simp [fR]
 | r :: rs,h => by
  have h1:=h r (by simp)
  have h2:=vh cd m rs fun x hx => h x (List.mem_cons_of_mem _ hx)
  have h3:=h1.1.bits
  rw [tu,List.length_append,List.length_append,kZ,List.length_cons,Nat.mul_succ]
  omega
theorem d7.congr {α:Type} {p:jh α} {X X':aM} {v v':α} (h:d7 p X v) (hX:X=X') (hv:v=v'):d7 p X' v':=by subst hX hv;exact h
theorem fU {α β:Type} {p:jh α} {f:α→jh β} {X:aM} {v:α} {u:β} (h:d7 p X v) (k:d7 (f v) [] u):d7 (Go.Proofs.YtmgemcffhbnpfaaGreatDoor.pb p f) X u:=(h.pb k).congr (List.append_nil _) rfl
theorem tU {α:Type} {v u:α} (h:v=u):d7 (Go.Proofs.YtmgemcffhbnpfaaGreatDoor.ret v) [] u:=h ▸ d7.ret v
theorem oJ (t:T) (n:Nat) (cd:Nat→aM):∀ (rs:List qW) (k:Nat) (acc:List Nat) (ms prev:Nat),
  (∀ r ∈ rs,me r∧d7 t.walk (cd r.1) r.1)→acc.length+(ep prev rs).length≤n→n≤acc.length+k→rs.length≤ms→(ms=rs.length∨acc.length+(ep prev rs).length=n) →
  d7 (il t n k acc ms prev) (fR cd rs) (acc++ep prev rs++List.replicate (n - (acc.length+(ep prev rs).length)) 0)
 | [],0,acc,ms,prev,hr,hle,hk,hms,hor => by
  simp only [ep,List.length_nil,Nat.add_zero] at hle hor ⊢
  rw [show n - acc.length=0 by omega,List.replicate_zero,List.append_nil,List.append_nil]
  exact fun Y => rfl
 | [],k+1,acc,ms,prev,hr,hle,hk,hms,hor => by
  simp only [ep,List.length_nil,Nat.add_zero] at hle hor ⊢
  refine uQ ?_ (un t n k acc ms prev)
  by_cases hn:n≤acc.length
  ·rw [if_pos hn,show n - acc.length=0 by omega,List.replicate_zero,List.append_nil,List.append_nil]
   exact d7.ret acc
  ·rw [if_neg hn,if_pos ω,List.append_nil]
   exact d7.ret _
 | r :: rs,0,acc,ms,prev,hr,hle,hk,hms,hor => by
  have:=(hr r (by simp)).1.out_pos prev
  rw [ep,List.length_append] at hle
  omega
 | r :: rs,k+1,acc,ms,prev,hr,hle,hk,hms,hor => by
  have h1:=hr r (by simp)
  have hp:=h1.1.out_pos prev
  have e:(ep prev (r :: rs)).length=(oA prev r).length+(ep (z5 prev r.1) rs).length:=by rw [ep,List.length_append]
  rw [e] at hle hor
  rw [List.length_cons] at hms hor
  have ih:∀ acc',acc'=acc++oA prev r→d7 (il t n k acc' (ms - 1) (z5 prev r.1)) (fR cd rs) (acc++ep prev (r :: rs)++List.replicate (n - (acc.length+(ep prev (r :: rs)).length)) 0):=by
   rintro acc' rfl
   have hl:(acc++oA prev r).length=acc.length+(oA prev r).length:=List.length_append
   refine (oJ t n cd rs k (acc++oA prev r) (ms - 1) (z5 prev r.1) (fun x hx => hr x (List.mem_cons_of_mem _ hx)) (by rw [hl];omega) (by rw [hl];omega) ω (by rw [hl];omega)).congr O ?_
   rw [e,hl,ep,← List.append_assoc acc,Nat.add_assoc]
  refine uQ ?_ (un t n k acc ms prev)
  rw [if_neg ω,if_neg ω,tu,List.append_assoc]
  refine h1.2.pb ?_
  rcases h1.1 with ⟨hs,hm,hx⟩ | ⟨hs1,hs2,hx,hm⟩
  ·rw [if_pos hs,hm,hx]
   have en:z5 prev r.1=if r.1≠0 then r.1 else prev:=by unfold z5;by_cases h0:r.1=0 <;> simp [h0,hs]
   rw [← en]
   exact ih _ (by unfold oA;rw [if_pos hs])
  ·rw [if_neg ω]
   rw [hx]
   refine (cJ hm).pb ?_
   have eo:oA prev r=List.replicate (r.2.1+repO (r.1 - 16)) (if r.1=16 then prev else 0):=by unfold oA;rw [if_neg ω]
   have en:z5 prev r.1=prev:=by unfold z5;rw [if_neg ω]
   have hl:(oA prev r).length=r.2.1+repO (r.1 - 16):=by rw [eo,List.length_replicate]
   rw [if_neg ω]
   have:=ih _ rfl
   rw [en,eo] at this
   exact this
def vZ (r:qW):Prop:=r.1=0∨16<r.1
theorem yL:∀ (rs:List qW) (p:Nat),(∀ r ∈ rs,vZ r)→ep p rs=List.replicate (ep p rs).length 0
 | [],p,h => rfl
 | r :: rs,p,h => by
  have ih:=yL rs (z5 p r.1) fun x hx => h x (List.mem_cons_of_mem _ hx)
  have h1:oA p r=List.replicate (oA p r).length 0:=by
   unfold oA
   rcases h r (by simp) with h0 | h0
   ·rw [h0];rfl
   ·rw [if_neg ω,if_neg ω,List.length_replicate]
  rw [ep,List.length_append,← List.replicate_append_replicate,← h1,← ih]
theorem EP {A:Nat} {ccl ls:List Nat} {t:T} {cd:Nat→aM} {rs:List qW} (hb:dX ccl=some t) (hr:∀ r ∈ rs,me r∧d7 t.walk (cd r.1) r.1) (ho:ep 8 rs=ls) (hl:ls.length=A) :
  d7 (mf A ccl) (aV 0 1++fR cd rs) ls:=by
 have hlen:=sj rs 8 fun r h => (hr r h).1
 refine uQ ?_ (s9 A ccl)
 rw [hb]
 refine d7.pb (v:=A) ?_ ?_
 ·refine uQ ?_ (wq A)
  refine (d7.pb (Z:=[]) (cJ (n:=0) (k:=1) δ) ?_).congr (List.append_nil _) O
  rw [if_pos rfl]
  exact d7.ret A
 ·subst ho
  refine (oJ t A cd rs A [] A 8 hr (by simp;omega) (by simp) ω (.inr (by simpa using hl))).congr O ?_
  simp [hl]
theorem DL {A long:Nat} {ccl ls:List Nat} {t:T} {cd:Nat→aM} {rs zs:List qW} (hb:dX ccl=some t) (hr:∀ r ∈ rs,me r∧d7 t.walk (cd r.1) r.1) (hz:∀ r ∈ zs,me r∧vZ r) (ho:ep 8 (rs++zs)=ls) (hl:ls.length=A)
  (h2:2≤rs.length) (h8:long<8) (hlong:rs.length - 2<2 ^ (2+2 * long)) :
  d7 (mf A ccl) (aV 1 1++(aV long 3++aV (rs.length - 2) (2+2 * long))++fR cd rs) ls:=by
 have hlen:=sj (rs++zs) 8 fun r h => by
  rcases List.mem_append.1 h with h | h
  ·exact (hr r h).1
  ·exact (hz r h).1
 rw [ho,hl,List.length_append] at hlen
 refine uQ ?_ (s9 A ccl)
 rw [hb]
 refine d7.pb (v:=rs.length) ?_ ?_
 ·refine uQ ?_ (wq A)
  refine (cJ (n:=1) (k:=1) δ).pb ?_
  rw [if_neg δ]
  refine (cJ (by simpa using h8)).pb ?_
  refine (d7.pb (Z:=[]) (cJ hlong) ?_).congr (List.append_nil _) O
  rw [if_neg ω]
  exact (d7.ret _).congr O ω
 ·rw [nV] at ho
  have hzr:=yL zs (i9 8 rs) fun r h => (hz r h).2
  have hA:(ep 8 rs).length+(ep (i9 8 rs) zs).length=A:=by rw [← hl,← ho,List.length_append]
  refine (oJ t A cd rs A [] rs.length 8 hr (by simp;omega) (by simp) ω (.inl O)).congr O ?_
  rw [List.nil_append,List.length_nil,Nat.zero_add,← ho]
  conv => rhs;rw [hzr]
  congr 2
  omega
theorem rX (l:Nat→Nat) (hl:∀ j,j<19→l j<8):∀ (k i:Nat) (f:Nat→Nat),i+k≤19 →
  d7 (lG k i f) ((List.range' i k).flatMap fun q => aV (l (ry q)) 3) (fun j => (List.range' i k).foldl (fun v q => if j=ry q then l j else v) (f j))
 | 0,i,f,h => d7.ret f
 | k+1,i,f,h => by
  rw [List.range'_succ,List.flatMap_cons,lG]
  refine (cJ (show l (ry i)<2 ^ 3 from hl _ (xk i ω))).pb ((rX l hl k (i+1) _ ω).congr O (funext fun j => ?_))
  rw [List.foldl_cons]
  by_cases e:j=ry i
  ·subst e;simp
  ·rw [if_neg e,if_neg e]
theorem wl (v:Nat) (p:Nat→Prop) [DecidablePred p]:∀ (l:List Nat) (a:Nat),l.foldl (fun a q => if p q then v else a) a=if (∃ q ∈ l,p q) then v else a
 | [],a => by simp
 | x :: l,a => by
  rw [List.foldl_cons,wl v p l]
  by_cases h1:∃ q ∈ l,p q
  ·rw [if_pos h1,if_pos (by obtain ⟨q,hq,h⟩:=h1;exact ⟨q,List.mem_cons_of_mem _ hq,h⟩)]
  ·rw [if_neg h1]
   by_cases h2:p x
   ·rw [if_pos h2,if_pos ⟨x,by simp,h2⟩]
   ·rw [if_neg h2,if_neg]
    rintro ⟨q,hq,h⟩
    rcases List.mem_cons.1 hq with rfl | hq
    ·exact h2 h
    ·exact h1 ⟨q,hq,h⟩
theorem F0:∀ j,j<19→∃ i,i<19∧ry i=j:=by
 have:∀ j,j<19→∃ i,i<19∧bY.getD i 0=j:=δ
 intro j hj
 obtain ⟨i,h1,h2⟩:=this j hj
 exact ⟨i,h1,by rw [Dl];exact h2⟩
theorem Fg (ls:List Nat) (hl:ls.length=19) (h7:∀ x ∈ ls,x≤7) (n:Nat) (hn:n≤19) (hz:∀ i,n≤i→i<19→ls.getD (ry i) 0=0) :
  ∃ f,d7 (lG n 0 (fun _ => 0)) ((List.range n).flatMap fun q => aV (ls.getD (ry q) 0) 3) f∧(List.range 19).map f=ls:=by
 have hlt:∀ j,j<19→ls.getD j 0<8:=fun j hj => by
  have:ls.getD j 0=ls[j]:=by simp [hl,hj]
  rw [this]
  have:=h7 _ (List.getElem_mem (show j<ls.length by omega))
  omega
 refine ⟨_,by rw [List.range_eq_range'];exact rX (fun j => ls.getD j 0) hlt n 0 _ ω,?_⟩
 apply List.ext_getElem
 ·simp [hl]
 ·intro j h1 h2
  rw [List.getElem_map,List.getElem_range,wl]
  have hj:j<19:=by simpa using h1
  have e:ls.getD j 0=ls[j]:=by simp [h2]
  split
  ·exact e
  ·rename_i hne
   obtain ⟨i,hi,ho⟩:=F0 j hj
   rw [← e,← ho]
   refine (hz i (Nat.le_of_not_lt fun hlt => hne ⟨i,?_,ho.symm⟩) hi).symm
   simp [hlt]
theorem rJ (ls:List Nat):(List.range ls.length).map (fun s => ls.getD s 0)=ls:=by
 apply List.ext_getElem
 ·simp
 ·intro j h1 h2
  simp [h2]
theorem pt.count {u:Nat→Bool} {n most:Nat} {ls:List Nat} (h:pt u n most ls):ls.countP (·≠0)=(bS u n).length:=by
 rw [← rJ ls,List.countP_map,h.len,List.countP_eq_length_filter]
 congr 1
 apply List.filter_congr
 intro s hs
 have:=h.used s (List.mem_range.1 hs)
 cases hu:u s with
 | true => simpa using this.2 hu
 | false =>
  have:¬ ls.getD s 0≠0:=fun h0 => by rw [this.1 h0] at hu;cases hu
  simpa using this
theorem C3 {u:Nat→Bool} {n most:Nat} {ls:List Nat} (h:pt u n most ls):eD ls=((bS u n).map fun s => room (ls.getD s 0)).sum:=by
 have key:∀ m,m≤n→(((List.range m).map fun s => room (ls.getD s 0)).sum=((bS u m).map fun s => room (ls.getD s 0)).sum):=by
  intro m
  induction m with
  | zero => intro _;rfl
  | succ m ih =>
   intro hm
   rw [List.range_succ,List.map_append,List.sum_append,ih ω,mT]
   have hu:=h.used m ω
   cases e:u m with
   | true => simp
   | false =>
    have:ls.getD m 0=0:=by
     by_cases h0:ls.getD m 0=0
     ·exact h0
     ·rw [hu.1 h0] at e;cases e
    have h2:room (ls.getD m 0)=0:=by rw [this];rfl
    rw [List.map_singleton,List.sum_singleton,h2,if_neg (by simp)]
    rfl
 rw [← key n (Nat.le_refl _)]
 unfold eD
 conv => lhs;rw [← rJ ls]
 rw [List.map_map,h.len]
 rfl
def eG (u:Nat→Bool) (n:Nat) (ls:List Nat) (s:Nat):aM:=if (bS u n).length=1 then [] else lT (dq ls s) (ls.getD s 0)
theorem pt.reads {u:Nat→Bool} {n most:Nat} {ls:List Nat} (h:pt u n most ls) (hm:most≤15) (hu:bS u n≠[]) :
  ∃ t,dX ls=some t∧∀ s,s<n→u s=true→d7 t.walk (eG u n ls s) s:=by
 have hc:=h.count
 have hpos:0<(bS u n).length:=List.length_pos_iff.2 hu
 by_cases h1:(bS u n).length=1
 ·obtain ⟨x,hx⟩:=List.length_eq_one_iff.1 h1
  have hxm:=(fu u n x).1 (by rw [hx];simp)
  refine ⟨.leaf x,sz (by rw [hc,h1]) (by rw [h.len];exact hxm.1) ((h.used x hxm.1).2 hxm.2),fun s hs hus Y => ?_⟩
  have:s ∈ bS u n:=(fu u n s).2 ⟨hs,hus⟩
  rw [hx,List.mem_singleton] at this
  subst this
  unfold eG
  rw [if_pos h1]
  rfl
 ·obtain ⟨t,ht,hw⟩:=tT (ls:=ls) ω (fun x hx => Nat.le_trans (h.most x hx) hm) (h.full ω)
  refine ⟨t,ht,fun s hs hus Y => ?_⟩
  have h0:=(h.used s hs).2 hus
  unfold eG
  rw [if_neg h1,mZ ls s h0]
  exact hw s (by rw [h.len];exact hs) h0 Y
theorem y1 (u:Nat→Bool) {a n:Nat} (h:a≤n):bS u a=(bS u n).filter (·<a):=by
 unfold bS
 rw [List.filter_filter,show n=a+(n - a) by omega,List.range_add,List.filter_append]
 have h1:(List.range a).filter (fun x => decide (x<a) && u x)=(List.range a).filter u:=by
  apply List.filter_congr
  intro x hx
  simp [List.mem_range.1 hx]
 have h2:((List.range (n - a)).map (a+·)).filter (fun x => decide (x<a) && u x)=[]:=by
  rw [List.filter_eq_nil_iff]
  intro x hx
  obtain ⟨y,_,rfl⟩:=List.mem_map.1 hx
  simp
  intro h0
  omega
 rw [h1,h2,List.append_nil]
theorem zp {u:Nat→Bool} {n most:Nat} {ls:List Nat} (h:pt u n most ls) (hall:∀ s ∈ bS u n,ls.getD s 0=1) (a:Nat) (ha:a≤n):(ls.take a).count 1=(bS u a).length:=by
 induction a with
 | zero => simp [bS]
 | succ a ih =>
  rw [gt ls a (by rw [h.len];omega),ih ω,mT]
  have e:ls.getD a 0=ls[a]'(by rw [h.len];omega):=by simp [h.len,show a<n by omega]
  cases hu:u a with
  | true =>
   have h1:ls[a]'(by rw [h.len];omega)=1:=by rw [← e];exact hall a ((fu u n a).2 ⟨ω,hu⟩)
   simp [h1]
  | false =>
   have h1:¬ ls[a]'(by rw [h.len];omega)=1:=by
    rw [← e]
    intro h1
    have:=(h.used a ω).1 ω
    rw [hu] at this
    cases this
   simp [h1]
theorem Ba {u:Nat→Bool} {n most:Nat} {ls:List Nat} {a b:Nat} (h:pt u n most ls) (hu:bS u n=[a,b]):a<b∧b<n∧ls.getD a 0=1∧ls.getD b 0=1∧dq ls a=0∧dq ls b=1:=by
 have ha:=(fu u n a).1 (by rw [hu];simp)
 have hb:=(fu u n b).1 (by rw [hu];simp)
 have hab:a<b:=by
  have hs:(bS u n).Pairwise (·<·):=List.Pairwise.filter _ List.pairwise_lt_range
  rw [hu] at hs
  simpa using hs
 have hk:=C3 h
 rw [h.full (by rw [hu];simp),hu] at hk
 simp only [List.map_cons,List.map_nil,List.sum_cons,List.sum_nil,Nat.add_zero] at hk
 have hr:∀ l,l≠0→room l≤2 ^ 14∧(room l=2 ^ 14→l=1):=fun l h0 => by
  unfold room
  rw [if_neg h0]
  refine ⟨Nat.pow_le_pow_right ω ω,fun he => ?_⟩
  rcases Nat.lt_or_ge 1 l with hlt | hge
  ·have:=Nat.pow_le_pow_right (n:=2) ω (show 15 - l≤13 by omega)
   rw [he] at this
   exact absurd this δ
  ·omega
 have h1:=hr _ ((h.used a ha.1).2 ha.2)
 have h2:=hr _ ((h.used b hb.1).2 hb.2)
 have e15:(2:Nat) ^ 15=2 ^ 14+2 ^ 14:=δ
 have la:=h1.2 ω
 have lb:=h2.2 ω
 have hall:∀ s ∈ bS u n,ls.getD s 0=1:=fun s hs => by
  rw [hu] at hs
  simp only [List.mem_cons,List.not_mem_nil,or_false] at hs
  rcases hs with rfl | rfl
  ·exact la
  ·exact lb
 have us1:us ls 1=0:=rfl
 refine ⟨hab,hb.1,la,lb,?_,?_⟩
 ·unfold dq
  rw [la,us1,zp h hall a ω,y1 u (show a≤n by omega),hu]
  simp
  omega
 ·unfold dq
  rw [lb,us1,zp h hall b ω,y1 u (show b≤n by omega),hu]
  simp [hab]
def nA (sh:Bool) (s:Nat):aM:=if sh then aV 0 1++aV s 1 else aV 1 1++aV s 8
theorem Ac {u:Nat→Bool} {A most:Nat} {ls l:List Nat} {sh:Bool} (h:pt u A most ls) (hl:bS u A=l) (hne:l≠[]) (h2:l.length≤2) (h256:∀ s ∈ l,s<256) (hsh:sh=true→l.getD 0 0<2) :
  ∃ t,d7 (ow A) (aV (l.length - 1) 1++(nA sh (l.getD 0 0)++(if l.length=2 then aV (l.getD 1 0) 8 else []))) t∧∀ s,s<A→u s=true→d7 t.walk (eG u A ls s) s:=by
 have first:∀ {β:Type} {f:Nat→jh β} {Z:aM} {v:β} (s:Nat),s<256→(sh=true→s<2)→d7 (f s) Z v→d7 (pb (rd 1) fun q => pb (rd (7 * q+1)) f) (nA sh s++Z) v:=by
  intro β f Z v s hs h2 hf
  unfold nA
  cases sh with
  | true =>
   rw [if_pos rfl,List.append_assoc]
   exact (cJ (n:=0) (k:=1) δ).pb ((cJ (k:=7 * 0+1) (by have:=h2 rfl;omega)).pb hf)
  | false =>
   rw [if_neg (by simp),List.append_assoc]
   exact (cJ (n:=1) (k:=1) δ).pb ((cJ (k:=7 * 1+1) ω).pb hf)
 match l,hne,h2,hl,h256,hsh with
 | [a],_,_,hl,h256,hsh =>
  have ha:=(fu u A a).1 (by rw [hl];simp)
  refine ⟨.leaf a,?_,fun s hs hus Y => ?_⟩
  ·refine (cJ (n:=0) (k:=1) δ).pb ?_
   refine first a (h256 a (by simp)) hsh ?_
   rw [if_neg δ,if_neg (by simp)]
   unfold eU
   rw [if_pos rfl,if_pos ha.1]
   exact d7.ret _
  ·have:s ∈ bS u A:=(fu u A s).2 ⟨hs,hus⟩
   rw [hl,List.mem_singleton] at this
   subst this
   unfold eG
   simp [hl]
   rfl
 | [a,b],_,_,hl,h256,hsh =>
  obtain ⟨hab,hb,la,lb,ca,cb⟩:=Ba h hl
  refine ⟨.node (.leaf a) (.leaf b),?_,fun s hs hus Y => ?_⟩
  ·refine (cJ (n:=1) (k:=1) δ).pb ?_
   refine first a (h256 a (by simp)) hsh ?_
   rw [if_pos rfl,if_pos (by simp)]
   refine (d7.pb (Z:=[]) (cJ (show b<2 ^ 8 from h256 b (by simp))) ?_).congr (List.append_nil _) O
   unfold eU
   rw [if_neg δ,if_pos ω]
   exact d7.ret _
  ·have:s ∈ bS u A:=(fu u A s).2 ⟨hs,hus⟩
   rw [hl] at this
   simp only [List.mem_cons,List.not_mem_nil,or_false] at this
   unfold eG
   rw [hl,if_neg (by simp)]
   rcases this with rfl | rfl
   ·rw [ca,la];rfl
   ·rw [cb,lb];rfl
def eE (r:qW):List Value:=[iT r.1,iT r.2.1,iT r.2.2]
def cO (rs:List qW):List Value:=rs.flatMap eE
theorem lL (rs:List qW) (r:qW):cO (rs++[r])=cO rs++eE r:=by simp [cO]
theorem kr (r:qW):∀ u ∈ eE r,u.oneCell'=true:=by
 intro u hu
 simp only [eE,List.mem_cons,List.not_mem_nil,or_false] at hu
 rcases hu with rfl | rfl | rfl <;> rfl
theorem IM {m:Nat} (h:m<128):me (18,m,7):=.inr ⟨by show 16≤18;omega,by show 18≤18;omega,by show 7=repB 2;exact t6.2.2.1.symm,by show m<2 ^ repB 2;rw [t6.2.2.1];exact h⟩
theorem Ir {m:Nat} (h:m<8):me (17,m,3):=.inr ⟨by show 16≤17;omega,by show 17≤18;omega,by show 3=repB 1;exact t6.2.1.symm,by show m<2 ^ repB 1;rw [t6.2.1];exact h⟩
theorem Ik {m:Nat} (h:m<4):me (16,m,2):=.inr ⟨by show 16≤16;omega,by show 16≤18;omega,by show 2=repB 0;exact t6.1.symm,by show m<2 ^ repB 0;rw [t6.1];exact h⟩
theorem Lw {m p:Nat} (h:11≤m):oA p (18,m - 11,7)=List.replicate m 0:=by
 show List.replicate (m - 11+repO 2) 0=_
 rw [t6.2.2.2.2.2,show m - 11+11=m by omega]
theorem LP {m p:Nat} (h:3≤m):oA p (17,m - 3,3)=List.replicate m 0:=by
 show List.replicate (m - 3+repO 1) 0=_
 rw [t6.2.2.2.2.1,show m - 3+3=m by omega]
theorem LL {m p:Nat} (h:3≤m):oA p (16,m - 3,2)=List.replicate m p:=by
 show List.replicate (m - 3+repO 0) p=_
 rw [t6.2.2.2.1,show m - 3+3=m by omega]
structure o5 (ls:List Nat) (i p:Nat) (rs:List qW):Prop where
 out:ep 8 rs=ls.take i
 prev:i9 8 rs=p
 ok:∀ r ∈ rs,me r
 len:rs.length≤i
theorem o5.snoc {ls:List Nat} {i p m x:Nat} {rs:List qW} {r:qW} (h:o5 ls i p rs) (hr:me r) (hm:i+m≤ls.length) (h1:1≤m) (hx:∀ j,j<m→ls.getD (i+j) 0=x) (ho:oA p r=List.replicate m x):o5 ls (i+m) (z5 p r.1) (rs++[r]):=by
 refine ⟨?_,?_,fun q hq => ?_,?_⟩
 ·rw [nV,h.out,h.prev,xf hm hx,ep,ep,ho,List.append_nil]
 ·rw [pM,h.prev];rfl
 ·rcases List.mem_append.1 hq with hq | hq
  ·exact h.ok q hq
  ·rw [List.mem_singleton] at hq;subst hq;exact hr
 ·have:=h.len
  rw [List.length_append,List.length_singleton]
  omega
theorem FQ (W:World) (b o c:Nat) (ls:List Nat) (hr:l7 W .i64 b o ls) (h15:∀ x ∈ ls,x≤15) (hn:ls.length≤4096) (cb B k:Nat) (v:Value) (hb:ff W cb (dt v k) 39) (hw:jA B v W) (hB:B≠cb) (hk:k≤4611686018427300000) (hbc:b≠cb) :
  Calls Tryz.prog 74 #[.slice (some ⟨b,o,none⟩) ls.length c,pT cb] W fun e w' => ∃ rs a cap k',e=.returned (.slice a rs.length cap)∧bT w' a cap 166 3 rs.length (cO rs)∧(∀ x ∈ bQ a,W.heap.size≤x) ∧
   o5 ls ls.length (i9 8 rs) rs∧ff w' cb (dt v k') 39∧k≤k'∧k'≤k+3 * ls.length∧cf [cb] W w':=by
 have H:=(gQ hb).vec0 166 3
 have hS:b ∉ [cb]:=by simpa using hbc
 have hcbB:∀ x ∈ [cb],B≠x:=by simpa using hB
 refine enter (m:=125) Tryz.func74 O Tryz.ntmps74 O (Cy (bI O (Lt (Cy (bI O (Lt (Cy (az O (Lt (Cs (Cy (az O (Ln ?_)))))))))))))
 refine tn ?_
 refine aH (fun ρ w' => ∃ rs a cap kk,ρ 5=.slice a rs.length cap∧o5 ls ls.length (i9 8 rs) rs∧k≤kk∧kk≤k+3 * ls.length ∧
  St W [cb] [aA a cap 166 3 rs.length (cO rs),aa cb (dt v kk) 39] w') ?_ ?_
 case refine_1 =>
  refine Cb ?_
  refine Cl (fun mm ρ w' => ∃ i rs p a cap kk,i≤ls.length∧mm=ls.length - i∧o5 ls i p rs∧k≤kk∧kk≤k+3 * i∧ρ 0=.slice (some ⟨b,o,none⟩) ls.length c∧ρ 1=pT cb∧ρ 5=.slice a rs.length cap∧ρ 6=iT p∧ρ 7=iT i ∧
   St W [cb] [aA a cap 166 3 rs.length (cO rs),aa cb (dt v kk) 39] w') ls.length
   ⟨0,[],8,none,0,k,ω,rfl,⟨rfl,rfl,by simp,by simp⟩,ω,ω,rfl,rfl,rfl,rfl,rfl,H⟩ ?_
  clear H
  rintro mm ρ w5 ⟨i,rs,p,a,cap,kk,hi,hmm,hR,hk1,hk2,r0,r1,r5,r6,r7,H⟩
  refine Cs (Cy (ai r7 (bU r0 (bG bh O (bP O O (Lt ?_))))))
  by_cases hlt:i<ls.length
  case neg =>
   obtain rfl:i=ls.length:=ω
   refine CF O ω (Cx (ax (ax (br (tn ?_)))))
   exact ⟨rs,a,cap,kk,r5,by rw [hR.prev];exact hR,hk1,hk2,H⟩
  have hcell:=hr i hlt
  obtain ⟨x,hx⟩:∃ x,x=ls[i]:=⟨_,rfl⟩
  have hx15:x≤15:=by rw [hx];exact h15 _ (List.getElem_mem hlt)
  have hxg:ls.getD i 0=x:=by simp [hlt,hx]
  rw [← hx] at hcell
  refine CT O ω (Ck (tn (Cb (Cy (az O (Lt (Cs ?_)))))))
  refine aH (fun ρ w' => ∃ m,1≤m∧i+m≤ls.length∧(∀ j,j<m→ls.getD (i+j) 0=x)∧ρ 0=.slice (some ⟨b,o,none⟩) ls.length c∧ρ 1=pT cb∧ρ 5=.slice a rs.length cap∧ρ 6=iT p∧ρ 7=iT i∧ρ 8=iT m ∧
   St W [cb] [aA a cap 166 3 rs.length (cO rs),aa cb (dt v kk) 39] w') ?_ ?_
  case refine_1 =>
   refine Cb ?_
   refine Cl (fun mm ρ w' => ∃ m,mm=ls.length - m∧1≤m∧i+m≤ls.length∧(∀ j,j<m→ls.getD (i+j) 0=x)∧ρ 0=.slice (some ⟨b,o,none⟩) ls.length c∧ρ 1=pT cb∧ρ 5=.slice a rs.length cap∧ρ 6=iT p∧ρ 7=iT i∧ρ 8=iT m ∧
    St W [cb] [aA a cap 166 3 rs.length (cO rs),aa cb (dt v kk) 39] w') (ls.length - 1)
    ⟨1,rfl,ω,ω,fun j hj => by rw [show i+j=i by omega];exact hxg,r0,r1,r5,r6,r7,rfl,H⟩ ?_
   clear H r0 r1 r5 r6 r7
   rintro mm ρ w6 ⟨m,hmm2,h1,hm,hall,r0,r1,r5,r6,r7,r8,H⟩
   by_cases hmn:i+m<ls.length
   case neg =>
    refine Cs (Cs (Cd aJ κ ?_))
    intro w hsame
    replace H:=H.same hsame
    refine bW r7 (bW r8 (aG O O (ck ω) (cF r0 (Sp (dx bh O) (Sp (dy (b:=false) O O (decide_eq_false ω)) (yu O (aY O O O O O (aY O O O O O (aY O O O O O (aY O O O O O (aY O O O O O (aY O O O O O (aY O O O O O (aY O O O O O (aY O O O O O (aY O O O O O (aY O O O O O (Sp (dQ O O) (Sn ?_)))))))))))))))))))
    refine tn (Cq O (Cx (ax (ax (br (tn ?_))))))
    exact ⟨m,h1,hm,hall,r0,r1,r5,r6,r7,r8,H⟩
   have hcell2:=hr (i+m) hmn
   obtain ⟨y,hy⟩:∃ y,y=ls[i+m]:=⟨_,rfl⟩
   have hyg:ls.getD (i+m) 0=y:=by simp [hmn,hy]
   rw [← hy] at hcell2
   refine Cs (Cs (Cd aJ κ ?_))
   intro w hsame
   replace H:=H.same hsame
   refine bW r7 (bW r8 (aG O O (ck ω) (cF r0 (Sp (dx bh O) (Sp (dy (b:=true) O O (decide_eq_true ω)) (yu O (cz O O O O (YS r0) (cz O O O O (YI r7) (cz O O O O (YI r8) (cz O O O O (oC O O (ck ω)) (cz O O O O (ci (i+m) bh O O O hmn) (cz O O O O (ef a_ O (H.old hcell2 hS)) (cz O O O O (YS r0) (cz O O O O (YI r7) (cz O O O O (ci i bh O O O hlt) (cz O O O O (ef a_ O (H.old hcell hS)) (cz O O O O (qi O O) (Sp (dQ O O) (Sn ?_)))))))))))))))))))
   refine tn ?_
   by_cases hxy:y=x
   case neg =>
    refine CF O ω (Cx (ax (ax (br (tn ?_)))))
    exact ⟨m,h1,hm,hall,r0,r1,r5,r6,r7,r8,H⟩
   refine CT O ω (Ck (tn (Cb (Cr (ai r8 (ao O O (ck (b:=1) ω) (az O (Ln (aF (tn ?_))))))))))
   refine ⟨ls.length - (m+1),ω,m+1,O,ω,ω,fun j hj => ?_,r0,r1,r5,r6,r7,O,H⟩
   by_cases hjm:j=m
   ·rw [hjm,hyg,hxy]
   ·exact hall j ω
  case refine_2 =>
  clear H r0 r1 r5 r6 r7
  rintro ρ w6 ⟨m,h1,hm,hall,r0,r1,r5,r6,r7,r8,H⟩
  have hrl:=hR.len
  refine Cs ?_
  refine aH (fun ρ w' => ∃ m' rs' p' a' cap' kk',1≤m'∧i+m'≤ls.length∧o5 ls (i+m') p' rs'∧kk≤kk'∧kk'≤kk+3 * m'∧ρ 0=.slice (some ⟨b,o,none⟩) ls.length c∧ρ 1=pT cb∧ρ 5=.slice a' rs'.length cap'∧ρ 6=iT p'∧ρ 7=iT i∧ρ 8=iT m' ∧
   St W [cb] [aA a' cap' 166 3 rs'.length (cO rs'),aa cb (dt v kk') 39] w') ?_ ?_
  case refine_1 =>
   refine Cb (Cs ?_)
   refine aH (fun ρ w' => ∃ (T:Bool) (kk':Nat),ρ 51=.bool T∧(T=true→x=0∧11≤m)∧kk≤kk'∧kk'≤kk+1∧ρ 0=.slice (some ⟨b,o,none⟩) ls.length c∧ρ 1=pT cb∧ρ 5=.slice a rs.length cap∧ρ 6=iT p∧ρ 7=iT i∧ρ 8=iT m ∧
    St W [cb] [aA a cap 166 3 rs.length (cO rs),aa cb (dt v kk') 39] w') ?_ ?_
   case refine_1 =>
    by_cases hx0:x=0
    case neg =>
     refine Cr (bU r0 (ai r7 (Lp (ci i bh O O O hlt) (aC a_ O (H.old hcell hS) (Lp (bR (b:=false) O O (decide_eq_false ω)) (dh O (Lk (Lk (ay O O (dh O (Lk (Lk (Lk (ay O O (cU O (Lt ?_))))))))))))))))
     exact ⟨false,kk,O,by simp,ω,ω,r0,r1,r5,r6,r7,r8,H⟩
    by_cases hm11:11≤m
    case neg =>
     refine Cr (bU r0 (ai r7 (Lp (ci i bh O O O hlt) (aC a_ O (H.old hcell hS) (Lp (bR (b:=true) O O (decide_eq_true ω)) (dh O (Lg (YI r8) (Lg (jC (b:=false) O O (decide_eq_false ω)) (ay O O (dh O (Lk (Lk (Lk (ay O O (cU O (Lt ?_))))))))))))))))
     exact ⟨false,kk,O,by simp,ω,ω,r0,r1,r5,r6,r7,r8,H⟩
    refine Cr (bU r0 (ai r7 (Lp (ci i bh O O O hlt) (aC a_ O (H.old hcell hS) (Lp (bR (b:=true) O O (decide_eq_true ω)) (dh O (Lg (YI r8) (Lg (jC (b:=true) O O (decide_eq_true ω)) (ay O O (dh O (Lg (YP r1) (kP H 1 O hw hcbB hB 4 ω ω ω O O O O O O ?_))))))))))))
    intro w r hr4 H
    simp only [List.set] at H
    refine Lg (e9 O O) (ay O O (cU O (Lt ?_)))
    exact ⟨_,kk+1,O,fun _ => ⟨hx0,hm11⟩,ω,ω,r0,r1,r5,r6,r7,r8,H⟩
   case refine_2 =>
   clear H r0 r1 r5 r6 r7 r8
   rintro ρ w7 ⟨T,kk1,r51,hT,hk3,hk4,r0,r1,r5,r6,r7,r8,H⟩
   refine CB r51 (fun hTt => ?_) (fun _ => ?_)
   ·obtain ⟨hx0,hm11⟩:=hT hTt
    subst hx0
    refine Cy (ai r8 (Lp (A1 O O (I3 (b:=138))) (az O (Lt (Cr (bU r5 (ai O (bw O O (iw (b:=11) ω) (Lp (iF (eE (18,min m 138 - 11,7)) O κ) (cH H qq (eE (18,min m 138 - 11,7)) O O δ δ κ ?_))))))))))
    intro w b22 hn22 hb22 H
    refine dH H 1 qq δ O O O O (news:=eE (18,min m 138 - 11,7)) O (fun j u hj => by rw [Nat.zero_add];exact H.cell 0 O hj) (kr _) (by simp only [maxLen];omega) ω ?_
    intro a' c' w hfa H
    simp only [List.set] at H
    refine gS O (Ln (aF (tn ?_)))
    refine ⟨min m 138,rs++[(18,min m 138 - 11,7)],_,a',c',kk1,ω,ω,hR.snoc (IM ω) ω ω (fun j hj => hall j ω) (Lw ω),ω,ω,r0,r1,?_,r6,r7,O,?_⟩
    ·rw [List.length_append];rfl
    ·rw [lL,List.length_append]
     exact H.sub [1,2] O (by simp)
   refine Cs ?_
   refine aH (fun ρ w' => ∃ (T:Bool) (kk':Nat),ρ 74=.bool T∧(T=true→x=0∧3≤m)∧kk≤kk'∧kk'≤kk+2∧ρ 0=.slice (some ⟨b,o,none⟩) ls.length c∧ρ 1=pT cb∧ρ 5=.slice a rs.length cap∧ρ 6=iT p∧ρ 7=iT i∧ρ 8=iT m ∧
    St W [cb] [aA a cap 166 3 rs.length (cO rs),aa cb (dt v kk') 39] w') ?_ ?_
   case refine_1 =>
    by_cases hx0:x=0
    case neg =>
     refine Cr (bU r0 (ai r7 (Lp (ci i bh O O O hlt) (aC a_ O (H.old hcell hS) (Lp (bR (b:=false) O O (decide_eq_false ω)) (dh O (Lk (Lk (ay O O (dh O (Lk (Lk (Lk (ay O O (cU O (Lt ?_))))))))))))))))
     exact ⟨false,kk1,O,by simp,ω,ω,r0,r1,r5,r6,r7,r8,H⟩
    by_cases hml:3≤m
    case neg =>
     refine Cr (bU r0 (ai r7 (Lp (ci i bh O O O hlt) (aC a_ O (H.old hcell hS) (Lp (bR (b:=true) O O (decide_eq_true ω)) (dh O (Lg (YI η) (Lg (jC (b:=false) O O (decide_eq_false ω)) (ay O O (dh O (Lk (Lk (Lk (ay O O (cU O (Lt ?_))))))))))))))))
     exact ⟨false,kk1,O,by simp,ω,ω,r0,r1,r5,r6,r7,r8,H⟩
    refine Cr (bU r0 (ai r7 (Lp (ci i bh O O O hlt) (aC a_ O (H.old hcell hS) (Lp (bR (b:=true) O O (decide_eq_true ω)) (dh O (Lg (YI η) (Lg (jC (b:=true) O O (decide_eq_true ω)) (ay O O (dh O (Lg (YP r1) (kP H 1 O hw hcbB hB 4 ω ω ω O O O O O O ?_))))))))))))
    intro w r hr4 H
    simp only [List.set] at H
    refine Lg (e9 O O) (ay O O (cU O (Lt ?_)))
    exact ⟨_,kk1+1,O,fun _ => ⟨hx0,hml⟩,ω,ω,r0,r1,r5,r6,r7,r8,H⟩
   case refine_2 =>
   clear H r0 r1 r5 r6 r7 r8
   rintro ρ w7 ⟨T,kk2,r74,hT,hk3,hk4,r0,r1,r5,r6,r7,r8,H⟩
   refine CB r74 (fun hTt => ?_) (fun _ => ?_)
   ·obtain ⟨hx0,hml⟩:=hT hTt
    subst hx0
    refine Cy (ai r8 (Lp (A1 O O (I3 (b:=10))) (az O (Lt (Cr (bU r5 (ai O (bw O O (iw (b:=3) ω) (Lp (iF (eE (17,min m 10 - 3,3)) O κ) (cH H qq (eE (17,min m 10 - 3,3)) O O δ δ κ ?_))))))))))
    intro w b22 hn22 hb22 H
    refine dH H 1 qq δ O O O O (news:=eE (17,min m 10 - 3,3)) O (fun j u hj => by rw [Nat.zero_add];exact H.cell 0 O hj) (kr _) (by simp only [maxLen];omega) ω ?_
    intro a' c' w hfa H
    simp only [List.set] at H
    refine gS O (Ln (aF (tn ?_)))
    refine ⟨min m 10,rs++[(17,min m 10 - 3,3)],_,a',c',kk2,ω,ω,hR.snoc (Ir ω) ω ω (fun j hj => hall j ω) (LP ω),ω,ω,r0,r1,?_,r6,r7,O,?_⟩
    ·rw [List.length_append];rfl
    ·rw [lL,List.length_append]
     exact H.sub [1,2] O (by simp)
   refine Cs ?_
   refine aH (fun ρ w' => ∃ (T:Bool) (kk':Nat),ρ 97=.bool T∧(T=true→x=p∧3≤m)∧kk≤kk'∧kk'≤kk+3∧ρ 0=.slice (some ⟨b,o,none⟩) ls.length c∧ρ 1=pT cb∧ρ 5=.slice a rs.length cap∧ρ 6=iT p∧ρ 7=iT i∧ρ 8=iT m ∧
    St W [cb] [aA a cap 166 3 rs.length (cO rs),aa cb (dt v kk') 39] w') ?_ ?_
   case refine_1 =>
    by_cases hx0:x=p
    case neg =>
     refine Cr (bU r0 (ai r7 (Lp (ci i bh O O O hlt) (aC a_ O (H.old hcell hS) (ai r6 (Lp (bR (b:=false) O O (decide_eq_false ω)) (dh O (Lk (Lk (ay O O (dh O (Lk (Lk (Lk (ay O O (cU O (Lt ?_)))))))))))))))))
     exact ⟨false,kk2,O,by simp,ω,ω,r0,r1,r5,r6,r7,r8,H⟩
    by_cases hml:3≤m
    case neg =>
     refine Cr (bU r0 (ai r7 (Lp (ci i bh O O O hlt) (aC a_ O (H.old hcell hS) (ai r6 (Lp (bR (b:=true) O O (decide_eq_true ω)) (dh O (Lg (YI η) (Lg (jC (b:=false) O O (decide_eq_false ω)) (ay O O (dh O (Lk (Lk (Lk (ay O O (cU O (Lt ?_)))))))))))))))))
     exact ⟨false,kk2,O,by simp,ω,ω,r0,r1,r5,r6,r7,r8,H⟩
    refine Cr (bU r0 (ai r7 (Lp (ci i bh O O O hlt) (aC a_ O (H.old hcell hS) (ai r6 (Lp (bR (b:=true) O O (decide_eq_true ω)) (dh O (Lg (YI η) (Lg (jC (b:=true) O O (decide_eq_true ω)) (ay O O (dh O (Lg (YP r1) (kP H 1 O hw hcbB hB 4 ω ω ω O O O O O O ?_)))))))))))))
    intro w r hr4 H
    simp only [List.set] at H
    refine Lg (e9 O O) (ay O O (cU O (Lt ?_)))
    exact ⟨_,kk2+1,O,fun _ => ⟨hx0,hml⟩,ω,ω,r0,r1,r5,r6,r7,r8,H⟩
   case refine_2 =>
   clear H r0 r1 r5 r6 r7 r8
   rintro ρ w7 ⟨T,kk3,r97,hT,hk3,hk4,r0,r1,r5,r6,r7,r8,H⟩
   refine CB r97 (fun hTt => ?_) (fun _ => ?_)
   ·obtain ⟨hx0,hml⟩:=hT hTt
    subst hx0
    refine Cy (ai r8 (Lp (A1 O O (I3 (b:=6))) (az O (Lt (Cr (bU r5 (ai O (bw O O (iw (b:=3) ω) (Lp (iF (eE (16,min m 6 - 3,2)) O κ) (cH H qq (eE (16,min m 6 - 3,2)) O O δ δ κ ?_))))))))))
    intro w b22 hn22 hb22 H
    refine dH H 1 qq δ O O O O (news:=eE (16,min m 6 - 3,2)) O (fun j u hj => by rw [Nat.zero_add];exact H.cell 0 O hj) (kr _) (by simp only [maxLen];omega) ω ?_
    intro a' c' w hfa H
    simp only [List.set] at H
    refine gS O (Ln (aF (tn ?_)))
    refine ⟨min m 6,rs++[(16,min m 6 - 3,2)],_,a',c',kk3,ω,ω,hR.snoc (Ik ω) ω ω (fun j hj => hall j ω) (LL ω),ω,ω,r0,r1,?_,r6,r7,O,?_⟩
    ·rw [List.length_append];rfl
    ·rw [lL,List.length_append]
     exact H.sub [1,2] O (by simp)
   refine Cy (az O (Lt (Cy (bU η (bU r0 (ai r7 (Lp (ci i bh O O O hlt) (aC a_ O (H.old hcell hS) (Lp (iF (eE (x,0,0)) O κ) (cH H qq (eE (x,0,0)) O O δ δ κ ?_))))))))))
   intro w b22 hn22 hb22 H
   refine dH H 1 qq δ O O O O (news:=eE (x,0,0)) O (fun j u hj => by rw [Nat.zero_add];exact H.cell 0 O hj) (kr _) (by simp only [maxLen];omega) ω ?_
   intro a' c' w hfa H
   simp only [List.set] at H
   refine gS O (Lt (Cy (bU r0 (ai r7 (Lp (ci i bh O O O hlt) (aC a_ O (H.old hcell hS) (Lp (e9 O O) (Lt ?_))))))))
   have hfin:o5 ls (i+1) (z5 p x) (rs++[(x,0,0)]):=hR.snoc (r:=(x,0,0)) (m:=1) (x:=x) (.inl ⟨by show x<16;omega,rfl,rfl⟩) ω ω (fun j hj => hall j ω) (by
    unfold oA
    rw [if_pos (show x<16 by omega)]
    rfl)
   have hSt:St W [cb] [aA a' c' 166 3 (rs++[(x,0,0)]).length (cO (rs++[(x,0,0)])),aa cb (dt v kk3) 39] w:=by
    rw [lL,List.length_append]
    exact H.sub [1,2] O (by simp)
   by_cases hxp:x > 0
   case neg =>
    have en:z5 p x=p:=by unfold z5;rw [if_neg ω]
    rw [en] at hfin
    refine CF O ω (Ck (aF (tn ?_)))
    exact ⟨1,_,p,a',c',kk3,ω,ω,hfin,ω,ω,r0,r1,by rw [List.length_append];rfl,r6,r7,O,hSt⟩
   have en:z5 p x=x:=by unfold z5;rw [if_pos ω]
   rw [en] at hfin
   refine CT O ω (Cr (bU r0 (ai r7 (Lp (ci i bh O O O hlt) (aC a_ O (H.old hcell hS) (az O (Ln (aF (tn ?_)))))))))
   exact ⟨1,_,x,a',c',kk3,ω,ω,hfin,ω,ω,r0,r1,by rw [List.length_append];rfl,O,r7,O,hSt⟩
  case refine_2 =>
  clear H r0 r1 r5 r6 r7 r8
  rintro ρ w7 ⟨m',rs',p',a',cap',kk',hm1,hm2,hR',hk3,hk4,r0,r1,r5,r6,r7,r8,H⟩
  refine Cr (ai r7 (ai r8 (ao O O (ck ω) (az O (Ln (aF (tn ?_)))))))
  exact ⟨ls.length - (i+m'),ω,i+m',rs',p',a',cap',kk',hm2,O,hR',ω,ω,r0,r1,r5,r6,O,H⟩
 case refine_2 =>
 clear H
 rintro ρ w5 ⟨rs,a,cap,kk,r5,hR,hk1,hk2,H⟩
 refine Cy (bU r5 (gS O (Lt (Ct ?_))))
 refine ak O O ⟨rs,a,cap,kk,O,H.get (i:=0) rfl,fun x hx => ?_,hR,H.blk (i:=1) rfl,hk1,hk2,H.frm⟩
 rcases H.own _ (List.mem_cons_self ..) x hx with h | h
 ·rw [List.mem_singleton] at h
  subst h
  exact absurd (by simp [aa]) (dl H.apart (i:=0) (j:=1) O O δ x hx)
 ·exact h
def rt (s:Nat):Nat:=(2+s % 2) * 2 ^ ((s - 2) / 2)+1
def BX (s:Nat):Nat:=rt s+2 ^ ((s - 2) / 2)
theorem um (s:Nat) (h:4≤s):rt (s+1)=BX s:=by
 unfold BX rt
 rcases Nat.mod_two_eq_zero_or_one s with h2 | h2
 ·rw [show (s+1) % 2=1 by omega,show (s+1 - 2) / 2=(s - 2) / 2 by omega,h2]
  omega
 ·rw [show (s+1) % 2=0 by omega,show (s+1 - 2) / 2=(s - 2) / 2+1 by omega,h2,Nat.pow_succ]
  omega
def pI:Nat→Nat→Nat→Nat
 | 0,s,_ => s
 | k+1,s,n => if n<BX s then s else pI k (s+1) n
def kh (n:Nat):Nat:=if n≤4 then n - 1 else pI 36 4 n
def mQ (n:Nat):Nat:=if n≤4 then 0 else n - rt (kh n)
def i3 (n:Nat):Nat:=if n≤4 then 0 else (kh n - 2) / 2
theorem xJ (n:Nat):∀ (k s:Nat),4≤s→rt s≤n→n<rt (s+k)→s≤pI k s n∧pI k s n<s+k∧rt (pI k s n)≤n∧n<BX (pI k s n)
 | 0,s,h4,h1,h2 => by simp at h2;omega
 | k+1,s,h4,h1,h2 => by
  rw [pI]
  by_cases h:n<BX s
  ·rw [if_pos h];exact ⟨ω,ω,h1,h⟩
  ·rw [if_neg h]
   have:=xJ n k (s+1) ω (by rw [um s h4];omega) (by rw [show s+1+k=s+(k+1) by omega];exact h2)
   omega
theorem Fu {a b:Nat} (ha:4≤a) (h:a≤b):rt a≤rt b:=by
 induction b with
 | zero => omega
 | succ b ih =>
  rcases Nat.lt_or_ge b a with h1 | h1
  ·have:a=b+1:=ω
   subst this;exact Nat.le_refl _
  ·rw [um b ω]
   exact Nat.le_trans (ih h1) (Nat.le_add_right _ _)
theorem jS {n:Nat} (h1:1≤n) (h2:n≤1048576):kh n<40∧(n≤4096→kh n<24)∧mQ n<2 ^ i3 n∧i3 n≤18∧d7 (lz (kh n)) (aV (mQ n) (i3 n)) n:=by
 by_cases h4:n≤4
 ·have e:kh n=n - 1:=by unfold kh;rw [if_pos h4]
  have em:mQ n=0:=by unfold mQ;rw [if_pos h4]
  have ee:i3 n=0:=by unfold i3;rw [if_pos h4]
  rw [em,ee,e]
  refine ⟨ω,fun _ => ω,δ,ω,?_⟩
  unfold lz
  rw [if_pos ω]
  exact (d7.ret _).congr O ω
 ·have e:kh n=pI 36 4 n:=by unfold kh;rw [if_neg h4]
  have em:mQ n=n - rt (kh n):=by unfold mQ;rw [if_neg h4]
  have ee:i3 n=(kh n - 2) / 2:=by unfold i3;rw [if_neg h4]
  obtain ⟨a1,a2,a3,a4⟩:=xJ n 36 4 ω (by show 5≤n;omega) (by show n<1048577;omega)
  rw [← e] at a1 a2 a3 a4
  rw [em,ee]
  have h24:n≤4096→kh n<24:=fun hn => Nat.lt_of_not_le fun hle => by
   have:=Fu (a:=24) ω hle
   rw [show rt 24=4097 from rfl] at this
   omega
  have hm:n - rt (kh n)<2 ^ ((kh n - 2) / 2):=by unfold BX at a4;omega
  refine ⟨ω,h24,hm,ω,?_⟩
  unfold lz
  rw [if_neg ω]
  refine fU (cJ hm) (tU ?_)
  unfold rt at a3 ⊢
  omega
inductive Tk where
 | lit (p:Nat)
 | hit (p k:Nat)
 | cp (p far long:Nat)
def Tk.len:Tk→Nat
 | .lit _ => 1
 | .hit _ _ => 1
 | .cp _ _ long => long
def Tk.Ok (w cc:Nat) (px:List Nat) (at_:Nat):Tk→Prop
 | .lit p => px[at_]?=some p
 | .hit p k => px[at_]?=some p∧0<cc∧k<2 ^ cc∧dv cc (px.take at_) k=p
 | .cp p far long => px[at_]?=some p∧1≤long∧long≤4096∧at_+long≤px.length∧1≤far∧far≤1048576∧eX w far≤at_∧∀ j,j<long→px[at_+j]?=px[at_+j - eX w far]?
def Tk.syms:Tk→List (Nat × Nat)
 | .lit p => [(0,pG p),(1,pR p),(2,pB p),(3,pA p)]
 | .hit _ k => [(0,280+k)]
 | .cp _ far long => [(0,256+kh long),(4,kh far)]
def Tk.bits (c:Nat→Nat→aM):Tk→aM
 | .lit p => c 0 (pG p)++(c 1 (pR p)++(c 2 (pB p)++c 3 (pA p)))
 | .hit _ k => c 0 (280+k)
 | .cp _ far long => c 0 (256+kh long)++(aV (mQ long) (i3 long)++(c 4 (kh far)++aV (mQ far) (i3 far)))
def tE (w cc:Nat) (grp:Nat→Nat) (px:List Nat):Nat→List (Tk × Nat)→Prop
 | at_,[] => at_=px.length
 | at_,t :: ts => at_<px.length∧t.2=grp at_∧t.1.Ok w cc px at_∧tE w cc grp px (at_+t.1.len) ts
theorem Tk.Ok.pos {w cc at_:Nat} {px:List Nat} {t:Tk} (h:t.Ok w cc px at_):1≤t.len∧at_+t.len≤px.length:=by
 cases t with
 | lit p => have:=(List.getElem?_eq_some_iff.1 h).1;simp only [Tk.len];omega
 | hit p k => have:=(List.getElem?_eq_some_iff.1 h.1).1;simp only [Tk.len];omega
 | cp p far long => obtain ⟨_,h1,_,h2,_⟩:=h;simp only [Tk.len];omega
theorem tE.count {w cc:Nat} {grp:Nat→Nat} {px:List Nat}:∀ {ts:List (Tk × Nat)} {at_:Nat},tE w cc grp px at_ ts→at_+ts.length≤px.length
 | [],at_,h => by simp only [tE] at h;simp;omega
 | t :: ts,at_,h => by
  have h1:=h.2.2.1.pos
  have h2:=tE.count h.2.2.2
  rw [List.length_cons]
  omega
theorem vu {px:List Nat} {d:Nat} (hd:1≤d):∀ (n at_:Nat),d≤at_→at_+n≤px.length→(∀ j,j<n→px[at_+j]?=px[at_+j - d]?)→fN d n (px.take at_)=px.take (at_+n)
 | 0,at_,h1,h2,h => rfl
 | n+1,at_,h1,h2,h => by
  have hl:(px.take at_).length=at_:=by rw [List.length_take];omega
  have h0:=h 0 ω
  rw [Nat.add_zero] at h0
  have hlt:at_<px.length:=ω
  have e:(px.take at_).getD ((px.take at_).length - d) 0=px[at_]:=by
   rw [hl,List.getD_eq_getElem?_getD,List.getElem?_take,if_pos ω,← h0,List.getElem?_eq_getElem hlt]
   rfl
  rw [fN,e,← List.take_succ_eq_append_getElem hlt,vu hd n (at_+1) ω ω (fun j hj => by
   have:=h (j+1) ω
   rw [show at_+(j+1)=at_+1+j by omega] at this
   exact this),show at_+1+n=at_+(n+1) by omega]
theorem yV {px:List Nat} {at_ p:Nat} (h:px[at_]?=some p):px.take at_++[p]=px.take (at_+1):=by
 obtain ⟨h1,h2⟩:=List.getElem?_eq_some_iff.1 h
 rw [List.take_succ_eq_append_getElem h1,h2]
theorem B5 {w n cc at_:Nat} {px:List Nat} {g:Nat→T} {c:Nat→Nat→aM} {t:Tk} (h:t.Ok w cc px at_) (hn:px.length=n) (h32:∀ p ∈ px,p<2 ^ 32) (hc:∀ q ∈ t.syms,d7 (g q.1).walk (c q.1 q.2) q.2) :
  d7 (yA w n cc g (px.take at_)) (t.bits c) (px.take (at_+t.len)):=by
 unfold yA
 cases t with
 | lit p =>
  have hp:=h32 p (List.mem_of_getElem? h)
  simp only [Tk.syms,List.mem_cons,List.not_mem_nil,or_false] at hc
  refine (hc _ (.inl O)).pb ?_
  rw [if_pos (show pG p<256 by unfold pG;omega)]
  refine (hc (1,pR p) (by simp)).pb ((hc (2,pB p) (by simp)).pb (fU (hc (3,pA p) (by simp)) (tU ?_)))
  rw [jx hp]
  exact yV h
 | hit p k =>
  obtain ⟨h1,h2,h3,h4⟩:=h
  refine fU (hc _ (List.mem_singleton.2 O)) ?_
  rw [if_neg ω,if_neg ω,Nat.add_sub_cancel_left,if_neg ω,h4]
  exact (d7.ret _).congr O (yV h1)
 | cp p far long =>
  obtain ⟨h0,h1,h2,h3,h4,h5,h6,h7⟩:=h
  have sl:=jS h1 ω
  have sf:=jS h4 h5
  have hs:=sl.2.1 h2
  simp only [Tk.syms,List.mem_cons,List.not_mem_nil,or_false] at hc
  refine (hc _ (.inl O)).pb ?_
  rw [if_neg ω,if_pos ω,Nat.add_sub_cancel_left]
  refine sl.2.2.2.2.pb ((hc _ (.inr O)).pb (fU sf.2.2.2.2 ?_))
  have hl:(px.take at_).length=at_:=by rw [List.length_take];omega
  rw [hl,if_neg ω]
  exact (d7.ret _).congr O (vu (Bz _ _) long at_ h6 h3 h7)
def i_ (c:Nat→Nat→Nat→aM) (ts:List (Tk × Nat)):aM:=ts.flatMap fun t => t.1.bits (c t.2)
theorem rI {w n cc:Nat} {px:List Nat} {grp:Nat→Nat} {G:Nat→Nat→T} {c:Nat→Nat→Nat→aM} (hn:px.length=n) (h32:∀ p ∈ px,p<2 ^ 32):∀ (ts:List (Tk × Nat)) (k at_:Nat),tE w cc grp px at_ ts→n≤at_+k →
  (∀ t ∈ ts,∀ q ∈ t.1.syms,d7 (G t.2 q.1).walk (c t.2 q.1 q.2) q.2)→d7 (iz w n cc (fun a => G (grp a)) k (px.take at_)) (i_ c ts) px
 | [],k,at_,h,hk,hc => by
  simp only [tE] at h
  subst h
  rw [List.take_length]
  cases k with
  | zero => exact d7.ret _
  | succ k =>
   rw [iz,if_pos ω]
   exact d7.ret _
 | t :: ts,0,at_,h,hk,hc => by
  have:=h.1
  omega
 | t :: ts,k+1,at_,h,hk,hc => by
  have hp:=h.2.2.1.pos
  have hl:(px.take at_).length=at_:=by rw [List.length_take];have:=h.1;omega
  rw [iz,if_neg (by rw [hl];have:=h.1;omega),hl]
  have ht:=h.2.1
  refine d7.pb (B5 h.2.2.1 hn h32 (c:=c t.2) (g:=G (grp at_)) (fun q hq => by rw [← ht];exact hc t (by simp) q hq)) ?_
  exact rI hn h32 ts k (at_+t.1.len) h.2.2.2 ω fun x hx => hc x (List.mem_cons_of_mem _ hx)
theorem mr (W:World) (n:Nat) (h1:1≤n) (h2:n≤1048576) :
  Calls Tryz.prog 39 #[iT n] W fun e w' => e=.returned (.tuple #[iT (kh n),iT (mQ n),iT (i3 n)])∧w'=W:=by
 refine enter (m:=32) Tryz.func39 O Tryz.ntmps39 O (Cy (az O (az O (az O (Lt (Cs (Cy (ai O (Lp (sd O O) (Lt ?_))))))))))
 by_cases h4:n≤4
 case pos =>
  refine CT O ω (Cy (ai O (bw O O (iw (b:=1) ω) (az O (az O (az O (Lt (Ct (aE ?_)))))))))
  have e:kh n=n - 1:=by unfold kh;rw [if_pos h4]
  have em:mQ n=0:=by unfold mQ;rw [if_pos h4]
  have ee:i3 n=0:=by unfold i3;rw [if_pos h4]
  exact km O O O O (by rw [e,em,ee];exact ⟨O,O⟩)
 refine CF O ω (Ck (tn (Cy (az O (Lt (Cb ?_))))))
 refine Cl (fun mm ρ w' => ∃ s,mm=40 - s∧4≤s∧s<40∧rt s≤n∧pI (40 - s) s n=pI 36 4 n∧w'=W∧ρ 0=iT n∧ρ 2=iT s) 36
  ⟨4,rfl,ω,ω,by show 5≤n;omega,rfl,rfl,rfl,rfl⟩ ?_
 rintro mm ρ w5 ⟨s,hmm,hs4,hs40,hlo,hgo,rfl,r0,r2⟩
 have hp:2 ^ ((s - 2) / 2)≤2 ^ 18:=Nat.pow_le_pow_right ω ω
 have hq:(2+s % 2) * 2 ^ ((s - 2) / 2)≤3 * 2 ^ 18:=Nat.mul_le_mul ω hp
 have elo:rt s=(2+s % 2) * 2 ^ ((s - 2) / 2)+1:=rfl
 have ehi:BX s=rt s+1 * 2 ^ ((s - 2) / 2):=by unfold BX;rw [Nat.one_mul]
 refine Cs (Cb (Cy (ai η (bw O O (iw (b:=2) ω) (Lp (ki O O ω (Dt (b:=2) ω)) (az O (Lt (Cy (ai η (Lp (gI O O ω (rN (b:=2))) (ao O O (ck (a:=2) ω) (ai O (Lp (ed O O ω (x7 ω)) (ao O O (ck (b:=1) ω) (az O (Ln ?_))))))))))))))))
 refine tn (Cy (ai η (ai O (ai O (Lp (ed O O ω (x7 (a:=1) ω)) (ao O O (ck ω) (bP O O (Lt ?_))))))))
 by_cases hlt:n<(2+s % 2) * 2 ^ ((s - 2) / 2)+1+1 * 2 ^ ((s - 2) / 2)
 case pos =>
  have hsy:kh n=s:=by
   unfold kh
   rw [if_neg h4,← hgo,show 40 - s=(39 - s)+1 by omega,pI,if_pos ω]
  have em:mQ n=n - ((2+s % 2) * 2 ^ ((s - 2) / 2)+1):=by unfold mQ;rw [if_neg h4,hsy,elo]
  have ee:i3 n=(s - 2) / 2:=by unfold i3;rw [if_neg h4,hsy]
  refine CT O ω (Cy (ai η (ai η (ai O (bw O O (iw ω) (ai O (az O (az O (az O (Lt (Ct (bL (aE (aE (bL ?_)))))))))))))))
  exact km O O O O (by rw [hsy,em,ee];exact ⟨O,O⟩)
 refine CF O ω (Ck (aF (tn ?_)))
 have hs39:s<39:=Nat.lt_of_not_le fun hle => by
  obtain rfl:s=39:=ω
  simp at hlt
  omega
 refine Cr (ai η (ao O O (ck (b:=1) ω) (az O (Lt ?_))))
 refine ⟨40 - (s+1),ω,s+1,O,ω,ω,by rw [um s hs4];omega,?_,O,r0,O⟩
 rw [← hgo,show 40 - s=(40 - (s+1))+1 by omega,pI,if_neg ω]
theorem Fr.yieldedU {n:Nat} {ρ:dK} {a:Act} (h:Fr n ρ a) (ops:Array Oper) {j dj:Nat} (hj:(ops[j]?).bind (·.dst)=some dj) (hd:Nat.blt dj n=true) (hb:ρ dj=undef):Go.yielded ops a.tmps j=none:=by
 have hd':dj<a.tmps.size:=by rw [h.size];simpa [Nat.blt_eq] using hd
 have hg:=h.get dj
 rw [hb] at hg
 have:a.tmps[dj]?=some undef:=by
  rw [Array.getD_eq_getD_getElem?] at hg
  rw [Array.getElem?_eq_getElem hd'] at hg ⊢
  simpa using hg
 simp [Go.yielded,hj,this,undef]
theorem jU {P:Program} {n:Nat} {Q:cY} {ρ:dK} {w:World} {l:List Oper} {rest:List Oper} {op:Op} {ty:TypeId} {pos:String} {after:Array Edge} {d:Nat} {j dj:Nat} {b':Bool}
  (hj:(l[j]?).bind (·.dst)=some dj) (hdj:Nat.blt dj n=true) (hb:ρ dj=undef)
  (hd:Nat.blt d n=true) (h:VL P n l.toArray Q rest (eW ρ d undef) w) :
  VL P n l.toArray Q (⟨some d,op,ty,pos,after,some (j,b')⟩ :: rest) ρ w:=fun a ha => by
 unfold wpList
 rw [if_neg (by simp [Region.wanted,ha.yieldedU l.toArray (j:=j) (by simpa using hj) hdj hb])]
 exact h _ (ha.put hd _)
def ii (u:Nat→Bool) (n:Nat):List Value:=(List.range n).map fun s => .bool (u s)
theorem m_ {u:Nat→Bool} {n s:Nat} (h:s<n):(ii u n)[s]?=some (.bool (u s)):=by simp [ii,h]
theorem xH {u v:Nat→Bool} {n x:Nat} (h:∀ s,s<n→v s=(decide (s=x) || u s)):(ii u n).set x (.bool true)=ii v n:=by
 apply List.ext_getElem
 ·simp [ii]
 ·intro j h1 h2
  have hj:j<n:=by simpa [ii] using h2
  simp only [ii,List.getElem_set,List.getElem_map,List.getElem_range,h j hj]
  by_cases e:x=j
  ·subst e;simp
  ·rw [if_neg e];simp [show ¬ j=x from fun h => e h.symm]
theorem lp (n:Nat):List.replicate n (.bool false)=ii (fun _ => false) n:=by
 apply List.ext_getElem
 ·simp [ii]
 ·intro j h1 h2;simp [ii]
theorem na {w:World} {b:Nat} {ls:List Nat} {k:IntKind} {t:TypeId} (h:ff w b (nums k ls) t):l7 w k b 0 ls:=fun j hj => by
 rw [Nat.zero_add]
 refine h.cellv ?_
 rw [de hj]
 simp [hj]
theorem St.callee {w0 w w':World} {S T:List Nat} {used used' rest:List e_} (h:St w0 S (used++rest) w) (h':St w T used' w') (hT:∀ b ∈ T,∃ r ∈ used,b ∈ r.foot):St w0 S (used'++rest) w':=by
 have hap:=List.pairwise_append.1 h.apart
 have hTS:∀ b ∈ T,b ∈ S∨w0.heap.size≤b:=fun b hb => by
  obtain ⟨r,hr,hbr⟩:=hT b hb
  exact h.own r (List.mem_append_left _ hr) b hbr
 have hTr:∀ s ∈ rest,∀ b ∈ s.foot,b ∉ T:=fun s hs b hb hbT => by
  obtain ⟨r,hr,hbr⟩:=hT b hbT
  exact hap.2.2 r hr s hs b hbr hb
 have hin:∀ s ∈ rest,∀ b ∈ s.foot,b<w.heap.size:=fun s hs => (h.loc s (List.mem_append_right _ hs)).2 w (h.has s (List.mem_append_right _ hs))
 refine ⟨h.frm.then h'.frm hTS,fun r hr => ?_,fun r hr => ?_,fun r hr b hb => ?_,?_⟩
 ·rcases List.mem_append.1 hr with hr | hr
  ·exact h'.has r hr
  ·exact (h.loc r (List.mem_append_right _ hr)).1 w w' (fun b hb => h'.frm.block b (hin r hr b hb) (hTr r hr b hb)) (h.has r (List.mem_append_right _ hr))
 ·rcases List.mem_append.1 hr with hr | hr
  ·exact h'.loc r hr
  ·exact h.loc r (List.mem_append_right _ hr)
 ·rcases List.mem_append.1 hr with hr | hr
  ·rcases h'.own r hr b hb with hb | hb
   ·exact hTS b hb
   ·exact .inr (Nat.le_trans h.frm.size hb)
  ·exact h.own r (List.mem_append_right _ hr) b hb
 ·refine List.pairwise_append.2 ⟨h'.apart,hap.2.1,fun r hr s hs b hb hbs => ?_⟩
  rcases h'.own r hr b hb with h1 | h1
  ·exact hTr s hs b hbs h1
  ·have:=hin s hs b hbs
   omega
theorem St.part {w0 w:World} {S:List Nat} {used rest:List e_} (h:St w0 S (used++rest) w) (T:List Nat) (hT:∀ r ∈ used,∀ b ∈ r.foot,b ∈ T):St w T used w :=
 ⟨cf.refl T w,fun r hr => h.has r (List.mem_append_left _ hr),fun r hr => h.loc r (List.mem_append_left _ hr),fun r hr b hb => .inl (hT r hr b hb),(List.pairwise_append.1 h.apart).1⟩
theorem St.above {w0 w:World} {S:List Nat} {l:List e_} {B:Nat} (h:St w0 S l w) (hS:∀ b ∈ S,B≠b) (h0:B<w0.heap.size):∀ r ∈ l,∀ b ∈ r.foot,B≠b:=fun r hr b hb => by
 rcases h.own r hr b hb with h1 | h1
 ·exact hS b h1
 ·omega
section
variable {w0 w:World} {S:List Nat} {l:List e_} {cb B k:Nat} {v:Value}
variable {nn:Nat} {ops:Array Oper} {lo:List Oper} {Q:cY} {rest:List Oper} {ρ:dK} {ty:TypeId} {pos:String} {after:Array Edge} {x y z:Operand} {d:Nat} {ts:Array TypeId} {j dj:Nat} {b:Bool}
theorem D5 (H:St w0 S l w) (i:Nat) {wb c:Nat} {a:Option Addr} {X:aM} (hi:l[i]?=some (eI wb a c X)) (n long:Nat) (hm:long≤62) (hn:n<2 ^ 62) (hX:X.length+62≤1099511627776) (hd:Nat.blt d nn=true) (hx:ev ρ x=pT wb) (hy:ev ρ y=iT n) (hz:ev ρ z=iT long)
  (h:∀ w' a' c',St w0 S (l.set i (eI wb a' c' (X++lT n long))) w'→VL Tryz.prog nn ops Q rest (eW ρ d (.tuple #[])) w') :
  VL Tryz.prog nn ops Q (⟨some d,.call ⟨.value (.func 38),#[x,y,z],ts⟩,ty,pos,after,none⟩ :: rest) ρ w :=
 aS hd JJ (Gh w wb a c X n long (H.get hi) hm hn hX) (by simp [hx,hy,hz]) fun e w' ⟨a',c',he,hP,hfa,hf⟩ => ⟨_,he,h _ a' c' (H.wr i hi hP hfa hf)⟩
theorem tW (H:St w0 S l w) (i:Nat) (hi:l[i]?=some (aa cb (dt v k) 39)) (hw:jA B v w) (hB:B≠cb) (hk:k≤4611686018427387000) {ub uo uc n most:Nat} {u:Nat→Bool} (hu:∀ j,j<n→w.cell? ⟨ub,uo+j,none⟩=some (.bool (u j))) (hub:ub≠cb) (hn:n≤4096) (hm:most=15∨(most=7∧n≤19))
  (hd:Nat.blt d nn=true) (hx:ev ρ x=.slice (some ⟨ub,uo,none⟩) n uc) (hy:ev ρ y=pT cb) (hz:ev ρ z=iT most)
  (h:∀ w' ls g k',pt u n most ls→k≤k'→k'≤k+5→w.heap.size≤g→St w0 S (aa g (nums .i64 ls) 3 :: l.set i (aa cb (dt v k') 39)) w'→VL Tryz.prog nn ops Q rest (eW ρ d (.slice (aT g) n n)) w') :
  VL Tryz.prog nn ops Q (⟨some d,.call ⟨.value (.func 56),#[x,y,z],ts⟩,ty,pos,after,none⟩ :: rest) ρ w :=
 aS hd KS (ye w ub uo uc n u hu cb B k v most (H.blk hi) hw hB hk hn hm hub) (by simp [hx,hy,hz]) fun e w' ⟨ls,g,k',hL,he,hg,hbg,hbc,hk1,hk2,hf⟩ =>
  ⟨_,he,h _ ls g k' hL hk1 hk2 hg (H.grow (r':=aa cb (dt v k') 39) hi hf hbc ⟨cw _ _ _,dW _ _ _⟩ rfl hbg hg)⟩
theorem St.growR {w':World} (h:St w0 S l w) {i:Nat} {r r' q:e_} (hi:l[i]?=some r) (hf:cf r.foot w w') (hr:r'.pred w') (hl:r'.Local∧r'.In) (hfoot:r'.foot=r.foot) (hq:q.pred w') (hql:q.Local∧q.In) (hnew:∀ b ∈ q.foot,w.heap.size≤b):St w0 S (q :: l.set i r') w':=by
 have h2:=h.turn hi hf hr hl (fun b hb => .inl (hfoot ▸ hb))
 refine h2.cons hq hql (fun x hx => .inr (Nat.le_trans h.frm.size (hnew x hx))) (fun s hs x hx hx2 => ?_)
 have hx3:=hnew x hx
 have hir:r ∈ l:=List.mem_of_getElem? hi
 rcases List.mem_or_eq_of_mem_set hs with hs | rfl
 ·have:=(h.loc s hs).2 w (h.has s hs) x hx2
  omega
 ·rw [hfoot] at hx2
  have:=(h.loc r hir).2 w (h.has r hir) x hx2
  omega
theorem I6 (H:St w0 S l w) (i:Nat) (hi:l[i]?=some (aa cb (dt v k) 39)) (hw:jA B v w) (hB:B≠cb) (hk:k≤4611686018427300000) {rb ro rc:Nat} {ls:List Nat} (hr:l7 w .i64 rb ro ls) (hrb:rb≠cb) (h15:∀ x ∈ ls,x≤15) (hn:ls.length≤4096)
  (hd:Nat.blt d nn=true) (hx:ev ρ x=.slice (some ⟨rb,ro,none⟩) ls.length rc) (hy:ev ρ y=pT cb)
  (h:∀ w' rs a cap k',o5 ls ls.length (i9 8 rs) rs→k≤k'→k'≤k+3 * ls.length→St w0 S (aA a cap 166 3 rs.length (cO rs) :: l.set i (aa cb (dt v k') 39)) w'→VL Tryz.prog nn ops Q rest (eW ρ d (.slice a rs.length cap)) w') :
  VL Tryz.prog nn ops Q (⟨some d,.call ⟨.value (.func 74),#[x,y],ts⟩,ty,pos,after,none⟩ :: rest) ρ w :=
 aS hd KD (FQ w rb ro rc ls hr h15 hn cb B k v (H.blk hi) hw hB hk hrb) (by simp [hx,hy]) fun e w' ⟨rs,a,cap,k',he,hV,hfa,hR,hbc,hk1,hk2,hf⟩ =>
  ⟨_,he,h _ rs a cap k' hR hk1 hk2 (H.growR (r':=aa cb (dt v k') 39) hi hf hbc ⟨cw _ _ _,dW _ _ _⟩ rfl hV (cI _ _ _ _ _ _) hfa)⟩
theorem uJ (H:St w0 S l w) {rb ro rc:Nat} {ls:List Nat} (hr:l7 w .i64 rb ro ls) (h15:∀ x ∈ ls,x≤15) (hn:ls.length≤65536)
  (hd:Nat.blt d nn=true) (hx:ev ρ x=.slice (some ⟨rb,ro,none⟩) ls.length rc)
  (h:∀ w' g,w.heap.size≤g→St w0 S (aa g (bM .i64 (fun s => if ls.getD s 0=0 then 0 else dq ls s) ls.length) 3 :: l) w'→VL Tryz.prog nn ops Q rest (eW ρ d (.slice (aT g) ls.length ls.length)) w') :
  VL Tryz.prog nn ops Q (⟨some d,.call ⟨.value (.func 57),#[x],ts⟩,ty,pos,after,none⟩ :: rest) ρ w :=
 aS hd J6 (Dv w rb ro rc ls hr h15 hn) (by simp [hx]) fun e w' ⟨g,hg,he,hbg,hf⟩ =>
  ⟨_,he,h _ g hg (H.add hf hbg ⟨cw _ _ _,dW _ _ _⟩ (by simpa [aa] using hg))⟩
end
theorem yT (W:World):Calls Tryz.prog 75 #[] W fun e w' => ∃ g,W.heap.size≤g∧e=.returned (.slice (aT g) 19 19)∧ff w' g (nums .i64 bY) 3∧cf [] W w':=by
 have H:St W [] [] W:=St.nil W []
 refine enter (m:=2) Tryz.func75 O Tryz.ntmps75 O (Cy (bI O (Lt (Cy (cH H mg (nums .i64 bY) O O δ δ κ ?_)))))
 intro w b1 hn1 hb1 H
 refine gS O (Lt (Ct ?_))
 exact ak O O ⟨b1,hn1,O,H.blk (i:=0) rfl,H.frm⟩
section
variable {w0 w:World} {S:List Nat} {l:List e_}
variable {nn:Nat} {ops:Array Oper} {lo:List Oper} {Q:cY} {rest:List Oper} {ρ:dK} {ty:TypeId} {pos:String} {after:Array Edge} {d:Nat} {ts:Array TypeId} {j dj:Nat} {b:Bool}
theorem Bu (H:St w0 S l w) (hd:Nat.blt d nn=true) (h:∀ w' g,w.heap.size≤g→St w0 S (aa g (nums .i64 bY) 3 :: l) w'→VL Tryz.prog nn ops Q rest (eW ρ d (.slice (aT g) 19 19)) w') :
  VL Tryz.prog nn ops Q (⟨some d,.call ⟨.value (.func 75),#[],ts⟩,ty,pos,after,none⟩ :: rest) ρ w :=
 aS hd Ge (yT w) rfl fun e w' ⟨g,hg,he,hbg,hf⟩ => ⟨_,he,h _ g hg (H.add hf hbg ⟨cw _ _ _,dW _ _ _⟩ (by simpa [aa] using hg))⟩
theorem zg (H:St w0 S l w) (hj:(lo[j]?).bind (·.dst)=some dj) (hdj:Nat.blt dj nn=true) (hb:ρ dj=.bool b) (hd:Nat.blt d nn=true) (h:∀ w' g,w.heap.size≤g→St w0 S (aa g (nums .i64 bY) 3 :: l) w'→VL Tryz.prog nn lo.toArray Q rest (eW ρ d (.slice (aT g) 19 19)) w') :
  VL Tryz.prog nn lo.toArray Q (⟨some d,.call ⟨.value (.func 75),#[],ts⟩,ty,pos,after,some (j,b)⟩ :: rest) ρ w :=
 kV hj hdj hb hd Ge (yT w) rfl fun e w' ⟨g,hg,he,hbg,hf⟩ => ⟨_,he,h _ g hg (H.add hf hbg ⟨cw _ _ _,dW _ _ _⟩ (by simpa [aa] using hg))⟩
theorem qS {i:Nat} (h:i<19):(nums .i64 bY)[i]?=some (iT (ry i)):=by
 rw [de (by exact h),Dl]
end
end Go.Proofs.YtmgemcffhbnpfaaGreatDoor
set_option maxHeartbeats 2000000
namespace Go.Proofs.YtmgemcffhbnpfaaGreatDoor
open Go
theorem Kd {P:Program} {ρ:dK} {d:Option Tmp} {ty t:TypeId} {pos:String} {after:Array Edge} {g:Option (Nat × Bool)} {w:World} {m n:Int} (F:∀ m n:Int,P.built t [(0,.int .i64 m),(1,.int .i64 n)]=some #[.int .i64 m,.int .i64 n]) :
  dE P (ev ρ) ⟨d,.build t #[(0,.const (.int .i64 m)),(1,.const (.int .i64 n))],ty,pos,after,g⟩ w (.agg #[.int .i64 m,.int .i64 n]) w:=iF [.int .i64 m,.int .i64 n] rfl (F m n)
theorem Et (m n:Int):Tryz.prog.built 173 [(0,.int .i64 m),(1,.int .i64 n)]=some #[.int .i64 m,.int .i64 n]:=κ
def uY (i:Nat):Int:=8 - ((eT.getD i 0 % 16:Nat):Int)
def vD (i:Nat):Int:=((eT.getD i 0 / 16:Nat):Int)
def lC:List Value:=(List.range 120).flatMap fun i => [.int .i64 (uY i),.int .i64 (vD i)]
theorem HW (W:World):Calls Tryz.prog 82 #[] W fun e w' => ∃ g,W.heap.size≤g∧e=.returned (.slice (aT g) 120 120)∧ff w' g lC 173∧cf [] W w':=by
 have H:St W [] [] W:=St.nil W []
 refine enter (m:=122) Tryz.func82 O Tryz.ntmps82 O (Cy (bI O (Lt (Cy ?_))))
 iterate 120 refine Lo rfl (Kd Et) ?_
 refine cH H K1 lC O O δ δ κ ?_
 intro w g hg hg0 H
 refine gS O (Lt (Ct ?_))
 exact ak O O ⟨g,hg,O,H.blk (i:=0) rfl,H.frm⟩
theorem mI:∀ n:Nat,((List.range n).flatMap fun i => [Value.int .i64 (uY i),Value.int .i64 (vD i)]).length=2 * n
 | 0 => rfl
 | n+1 => by rw [List.range_succ,List.flatMap_append,List.length_append,mI n];rfl
theorem yy:∀ n i:Nat,i<n→((List.range n).flatMap fun i => [Value.int .i64 (uY i),Value.int .i64 (vD i)])[2 * i]?=some (.int .i64 (uY i))∧((List.range n).flatMap fun i => [Value.int .i64 (uY i),Value.int .i64 (vD i)])[2 * i+1]?=some (.int .i64 (vD i))
 | 0,i,h => ω
 | n+1,i,h => by
  rw [List.range_succ,List.flatMap_append]
  by_cases hi:i<n
  ·rw [List.getElem?_append_left (by rw [mI];omega),List.getElem?_append_left (by rw [mI];omega)]
   exact yy n i hi
  ·obtain rfl:i=n:=ω
   rw [List.getElem?_append_right (by rw [mI];omega),List.getElem?_append_right (by rw [mI];omega),mI,Nat.sub_self,show 2 * i+1 - 2 * i=1 by omega]
   exact ⟨O,O⟩
theorem Gq {i:Nat} (h:i<120):lC[2 * i]?=some (.int .i64 (uY i))∧lC[2 * i+1]?=some (.int .i64 (vD i)):=yy 120 i h
theorem yx (W:World) (n wide:Nat) (h1:1≤n) (h2:n≤1048576) (hw:wide≤1000000) :
  Calls Tryz.prog 67 #[iT n,iT wide] W fun e w' => e=.returned (iT (eX wide n))∧cf [] W w':=by
 have H:St W [] [] W:=St.nil W []
 refine enter (m:=31) Tryz.func67 O Tryz.ntmps67 O (Cy (az O (Lt (Cy (aS O KN (HW W) O ?_)))))
 rintro e w ⟨g,hg,he,hb,hf⟩
 replace H:St W [] [aa g lC 173] w:=H.add hf hb ⟨cw _ _ _,dW _ _ _⟩ (by simpa [aa] using hg)
 refine ⟨_,he,?_⟩
 refine gS O (Lt (Cs (Cy (ai O (bU O (bG Ad O (Lp (e9 O O) (Lt ?_))))))))
 by_cases h120:n > 120
 case pos =>
  have e:eX wide n=n - 120:=by unfold eX;rw [if_pos ω]
  refine CT O ω (Cy (ai O (bU O (bG Ad O (bw (r:=((n - 120:Nat):Int)) O O (by rw [fg ω];omega) (az O (Lt (Ct (aE ?_)))))))))
  exact ak O O ⟨by rw [e];rfl,H.frm⟩
 obtain ⟨c,hc⟩:∃ c,c=lg (n - 1):=⟨_,rfl⟩
 have hcx:uY (n - 1)=8 - ((c % 16:Nat):Int):=by unfold uY;rw [← xN,← hc]
 have hcy:vD (n - 1)=((c / 16:Nat):Int):=by unfold vD;rw [← xN,← hc]
 have hle:=BY (n - 1) ω
 rw [← hc] at hle
 obtain ⟨n1,n2⟩:=Gq (show n - 1<120 by omega)
 rw [hcx] at n1
 rw [hcy] at n2
 have hcw:c / 16 * wide≤7 * 1000000:=Nat.mul_le_mul hle.1 hw
 have e:eX wide n=if c / 16 * wide+8<c % 16+1 then 1 else c / 16 * wide+8 - c % 16:=by unfold eX;rw [if_neg ω,← hc]
 refine CF O ω (Ck (tn (Cs (Cd aJ κ ?_))))
 intro w hsame
 replace H:=H.same hsame
 refine cF O (bW O (cx (r:=((n - 1:Nat):Int)) O O (by rw [fg ω];omega) (Sp (gm (n - 1) Ad O O O ω) (Sp (fo 0 GE O O O ω) (aD a_ O (H.cell 0 O (show lC[0+(n - 1) * 2+0]?=_ by rw [show 0+(n - 1) * 2+0=2 * (n - 1) by omega];exact n1)) (cF O (bW O (cx (r:=((n - 1:Nat):Int)) O O (by rw [fg ω];omega) (Sp (gm (n - 1) Ad O O O ω) (Sp (fo 1 GE O O O ω) (aD a_ O (H.cell 0 O (show lC[0+(n - 1) * 2+1]?=_ by rw [show 0+(n - 1) * 2+1=2 * (n - 1)+1 by omega];exact n2)) (bW O (Sp (cX O O (pK ω)) (aG O O (fg ω) (Sp (xY (r:=((eX wide n:Nat):Int)) O O (by rw [e];split <;> split <;> omega)) (oZ O (Sn (tn (Ct ?_)))))))))))))))))))
 exact ak O O ⟨O,H.frm⟩
theorem ur (W:World) (p bits:Nat) (hp:p<2 ^ 32) (h1:1≤bits) (hb:bits≤11) :
  Calls Tryz.prog 55 #[.int .u32 (p:Nat),iT bits] W fun e w' => e=.returned (iT (dZ bits p))∧w'=W:=by
 have hh:dZ bits p<2 ^ bits:=mM h1 hb
 have h11:2 ^ bits≤2 ^ 11:=Nat.pow_le_pow_right ω hb
 refine enter (m:=11) Tryz.func55 O Tryz.ntmps55 O (Cy (az O (Lt (Cy (ai O (Lp (cX (r:=((p * 506832829 % 4294967296:Nat):Int)) O O (by rw [vd];omega)) (ai O (bw (r:=((32 - bits:Nat):Int)) O O (by rw [fg ω];omega) (Lp (d6 (r:=((dZ bits p:Nat):Int)) O O ω (jd (k:=.u32) (by show _≤(32:Nat);omega))) (cm jT O (fg ω) (az O (Lt (Ct ?_)))))))))))))
 exact ak O O ⟨O,O⟩
theorem BV (W:World) (far wide:Nat) (hf1:1≤far) (hf2:far≤1000000) (hw2:wide≤1000000) (cb B k:Nat) (v:Value) (hb:ff W cb (dt v k) 39) (hw:jA B v W) (hB:B≠cb) (hk:k≤4611686018427300000) :
  Calls Tryz.prog 54 #[iT far,iT wide,pT cb] W fun e w' => ∃ c k',e=.returned (iT c)∧1≤c∧c≤1048576∧eX wide c=far∧ff w' cb (dt v k') 39∧k≤k'∧k'≤k+2∧cf [cb] W w':=by
 have H:=gQ hb
 have hcbB:∀ x ∈ [cb],B≠x:=by simpa using hB
 have hfar:eX wide (far+120)=far:=by unfold eX;rw [if_pos ω];omega
 refine enter (m:=33) Tryz.func54 O Tryz.ntmps54 O (Cy (az O (Lt (Cs (Cy (bH O (gh H 0 O hw hcbB hB 3 ω ω ω O O O ?_)))))))
 intro w r hr H
 simp only [List.set] at H
 refine Lp (e9 O O) (Lt ?_)
 refine aH (fun ρ w' => ∃ k',k≤k'∧k'≤k+2∧ρ 0=iT far∧St W [cb] [aa cb (dt v k') 39] w') ?_ ?_
 case refine_1 =>
  by_cases hr0:(r:Int) > 0
  case neg =>
   refine CF O hr0 (Ck (tn ?_))
   exact ⟨k+1,ω,ω,O,H⟩
  refine CT O hr0 (Cy (bH O (gh H 0 O hw hcbB hB 120 ω ω ω O O O ?_)))
  intro w from_ hfrom H
  simp only [List.set] at H
  refine az O (Lt (Cy (ai O (Lt (Cb ?_)))))
  refine Cl (fun mm ρ w' => ∃ i,mm=120 - i∧i≤120∧ρ 0=iT far∧ρ 1=iT wide∧ρ 7=iT from_∧ρ 15=iT i∧St W [cb] [aa cb (dt v (k+1+1)) 39] w') 120
   ⟨0,rfl,ω,rfl,rfl,rfl,rfl,H⟩ ?_
  clear H
  rintro mm ρ w5 ⟨i,hmm,hi,r0,r1,r7,r15,H⟩
  refine Cy (bP r15 O (Lt ?_))
  by_cases hlt:i<120
  case neg =>
   refine Cs (CF O ω (Cx (ax (ax (br (tn ?_))))))
   exact ⟨k+1+1,ω,ω,r0,H⟩
  obtain ⟨c,hc⟩:∃ c,c=(from_+i) % 120:=⟨_,rfl⟩
  have hdb:=y4 (w:=wide) (c:=c+1) hw2 ω
  refine Cs (CT O ω (Ck (tn (Cs (Cb (Cy (ai r15 (az O (Lt (Cy (ai r7 (ai O (ao O O (ck ω) (Lp (gI (r:=((c:Nat):Int)) O O ω (by rw [hc];rfl)) (az O (Ln ?_))))))))))))))))
  refine tn (Cy (ai O (ao O O (ck (b:=1) ω) (ai r1 (aS O FJ (yx _ (c+1) wide ω ω hw2) O ?_)))))
  rintro e w ⟨he,hf⟩
  replace H:=H.quiet hf
  refine ⟨_,he,?_⟩
  refine ai r0 (bF O O (Lt ?_))
  by_cases hd:eX wide (c+1)=far
  case pos =>
   refine CT O ω (Cy (ai O (ao O O (ck (b:=1) ω) (az O (Lt (Ct (bL (aE (aE (bL (aE ?_)))))))))))
   exact ak O O ⟨c+1,k+1+1,O,ω,ω,hd,H.blk (i:=0) rfl,ω,ω,H.frm⟩
  refine CF O ω (Ck (aF (tn (Cr (ao r15 O (ck (b:=1) ω) (ai O (Lt ?_)))))))
  exact ⟨120 - (i+1),ω,i+1,O,ω,r0,r1,r7,O,H⟩
 case refine_2 =>
 clear H
 rintro ρ w5 ⟨k',hk1,hk2,r0,H⟩
 refine Cy (ai r0 (ao O O (ck (b:=120) ω) (az O (Lt (Ct ?_)))))
 exact ak O O ⟨far+120,k',O,ω,ω,hfar,H.blk (i:=0) rfl,hk1,hk2,H.frm⟩
end Go.Proofs.YtmgemcffhbnpfaaGreatDoor
set_option maxHeartbeats 1000000
namespace Go.Proofs.YtmgemcffhbnpfaaGreatDoor
open Go
def gR (p q:Nat):Nat:=fQ ((pA p+256 - pA q) % 256) ((pR p+256 - pR q) % 256) ((pG p+256 - pG q) % 256) ((pB p+256 - pB q) % 256)
theorem oL (p q:Nat):pA (gR p q)=(pA p+256 - pA q) % 256∧pR (gR p q)=(pR p+256 - pR q) % 256∧pG (gR p q)=(pG p+256 - pG q) % 256∧pB (gR p q)=(pB p+256 - pB q) % 256∧gR p q<2 ^ 32 :=
 eO (Nat.mod_lt _ ω) (Nat.mod_lt _ ω) (Nat.mod_lt _ ω) (Nat.mod_lt _ ω)
theorem Bp {p q:Nat} (hp:p<2 ^ 32):da (gR p q) q=p:=by
 obtain ⟨h1,h2,h3,h4,_⟩:=oL p q
 obtain ⟨a1,a2,a3,a4⟩:=bX p
 obtain ⟨b1,b2,b3,b4⟩:=bX q
 unfold da
 rw [h1,h2,h3,h4,show ((pA p+256 - pA q) % 256+pA q) % 256=pA p by omega,show ((pR p+256 - pR q) % 256+pR q) % 256=pR p by omega,show ((pG p+256 - pG q) % 256+pG q) % 256=pG p by omega,show ((pB p+256 - pB q) % 256+pB q) % 256=pB p by omega,jx hp]
def iK (p:Nat):Nat:=fQ (pA p) ((pR p+256 - pG p) % 256) (pG p) ((pB p+256 - pG p) % 256)
theorem r_ (p:Nat):pA (iK p)=pA p∧pR (iK p)=(pR p+256 - pG p) % 256∧pG (iK p)=pG p∧pB (iK p)=(pB p+256 - pG p) % 256∧iK p<2 ^ 32 :=
 eO (bX p).1 (Nat.mod_lt _ ω) (bX p).2.2.1 (Nat.mod_lt _ ω)
theorem Gz {p:Nat} (hp:p<2 ^ 32):i6 (iK p)=p:=by
 obtain ⟨h1,h2,h3,h4,_⟩:=r_ p
 obtain ⟨a1,a2,a3,a4⟩:=bX p
 unfold i6
 rw [h1,h2,h3,h4,show ((pR p+256 - pG p) % 256+pG p) % 256=pR p by omega,show ((pB p+256 - pG p) % 256+pG p) % 256=pB p by omega,jx hp]
def iM (m p:Nat):Nat:=fQ (pA p) ((pR p+256 - dA (pB m) (pG p)) % 256) (pG p) ((pB p+512 - dA (pG m) (pG p) - dA (pR m) (pR p)) % 256)
theorem rY (m p:Nat):pA (iM m p)=pA p∧pR (iM m p)=(pR p+256 - dA (pB m) (pG p)) % 256∧pG (iM m p)=pG p∧pB (iM m p)=(pB p+512 - dA (pG m) (pG p) - dA (pR m) (pR p)) % 256∧iM m p<2 ^ 32 :=
 eO (bX p).1 (Nat.mod_lt _ ω) (bX p).2.2.1 (Nat.mod_lt _ ω)
theorem GA {m p:Nat} (hp:p<2 ^ 32):iV m (iM m p)=p:=by
 obtain ⟨h1,h2,h3,h4,_⟩:=rY m p
 obtain ⟨a1,a2,a3,a4⟩:=bX p
 have d1:=mB (pB m) (pG p)
 have d2:=mB (pG m) (pG p)
 have d3:=mB (pR m) (pR p)
 have e:((pR p+256 - dA (pB m) (pG p)) % 256+dA (pB m) (pG p)) % 256=pR p:=ω
 unfold iV
 rw [h1,h2,h3,h4,e,show ((pB p+512 - dA (pG m) (pG p) - dA (pR m) (pR p)) % 256+dA (pG m) (pG p)+dA (pR m) (pR p)) % 256=pB p by omega,jx hp]
theorem tq (f:List Nat→Nat→Nat) (g:Nat→Nat) (px:List Nat) (h:∀ i,i<px.length→f (px.take i) (g i)=px.getD i 0):i4 f [] ((List.range px.length).map g)=px:=by
 have key:∀ k,k≤px.length→i4 f [] ((List.range k).map g)=px.take k:=by
  intro k
  induction k with
  | zero => intro _;rfl
  | succ k ih =>
   intro hk
   have e:px.getD k 0=px[k]:=by simp [show k<px.length by omega]
   rw [List.range_succ,List.map_append,pW,ih ω,List.map_singleton,i4,h k ω,e,i4,← List.take_succ_eq_append_getElem (show k<px.length by omega)]
 rw [key _ (Nat.le_refl _),List.take_length]
def kG (e:Nat) (f:Nat→Nat):Nat→Nat
 | 0 => 0
 | n+1 => kG e f n+f n * 2 ^ (e * n)
theorem ox {e:Nat} {f:Nat→Nat}:∀ n,(∀ k,k<n→f k<2 ^ e)→kG e f n<2 ^ (e * n)
 | 0,h => by simp [kG]
 | n+1,h => by
  have h1:=ox n fun k hk => h k ω
  have h2:=h n ω
  have h3:(f n+1) * 2 ^ (e * n)≤2 ^ e * 2 ^ (e * n):=Nat.mul_le_mul_right _ h2
  rw [kG,Nat.mul_succ,Nat.pow_add,Nat.mul_comm (2 ^ (e * n))]
  rw [Nat.add_mul,Nat.one_mul] at h3
  omega
theorem yF {e:Nat} {f:Nat→Nat}:∀ n,(∀ k,k<n→f k<2 ^ e)→∀ k,k<n→kG e f n / 2 ^ (e * k) % 2 ^ e=f k
 | 0,h,k,hk => ω
 | n+1,h,k,hk => by
  have hl:=ox n fun k hk => h k ω
  have ih:=yF n fun k hk => h k ω
  rw [kG]
  by_cases hkn:k=n
  ·subst hkn
   rw [Nat.add_mul_div_right _ _ (Nat.two_pow_pos _),Nat.div_eq_of_lt hl,Nat.zero_add,Nat.mod_eq_of_lt (h k ω)]
  ·have hk':k<n:=ω
   have e1:e * n=e * k+(e+e * (n - k - 1)):=by
    obtain ⟨m,rfl⟩:∃ m,n=k+1+m:=⟨n - k - 1,ω⟩
    rw [show k+1+m - k - 1=m by omega]
    simp only [Nat.mul_add,Nat.mul_one,Nat.add_assoc]
   rw [e1,Nat.pow_add,Nat.pow_add,show f n * (2 ^ (e * k) * (2 ^ e * 2 ^ (e * (n - k - 1))))=(2 ^ e * (f n * 2 ^ (e * (n - k - 1)))) * 2 ^ (e * k) by
    simp only [Nat.mul_comm,Nat.mul_left_comm,Nat.mul_assoc],Nat.add_mul_div_right _ _ (Nat.two_pow_pos _),Nat.add_mul_mod_self_left]
   exact ih k hk'
def t_ (T:List Nat) (c:Nat):Nat:=T.idxOf c
theorem tY {T:List Nat} {c:Nat} (h:c ∈ T):t_ T c<T.length:=List.idxOf_lt_length_iff.2 h
theorem Fm {T:List Nat} {c:Nat} (h:c ∈ T):T.getD (t_ T c) 0=c:=by
 rw [List.getD_eq_getElem?_getD,List.getElem?_eq_getElem (tY h)]
 simp [t_]
def iq (w b:Nat) (T px:List Nat) (j k:Nat):Nat:=if j % aq w b * 2 ^ b+k<w then t_ T (px.getD (j / aq w b * w+j % aq w b * 2 ^ b+k) 0) else 0
def j9 (w b:Nat) (T px:List Nat) (j:Nat):Nat:=fQ 255 0 (kG (8 / 2 ^ b) (iq w b T px j) (2 ^ b)) 0
theorem zm {b:Nat} (h:b≤3):8 / 2 ^ b * 2 ^ b=8:=by
 have:b=0∨b=1∨b=2∨b=3:=ω
 rcases this with rfl | rfl | rfl | rfl <;> rfl
theorem s6 {n:Nat} (h:n≤256):n≤2 ^ (8 / 2 ^ b0 n):=by
 unfold b0
 split
 ·simp;omega
 ·split
  ·simp;omega
  ·split
   ·simp;omega
   ·simp;omega
theorem Ay {w b h:Nat} {T px:List Nat} (hT:T.length≤256) (hb:b=b0 T.length) (hl:px.length=w * h) (hm:∀ p ∈ px,p ∈ T) {j:Nat} (hj:j<h * aq w b) (k:Nat):iq w b T px j k<2 ^ (8 / 2 ^ b):=by
 have hr:=s6 hT
 rw [← hb] at hr
 unfold iq
 split
 ·rename_i hlt
  have ht:0<aq w b:=by
   rcases Nat.eq_zero_or_pos (aq w b) with h0 | h0
   ·rw [h0] at hj;omega
   ·exact h0
  have hy:j / aq w b<h:=Nat.div_lt_of_lt_mul (by rw [Nat.mul_comm];exact hj)
  have hin:j / aq w b * w+j % aq w b * 2 ^ b+k<px.length:=by
   have:=Nat.mul_le_mul_right w (show j / aq w b+1≤h from hy)
   rw [Nat.add_mul,Nat.one_mul] at this
   rw [hl,Nat.mul_comm w h]
   omega
  have hmem:px.getD (j / aq w b * w+j % aq w b * 2 ^ b+k) 0 ∈ T:=by
   rw [List.getD_eq_getElem?_getD,List.getElem?_eq_getElem hin]
   exact hm _ (List.getElem_mem hin)
  exact Nat.lt_of_lt_of_le (tY hmem) hr
 ·exact Nat.two_pow_pos _
theorem Br {w b h:Nat} {T px:List Nat} (hT:T.length≤256) (hb:b=b0 T.length) (hl:px.length=w * h) (hm:∀ p ∈ px,p ∈ T) {j:Nat} (hj:j<h * aq w b) :
  kG (8 / 2 ^ b) (iq w b T px j) (2 ^ b)<256∧pG (j9 w b T px j)=kG (8 / 2 ^ b) (iq w b T px j) (2 ^ b)∧j9 w b T px j<2 ^ 32:=by
 have h8:=zm (b:=b) (by rw [hb];exact nJ _)
 have hlt:=ox (2 ^ b) fun k _ => Ay hT hb hl hm hj k
 rw [h8] at hlt
 have:=eO (a:=255) (r:=0) (g:=kG (8 / 2 ^ b) (iq w b T px j) (2 ^ b)) (b:=0) ω ω hlt ω
 exact ⟨hlt,this.2.2.1,this.2.2.2.2⟩
theorem GO {w h b:Nat} {T px:List Nat} (hw:1≤w) (hT:T.length≤256) (hb:b=b0 T.length) (hl:px.length=w * h) (hm:∀ p ∈ px,p ∈ T):jf w h b T ((List.range (h * aq w b)).map (j9 w b T px))=px:=by
 unfold jf
 apply List.ext_getElem
 ·simp [hl]
 ·intro i h1 h2
  have hi:i<w * h:=by simpa using h1
  rw [List.getElem_map,List.getElem_range]
  have hx:i % w<w:=Nat.mod_lt _ hw
  have hy:i / w<h:=Nat.div_lt_of_lt_mul hi
  have ht:=wg (b:=b) hx
  have hj:i / w * aq w b+i % w / 2 ^ b<h * aq w b:=by
   have:=Nat.mul_le_mul_right (aq w b) (show i / w+1≤h from hy)
   rw [Nat.add_mul,Nat.one_mul] at this
   generalize i % w / 2 ^ b=q at ht ⊢
   omega
  have e1:(i / w * aq w b+i % w / 2 ^ b) / aq w b=i / w:=by
   rw [Nat.mul_comm,Nat.mul_add_div (Nat.lt_of_le_of_lt (Nat.zero_le _) ht),Nat.div_eq_of_lt ht,Nat.add_zero]
  have e2:(i / w * aq w b+i % w / 2 ^ b) % aq w b=i % w / 2 ^ b:=by
   rw [Nat.mul_comm,Nat.mul_add_mod,Nat.mod_eq_of_lt ht]
  unfold lY
  rw [List.getD_eq_getElem?_getD,List.getD_eq_getElem?_getD (l:=List.map _ _),List.getElem?_map,List.getElem?_range hj,Option.map_some,Option.getD_some,(Br hT hb hl hm hj).2.1,
   yF (2 ^ b) (fun k _ => Ay hT hb hl hm hj k) (i % w % 2 ^ b) (Nat.mod_lt _ (Nat.two_pow_pos _))]
  unfold iq
  have e3:i % w / 2 ^ b * 2 ^ b+i % w % 2 ^ b=i % w:=by rw [Nat.mul_comm];exact Nat.div_add_mod _ _
  have e4:i / w * w+i % w=i:=by rw [Nat.mul_comm];exact Nat.div_add_mod _ _
  rw [e1,e2,e3,if_pos hx,Nat.add_assoc,e3,e4,← List.getD_eq_getElem?_getD]
  have eg:px.getD i 0=px[i]:=by simp [h2]
  rw [eg]
  exact Fm (hm _ (List.getElem_mem h2))
def k8 (ht:Nat) (t:Tr) (px:List Nat):List Nat :=
 if t.kind=0 then (List.range px.length).map fun i => gR (px.getD i 0) (iU t.wd t.bits t.px (px.take i))
 else if t.kind=1 then (List.range px.length).map fun i => iM (t.px.getD (dS t.wd t.bits i) 0) (px.getD i 0)
 else if t.kind=2 then (List.range px.length).map fun i => iK (px.getD i 0)
 else (List.range (ht * aq t.wd t.bits)).map (j9 t.wd t.bits t.px px)
def tx (t:Tr) (px:List Nat):Prop:=t.px.length≤256∧t.bits=b0 t.px.length∧∀ p ∈ px,p ∈ t.px
theorem Ee {ht:Nat} {t:Tr} {px:List Nat} (hk:t.kind≤3) (hw:1≤t.wd) (h3:t.kind=3→tx t px) (hl:px.length=t.wd * ht) (h32:∀ p ∈ px,p<2 ^ 32) :
  l_ ht t (k8 ht t px)=px∧(k8 ht t px).length=i0 t * ht∧∀ p ∈ k8 ht t px,p<2 ^ 32:=by
 have hg:∀ i,i<px.length→px.getD i 0<2 ^ 32:=fun i hi => by
  have e:px.getD i 0=px[i]:=by simp [hi]
  rw [e]
  exact h32 _ (List.getElem_mem hi)
 have htl:∀ i,i<px.length→(px.take i).length=i:=fun i hi => by rw [List.length_take];omega
 unfold l_ k8 i0
 have hcases:t.kind=0∨t.kind=1∨t.kind=2∨t.kind=3:=ω
 rcases hcases with h | h | h | h
 ·rw [h,if_pos rfl,if_pos rfl,if_neg δ]
  refine ⟨tq _ _ px fun i hi => ?_,by simp [hl],fun p hp => ?_⟩
  ·unfold pz
   exact Bp (hg i hi)
  ·obtain ⟨i,_,rfl⟩:=List.mem_map.1 hp
   exact (oL _ _).2.2.2.2
 ·rw [h,if_neg δ,if_pos rfl,if_neg δ,if_pos rfl,if_neg δ]
  refine ⟨tq _ _ px fun i hi => ?_,by simp [hl],fun p hp => ?_⟩
  ·unfold kz
   rw [htl i hi]
   exact GA (hg i hi)
  ·obtain ⟨i,_,rfl⟩:=List.mem_map.1 hp
   exact (rY _ _).2.2.2.2
 ·rw [h,if_neg δ,if_neg δ,if_pos rfl,if_neg δ,if_neg δ,if_pos rfl,if_neg δ]
  refine ⟨tq _ _ px fun i hi => Gz (hg i hi),by simp [hl],fun p hp => ?_⟩
  obtain ⟨i,_,rfl⟩:=List.mem_map.1 hp
  exact (r_ _).2.2.2.2
 ·obtain ⟨p1,p2,p3⟩:=h3 h
  rw [h,if_neg δ,if_neg δ,if_neg δ,if_neg δ,if_neg δ,if_neg δ,if_pos rfl]
  refine ⟨GO hw p1 p2 hl p3,by simp [Nat.mul_comm],fun p hp => ?_⟩
  obtain ⟨j,hj,rfl⟩:=List.mem_map.1 hp
  exact (Br p1 p2 hl p3 (List.mem_range.1 hj)).2.2
def qA (T:List Nat):List Nat:=(List.range T.length).map fun i => if i=0 then T.getD 0 0 else gR (T.getD i 0) (T.getD (i - 1) 0)
theorem Dp {T:List Nat} (h32:∀ p ∈ T,p<2 ^ 32):mN (qA T)=T:=by
 refine tq _ _ T fun i hi => ?_
 have hl:(T.take i).length=i:=by rw [List.length_take];omega
 rw [hl]
 by_cases h0:i=0
 ·subst h0;rw [if_pos rfl,if_pos rfl]
 ·rw [if_neg h0,if_neg h0]
  have e:(T.take i).getD (i - 1) 0=T.getD (i - 1) 0:=by
   rw [List.getD_eq_getElem?_getD,List.getElem?_take,if_pos ω,← List.getD_eq_getElem?_getD]
  rw [e]
  refine Bp ?_
  have eg:T.getD i 0=T[i]:=by simp [hi]
  rw [eg]
  exact h32 _ (List.getElem_mem hi)
def pY (t:Tr) (X:aM):aM:=if t.kind≤1 then aV t.kind 2++(aV (t.bits - 2) 3++X) else if t.kind=2 then aV 2 2 else aV 3 2++(aV (t.px.length - 1) 8++X)
theorem qu {w h:Nat} {t:Tr} {X:aM} (hk:t.kind≤3) (hw:t.wd=w) (h01:t.kind≤1→2≤t.bits∧t.bits≤9∧d7 (ip (aq w t.bits) (aq h t.bits)) X t.px)
  (h2:t.kind=2→t.bits=0∧t.px=[]) (h3:t.kind=3→1≤t.px.length∧t.px.length≤256∧t.bits=b0 t.px.length∧d7 (ip t.px.length 1) X (qA t.px)∧∀ p ∈ t.px,p<2 ^ 32) :
  d7 (rU w h) (pY t X) (t,i0 t):=by
 obtain ⟨kind,wd,bits,px⟩:=t
 simp only at hk hw h01 h2 h3
 subst hw
 unfold pY rU i0
 simp only
 by_cases h1:kind≤1
 ·obtain ⟨b1,b2,b3⟩:=h01 h1
  rw [if_pos h1]
  refine (cJ (show kind<2 ^ 2 by omega)).pb ?_
  rw [if_pos h1,if_neg (show ¬ kind=3 by omega)]
  refine (cJ (show bits - 2<2 ^ 3 by omega)).pb ?_
  rw [show bits - 2+2=bits by omega]
  exact fU b3 (tU O)
 ·rw [if_neg h1]
  by_cases hk2:kind=2
  ·subst hk2
   obtain ⟨rfl,rfl⟩:=h2 rfl
   rw [if_pos rfl]
   exact fU (cJ (n:=2) (k:=2) δ) (by rw [if_neg δ,if_pos rfl,if_neg δ];exact d7.ret _)
  ·obtain rfl:kind=3:=ω
   obtain ⟨b1,b2,b3,b4,b5⟩:=h3 rfl
   rw [if_neg δ]
   refine (cJ (n:=3) (k:=2) δ).pb ?_
   rw [if_neg δ,if_neg δ,if_pos rfl]
   refine (cJ (show px.length - 1<2 ^ 8 by omega)).pb ?_
   rw [show px.length - 1+1=px.length by omega]
   refine fU b4 (tU ?_)
   rw [Dp b5,b3]
end Go.Proofs.YtmgemcffhbnpfaaGreatDoor
set_option maxHeartbeats 2000000
namespace Go.Proofs.YtmgemcffhbnpfaaGreatDoor
open Go
theorem Al (a:Int):sL .i64 a 255=a % 256:=by
 show IntKind.i64.wrap ((BitVec.ofInt 64 a &&& BitVec.ofInt 64 255).toNat:Int)=_
 have e:(BitVec.ofInt 64 a &&& BitVec.ofInt 64 255).toNat=(a % 256).toNat:=by
  rw [BitVec.toNat_and,show (BitVec.ofInt 64 255).toNat=2 ^ 8 - 1 from rfl,Nat.and_two_pow_sub_one_eq_mod,BitVec.toNat_ofInt]
  omega
 rw [e,fg ω]
 omega
theorem Ij {a r g b:Nat} (ha:a<256) (hr:r<256) (hg:g<256) (hb:b<256):a * 2 ^ 24 ||| r * 2 ^ 16 ||| g * 2 ^ 8 ||| b=fQ a r g b:=by
 have e1:a * 2 ^ 24 ||| r * 2 ^ 16=2 ^ 24 * a+r * 2 ^ 16:=by
  rw [Nat.mul_comm a]
  exact (Nat.two_pow_add_eq_or_of_lt ω a).symm
 have e2:2 ^ 24 * a+r * 2 ^ 16 ||| g * 2 ^ 8=2 ^ 16 * (a * 256+r)+g * 2 ^ 8:=by
  rw [show 2 ^ 24 * a+r * 2 ^ 16=2 ^ 16 * (a * 256+r) by omega]
  exact (Nat.two_pow_add_eq_or_of_lt ω _).symm
 have e3:2 ^ 16 * (a * 256+r)+g * 2 ^ 8 ||| b=2 ^ 8 * ((a * 256+r) * 256+g)+b:=by
  rw [show 2 ^ 16 * (a * 256+r)+g * 2 ^ 8=2 ^ 8 * ((a * 256+r) * 256+g) by omega]
  exact (Nat.two_pow_add_eq_or_of_lt ω _).symm
 rw [e1,e2,e3]
 unfold fQ
 omega
def aI (p k:Nat):Nat:=p / 2 ^ k % 256
theorem bz (p k:Nat):aI p k<256:=Nat.mod_lt _ ω
theorem j0 (p:Nat):aI p 24=pA p:=rfl
theorem jw (p:Nat):aI p 16=pR p:=rfl
theorem jX (p:Nat):aI p 8=pG p:=rfl
theorem jy (p:Nat):aI p 0=pB p:=by unfold aI pB;rw [Nat.pow_zero,Nat.div_one]
theorem qH (W:World) (p k:Nat) (hp:p<2 ^ 32) (hk:k≤24) :
  Calls Tryz.prog 33 #[.int .u32 (p:Nat),iT k] W fun e w' => e=.returned (iT (aI p k))∧w'=W:=by
 have hd:p / 2 ^ k≤p:=Nat.div_le_self _ _
 have hl:=bz p k
 refine enter (m:=10) Tryz.func33 O Tryz.ntmps33 O (Cy (az O (Lt (Cy (ai O (ai O (Lp (d6 (r:=((p / 2 ^ k:Nat):Int)) O O ω (jd (k:=.u32) (by show _≤(32:Nat);omega))) (Lp (gZ (r:=((aI p k:Nat):Int)) O O (by show sL .u32 _ ((255:Nat):Int)=_;rw [G0 ⟨ω,ω⟩,show (255:Nat)=2 ^ 8 - 1 from rfl,Nat.and_two_pow_sub_one_eq_mod];rfl)) (cm jT O (fg ω) (az O (Lt (Ct ?_))))))))))))
 exact ak O O ⟨O,O⟩
theorem qY (W:World) (x y z u:Int) (a r g b:Nat) (ha:x % 256=(a:Int)) (hr:y % 256=(r:Int)) (hg:z % 256=(g:Int)) (hb:u % 256=(b:Int)) :
  Calls Tryz.prog 17 #[.int .i64 x,.int .i64 y,.int .i64 z,.int .i64 u] W fun e w' => e=.returned (.int .u32 (fQ a r g b:Nat))∧w'=W:=by
 have e:=Ij (a:=a) (r:=r) (g:=g) (b:=b) ω ω ω ω
 have o1:a * 2 ^ 24 ||| r * 2 ^ 16<2 ^ 32:=Nat.or_lt_two_pow ω ω
 have o2:a * 2 ^ 24 ||| r * 2 ^ 16 ||| g * 2 ^ 8<2 ^ 32:=Nat.or_lt_two_pow o1 ω
 refine enter (m:=27) Tryz.func17 O Tryz.ntmps17 O (Cy (az O (Lt (Cy (ai O (Lp (gZ (r:=(a:Int)) O O (by rw [Al,ha])) (cm (r:=(a:Int)) jV O (ew ω) (Lp (ed (r:=((a * 2 ^ 24:Nat):Int)) O O ω (yn (b:=24) ω)) (ai O (Lp (gZ (r:=(r:Int)) O O (by rw [Al,hr])) (cm (r:=(r:Int)) jV O (ew ω) (Lp (ed (r:=((r * 2 ^ 16:Nat):Int)) O O ω (yn (b:=16) ω)) (Lp (sH O O (Cm ⟨ω,ω⟩)) (ai O (Lp (gZ (r:=(g:Int)) O O (by rw [Al,hg])) (cm (r:=(g:Int)) jV O (ew ω) ?_))))))))))))))))
 refine Lp (ed (r:=((g * 2 ^ 8:Nat):Int)) O O ω (yn (b:=8) ω)) (Lp (sH O O (Cm ⟨o1,ω⟩)) (ai O (Lp (gZ (r:=(b:Int)) O O (by rw [Al,hb])) (cm (r:=(b:Int)) jV O (ew ω) (Lp (sH (r:=((fQ a r g b:Nat):Int)) O O (by rw [Cm ⟨o2,ω⟩,e])) (az O (Lt (Ct ?_))))))))
 exact ak O O ⟨O,O⟩
theorem eN (W:World) (n b:Nat) (hn:n≤1000000) (hb:b≤9) :
  Calls Tryz.prog 16 #[iT n,iT b] W fun e w' => e=.returned (iT (aq n b))∧w'=W:=by
 have hp:2 ^ b≤2 ^ 9:=Nat.pow_le_pow_right ω hb
 have hp1:1≤2 ^ b:=Nat.two_pow_pos b
 refine enter (m:=12) Tryz.func16 O Tryz.ntmps16 O (Cy (az O (Lt (Cy (ai O (ai O (Lp (ed (r:=((2 ^ b:Nat):Int)) O O ω (by show IntKind.i64.wrap (((1:Nat):Int) * _)=_;rw [x7 ⟨ω,ω⟩,Nat.one_mul])) (ao O O (ck ω) (bw (r:=((n+2 ^ b - 1:Nat):Int)) O O (iw (b:=1) ⟨ω,ω⟩) (ai O (Lp (d6 (r:=((aq n b:Nat):Int)) O O ω (jd (k:=.i64) (by show _≤(64:Nat);omega))) (az O (Lt (Ct ?_))))))))))))))
 exact ak O O ⟨O,O⟩
theorem vg (W:World) (n:Nat) (hn:n≤1000000) :
  Calls Tryz.prog 20 #[iT n] W fun e w' => e=.returned (iT (b0 n))∧w'=W:=by
 refine enter (m:=12) Tryz.func20 O Tryz.ntmps20 O (Cy (az O (Lt (Cs (Cb (Cy (ai O (Lp (sd O O) (cU O (Lt ?_))))))))))
 by_cases h2:n≤2
 case pos =>
  refine CT O ω (Cy (az O (Lt (Ct (bL (aE ?_))))))
  exact ak O O ⟨by unfold b0;rw [if_pos h2];rfl,O⟩
 refine CF O ω (Cy (ai O (Lp (sd O O) (cU O (Lt ?_)))))
 by_cases h4:n≤4
 case pos =>
  refine CT O ω (Cy (az O (Lt (Ct (bL (aE ?_))))))
  exact ak O O ⟨by unfold b0;rw [if_neg h2,if_pos h4];rfl,O⟩
 refine CF O ω (Cy (ai O (Lp (sd O O) (cU O (Lt ?_)))))
 by_cases h16:n≤16
 case pos =>
  refine CT O ω (Cy (az O (Lt (Ct (bL (aE ?_))))))
  exact ak O O ⟨by unfold b0;rw [if_neg h2,if_neg h4,if_pos h16];rfl,O⟩
 refine CF O ω (Ck (aF (tn (Cy (az O (Lt (Ct ?_)))))))
 exact ak O O ⟨by unfold b0;rw [if_neg h2,if_neg h4,if_neg h16];rfl,O⟩
section
variable {w:World} {nn:Nat} {ops:Array Oper} {Q:cY} {rest:List Oper} {ρ:dK} {ty:TypeId} {pos:String} {after:Array Edge} {x y z u:Operand} {d:Nat} {ts:Array TypeId} {K:dK→Prop}
theorem b_ (p k:Nat) (hp:p<2 ^ 32) (hk:k≤24) (hd:Nat.blt d nn=true) (hx:ev ρ x=.int .u32 (p:Nat)) (hy:ev ρ y=iT k) (h:VL Tryz.prog nn ops Q rest (eW ρ d (iT (aI p k))) w) :
  VL Tryz.prog nn ops Q (⟨some d,.call ⟨.value (.func 33),#[x,y],ts⟩,ty,pos,after,none⟩ :: rest) ρ w:=bZ hd wU (qH w p k hp hk) (by simp [hx,hy]) h
theorem jY (p k:Nat) (hp:p<2 ^ 32) (hk:k≤24) (hd:Nat.blt d nn=true) (hx:ev ρ x=.int .u32 (p:Nat)) (hy:ev ρ y=iT k) (h:VS Tryz.prog nn ops w K rest (eW ρ d (iT (aI p k)))) :
  VS Tryz.prog nn ops w K (⟨some d,.call ⟨.value (.func 33),#[x,y],ts⟩,ty,pos,after,none⟩ :: rest) ρ:=bJ hd wU (qH w p k hp hk) (by simp [hx,hy]) h
theorem jr {i j k l:Int} (a r g b:Nat) (ha:i % 256=(a:Int)) (hr:j % 256=(r:Int)) (hg:k % 256=(g:Int)) (hb:l % 256=(b:Int)) (hd:Nat.blt d nn=true) (hx:ev ρ x=.int .i64 i) (hy:ev ρ y=.int .i64 j) (hz:ev ρ z=.int .i64 k) (hu:ev ρ u=.int .i64 l) (h:VL Tryz.prog nn ops Q rest (eW ρ d (.int .u32 (fQ a r g b:Nat))) w) :
  VL Tryz.prog nn ops Q (⟨some d,.call ⟨.value (.func 17),#[x,y,z,u],ts⟩,ty,pos,after,none⟩ :: rest) ρ w:=bZ hd zE (qY w i j k l a r g b ha hr hg hb) (by simp [hx,hy,hz,hu]) h
theorem G4 {i j k l:Int} (a r g b:Nat) (ha:i % 256=(a:Int)) (hr:j % 256=(r:Int)) (hg:k % 256=(g:Int)) (hb:l % 256=(b:Int)) (hd:Nat.blt d nn=true) (hx:ev ρ x=.int .i64 i) (hy:ev ρ y=.int .i64 j) (hz:ev ρ z=.int .i64 k) (hu:ev ρ u=.int .i64 l) (h:VS Tryz.prog nn ops w K rest (eW ρ d (.int .u32 (fQ a r g b:Nat)))) :
  VS Tryz.prog nn ops w K (⟨some d,.call ⟨.value (.func 17),#[x,y,z,u],ts⟩,ty,pos,after,none⟩ :: rest) ρ:=bJ hd zE (qY w i j k l a r g b ha hr hg hb) (by simp [hx,hy,hz,hu]) h
end
theorem Bh (W:World) (p q:Nat) (hp:p<2 ^ 32) (hq:q<2 ^ 32) :
  Calls Tryz.prog 21 #[.int .u32 (p:Nat),.int .u32 (q:Nat)] W fun e w' => e=.returned (.int .u32 (gR p q:Nat))∧w'=W:=by
 have a1:=bz p 24
 have a2:=bz p 16
 have a3:=bz p 8
 have a4:=bz p 0
 have b1:=bz q 24
 have b2:=bz q 16
 have b3:=bz q 8
 have b4:=bz q 0
 have e:gR p q=fQ ((aI p 24+256 - aI q 24) % 256) ((aI p 16+256 - aI q 16) % 256) ((aI p 8+256 - aI q 8) % 256) ((aI p 0+256 - aI q 0) % 256):=by
  unfold gR
  rw [j0,j0,jw,jw,jX,jX,jy,jy]
 rw [e]
 refine enter (m:=26) Tryz.func21 O Tryz.ntmps21 O (Cy (az O (Lt (Cy (ai O (b_ p 24 hp ω O O O (ai O (b_ q 24 hq ω O O O (bw O O (fg ω) (ai O (b_ p 16 hp ω O O O (ai O (b_ q 16 hq ω O O O (bw O O (fg ω) (ai O (b_ p 8 hp ω O O O ?_))))))))))))))))
 refine ai O (b_ q 8 hq ω O O O (bw O O (fg ω) (ai O (b_ p 0 hp ω O O O (ai O (b_ q 0 hq ω O O O (bw O O (fg ω) (jr ((aI p 24+256 - aI q 24) % 256) ((aI p 16+256 - aI q 16) % 256) ((aI p 8+256 - aI q 8) % 256) ((aI p 0+256 - aI q 0) % 256) ω ω ω ω O O O O O (az O (Lt (Ct ?_)))))))))))
 exact ak O O ⟨O,O⟩
def Tk.cells (t:Tk) (g:Nat):List Value:=match t with
 | .lit p => [.int .u32 (p:Nat),.int .i64 (-1),iT 0,iT 0,iT g]
 | .hit p k => [.int .u32 (p:Nat),iT k,iT 0,iT 0,iT g]
 | .cp p far long => [.int .u32 (p:Nat),.int .i64 (-1),iT far,iT long,iT g]
def Tk.five:Tk→List Int
 | .lit p => [(pG p:Nat),(pR p:Nat),(pB p:Nat),(pA p:Nat),-1]
 | .hit _ k => [(280+k:Nat),-1,-1,-1,-1]
 | .cp _ far long => [(256+kh long:Nat),-1,-1,-1,(kh far:Nat)]
def Tk.fits:Tk→Prop
 | .lit p => p<2 ^ 32
 | .hit p k => p<2 ^ 32∧k<2048
 | .cp p far long => p<2 ^ 32∧1≤long∧long≤4096∧1≤far∧far≤1048576
def lP (l:List Int):List Value:=l.map fun i => .int .i64 i
theorem vJ (W:World) (t:Tk) (g:Nat) (hf:t.fits) :
  Calls Tryz.prog 35 #[.agg (t.cells g).toArray] W fun e w' => e=.returned (.agg (lP t.five).toArray)∧cf [] W w':=by
 have H:St W [] [] W:=St.nil W []
 cases t with
 | lit p =>
  have hp:p<2 ^ 32:=hf
  have a1:=bz p 24
  have a2:=bz p 16
  have a3:=bz p 8
  have a4:=bz p 0
  refine enter (m:=52) Tryz.func35 O Tryz.ntmps35 O (Cy (fM H (cs:=(Tk.lit p).cells g) O O O ?_))
  intro w b1 hn1 hb1 H
  refine cE H zX O ?_
  intro w b2 hn2 hb2 H
  refine Lt (Cs (Cb (Cy (aU j3 O (aC a_ O (H.cell 1 (v:=iT 0) O O) (Lp (e9 O O) (cU O (Lt (CF O ω (Cy (aU qX O (aC a_ O (H.cell 1 (v:=.int .i64 (-1)) O O) (Lp (ou O O) (cU O (Ln ?_)))))))))))))))
  refine tn (CF O ω (Ck (aF (tn (Cs (ar 13 aJ κ ?_))))))
  intro w hsame
  replace H:=H.same hsame
  refine dD v_ O (aD bD O (H.cell 1 (v:=.int .u32 (p:Nat)) O O) (jY p 8 hp ω O O O (dD v_ O (aD bD O (H.cell 1 (v:=.int .u32 (p:Nat)) O O) (jY p 16 hp ω O O O (dD v_ O (aD bD O (H.cell 1 (v:=.int .u32 (p:Nat)) O O) (jY p 0 hp ω O O O (dD v_ O (aD bD O (H.cell 1 (v:=.int .u32 (p:Nat)) O O) (jY p 24 hp ω O O O (Sp (iF (lP [(aI p 8:Nat),(aI p 16:Nat),(aI p 0:Nat),(aI p 24:Nat),-1]) O κ) (Sn (dG (vs:=lP [(aI p 8:Nat),(aI p 16:Nat),(aI p 0:Nat),(aI p 24:Nat),-1]) H 0 An O O O O O (by simp [lP,Value.oneCell']) ?_))))))))))))))
  intro w H
  simp only [List.set] at H
  refine Lt ?_
  have e:lP [(aI p 8:Nat),(aI p 16:Nat),(aI p 0:Nat),(aI p 24:Nat),-1]=lP (Tk.lit p).five:=by rw [jy];rfl
  rw [e] at H
  refine Ct ?_
  exact lB (cs:=lP (Tk.lit p).five) O CD O O (fun j hj => by rw [Nat.zero_add];exact (H.blk (i:=0) O).cell j) ⟨O,H.frm⟩
 | hit p k =>
  obtain ⟨hp,hk⟩:=hf
  refine enter (m:=52) Tryz.func35 O Tryz.ntmps35 O (Cy (fM H (cs:=(Tk.hit p k).cells g) O O O ?_))
  intro w b1 hn1 hb1 H
  refine cE H zX O ?_
  intro w b2 hn2 hb2 H
  refine Lt (Cs (Cb (Cy (aU j3 O (aC a_ O (H.cell 1 (v:=iT 0) O O) (Lp (e9 O O) (cU O (Lt (CF O ω (Cy (aU qX O (aC a_ O (H.cell 1 (v:=iT k) O O) (Lp (ou O O) (cU O (Ln ?_)))))))))))))))
  refine tn (CT O ω (Cy (aU qX O (aC a_ O (H.cell 1 (v:=iT k) O O) (ao O O (ck (a:=280) ω) (Lp (iF (lP (Tk.hit p k).five) O κ) (dG (vs:=lP (Tk.hit p k).five) H 0 An O O O O O (by simp [lP,Tk.five,Value.oneCell']) ?_)))))))
  intro w H
  simp only [List.set] at H
  refine Lt (Ct (bL (aE ?_)))
  exact lB (cs:=lP (Tk.hit p k).five) O CD O O (fun j hj => by rw [Nat.zero_add];exact (H.blk (i:=0) O).cell j) ⟨O,H.frm⟩
 | cp p far long =>
  obtain ⟨hp,h1,h2,h3,h4⟩:=hf
  have s1:=jS h1 ω
  have s2:=jS h3 h4
  refine enter (m:=52) Tryz.func35 O Tryz.ntmps35 O (Cy (fM H (cs:=(Tk.cp p far long).cells g) O O O ?_))
  intro w b1 hn1 hb1 H
  refine cE H zX O ?_
  intro w b2 hn2 hb2 H
  refine Lt (Cs (Cb (Cy (aU j3 O (aC a_ O (H.cell 1 (v:=iT long) O O) (Lp (e9 O O) (cU O (Lt (CT O ω (Cy (aU j3 O (aC a_ O (H.cell 1 (v:=iT long) O O) (bZ O zN (mr _ long h1 ω) O (gr O (av O O ?_)))))))))))))))
  refine av O O (av O O (az O (az O (az O (Lt (Cy (aU zy O (aC a_ O (H.cell 1 (v:=iT far) O O) (bZ O zN (mr _ far h3 h4) O (gr O (av O O (av O O (av O O (az O (az O (az O (Ln ?_)))))))))))))))))
  refine tn (Cy (ai O (ao O O (ck (a:=256) ω) (ai O (Lp (iF (lP (Tk.cp p far long).five) O κ) (dG (vs:=lP (Tk.cp p far long).five) H 0 An O O O O O (by simp [lP,Tk.five,Value.oneCell']) ?_))))))
  intro w H
  simp only [List.set] at H
  refine Lt (Ct (bL (aE ?_)))
  exact lB (cs:=lP (Tk.cp p far long).five) O CD O O (fun j hj => by rw [Nat.zero_add];exact (H.blk (i:=0) O).cell j) ⟨O,H.frm⟩
end Go.Proofs.YtmgemcffhbnpfaaGreatDoor
set_option maxHeartbeats 1000000
namespace Go.Proofs.YtmgemcffhbnpfaaGreatDoor
open Go
theorem St.perm {w0 w:World} {S:List Nat} {l l':List e_} (h:St w0 S l w) (hp:l.Perm l'):St w0 S l' w :=
 ⟨h.frm,fun r hr => h.has r (hp.mem_iff.2 hr),fun r hr => h.loc r (hp.mem_iff.2 hr),fun r hr => h.own r (hp.mem_iff.2 hr),
  (hp.pairwise_iff (fun hrs b hb hb2 => hrs b hb2 hb)).1 h.apart⟩
theorem LC {P:Program} {n:Nat} {ρ:dK} {w:World} {l:List Oper} {K:dK→Prop} {rest:List Oper} {op:Op} {ty:TypeId} {pos:String} {after:Array Edge} {d:Nat} {j dj:Nat} {b':Bool}
  (hj:(l[j]?).bind (·.dst)=some dj) (hdj:Nat.blt dj n=true) (hb:ρ dj=undef)
  (hd:Nat.blt d n=true) (h:VS P n l.toArray w K rest (eW ρ d undef)) :
  VS P n l.toArray w K (⟨some d,op,ty,pos,after,some (j,b')⟩ :: rest) ρ:=fun a ha => by
 unfold wpStill
 rw [if_neg (by simp [Region.wanted,ha.yieldedU l.toArray (j:=j) (by simpa using hj) hdj hb])]
 exact h _ (ha.put hd _)
def VO (P:Program) (n:Nat) (ops:Array Oper) (Q:cY) (i:Nat) (K:dK→World→Prop) (ρ:dK) (w:World):Prop :=
 ∀ a,Fr n ρ a→wpOp P ops (FN n Q) i (fun a' w' => ∃ ρ',Fr n ρ' a'∧K ρ' w') a w
section
variable {P:Program} {n:Nat} {Q:cY} {I:World→Prop} {fuel:Nat} {listed:Array Bool} {ρ:dK} {w:World} {l:List Oper} {K:dK→World→Prop}
theorem VO.mono {i:Nat} {K':dK→World→Prop} (h:VO P n l.toArray Q i K ρ w) (hk:∀ ρ w,K ρ w→K' ρ w):VO P n l.toArray Q i K' ρ w:=fun a ha =>
 wpOp_mono (fun a' w' ⟨ρ',hf,h⟩ => ⟨ρ',hf,hk _ _ h⟩) (h a ha)
theorem pp {i:Nat} {op:Op} {ty:TypeId} {pos:String} {after:Array Edge} {d:Nat} {v:Value} {w':World} (hi:l[i]?=some ⟨some d,op,ty,pos,after,none⟩)
  (hd:Nat.blt d n=true) (hy:dE P (ev ρ) ⟨some d,op,ty,pos,after,none⟩ w v w') (h:K (eW ρ d v) w'):VO P n l.toArray Q i K ρ w:=fun a ha => by
 unfold wpOp
 simp only [show l.toArray[i]?=some ⟨some d,op,ty,pos,after,none⟩ by simpa using hi]
 rw [if_pos (by simp [Region.wanted])]
 refine .inl ?_
 unfold Oper.wp
 rw [ha.eval,hy]
 exact ⟨_,ha.put hd v,h⟩
theorem Mr {i:Nat} {op:Op} {ty:TypeId} {pos:String} {after:Array Edge} {w':World} (hi:l[i]?=some ⟨none,op,ty,pos,after,none⟩)
  (hy:IW P (ev ρ) ⟨none,op,ty,pos,after,none⟩ w w') (h:K ρ w'):VO P n l.toArray Q i K ρ w:=fun a ha => by
 unfold wpOp
 simp only [show l.toArray[i]?=some ⟨none,op,ty,pos,after,none⟩ by simpa using hi]
 rw [if_pos (by simp [Region.wanted])]
 refine .inl ?_
 unfold Oper.wp
 rw [ha.eval,hy]
 exact ⟨_,ha,h⟩
theorem wi {i:Nat} {f:FuncId} {xs:Array Operand} {ts:Array TypeId} {ty:TypeId} {pos:String} {after:Array Edge} {d:Nat} {vs:List Value} {R:Ending→World→Prop}
  (hi:l[i]?=some ⟨some d,.call ⟨.value (.func f),xs,ts⟩,ty,pos,after,none⟩)
  (hd:Nat.blt d n=true) (he:fZ P f) (hc:Calls P f vs.toArray w R) (hx:xs.toList.map (ev ρ)=vs)
  (h:∀ e w',R e w'→∃ v,e=.returned v∧K (eW ρ d v) w'):VO P n l.toArray Q i K ρ w:=fun a ha => by
 unfold wpOp
 simp only [show l.toArray[i]?=some ⟨some d,.call ⟨.value (.func f),xs,ts⟩,ty,pos,after,none⟩ by simpa using hi]
 rw [if_pos (by simp [Region.wanted])]
 refine .inl ?_
 have hr:(execOp (ev ρ) ⟨some d,.call ⟨.value (.func f),xs,ts⟩,ty,pos,after,none⟩).run P w=.ok (.enter f vs.toArray) w:=by
  have hx:xs.map (ev ρ)=vs.toArray:=by apply Array.ext';rw [Array.toList_map,hx]
  have:=he vs.toArray w
  simp only [execOp,resolve,Deferred.ofValue,ev,Sem.run_bind,Sem.run_pure,Result.andThen_ok,hx,Go.invoke,Array.append_empty]
  simpa using this
 unfold Oper.wp
 rw [ha.eval,hr]
 refine hc.mono fun e w' hR => ?_
 obtain ⟨v,rfl,hv⟩:=h e w' hR
 exact ⟨_,ha.put hd v,hv⟩
theorem GR {i:Nat} {f:FuncId} {c:Operand} {fs cs:List Value} {xs:Array Operand} {ts:Array TypeId} {ty:TypeId} {pos:String} {after:Array Edge} {d:Nat} {vs:List Value} {R:Ending→World→Prop}
  (hi:l[i]?=some ⟨some d,.call ⟨.value c,xs,ts⟩,ty,pos,after,none⟩)
  (hd:Nat.blt d n=true) (he:fZ P f) (hv:ev ρ c=.func (.func f) fs.toArray cs.toArray) (hc:Calls P f (fs++vs++cs).toArray w R) (hx:xs.toList.map (ev ρ)=vs)
  (h:∀ e w',R e w'→∃ v,e=.returned v∧K (eW ρ d v) w'):VO P n l.toArray Q i K ρ w:=fun a ha => by
 unfold wpOp
 simp only [show l.toArray[i]?=some ⟨some d,.call ⟨.value c,xs,ts⟩,ty,pos,after,none⟩ by simpa using hi]
 rw [if_pos (by simp [Region.wanted])]
 refine .inl ?_
 have hr:(execOp (ev ρ) ⟨some d,.call ⟨.value c,xs,ts⟩,ty,pos,after,none⟩).run P w=.ok (.enter f (fs++vs++cs).toArray) w:=by
  have hx:xs.map (ev ρ)=vs.toArray:=by apply Array.ext';rw [Array.toList_map,hx]
  have:=he (fs++vs++cs).toArray w
  have e2:fs.toArray++vs.toArray++cs.toArray=(fs++vs++cs).toArray:=by simp
  simp only [execOp,resolve,Deferred.ofValue,hv,Sem.run_bind,Sem.run_pure,Result.andThen_ok,hx,Go.invoke,e2,this]
 unfold Oper.wp
 rw [ha.eval,hr]
 refine hc.mono fun e w' hR => ?_
 obtain ⟨v,rfl,hv⟩:=h e w' hR
 exact ⟨_,ha.put hd v,hv⟩
theorem GV {rs:List Nat} (hr:Region.ready .any l.toArray listed=rs) (hne:rs≠[]) (h:∀ i ∈ rs,VO P n l.toArray Q i (fun ρ' w' => I w'∧VH P n l.toArray Q I fuel (listed.setIfInBounds i true) ρ' w') ρ w) :
  VH P n l.toArray Q I (fuel+1) listed ρ w:=fun hQ a ha =>
 wpAnyH_all hr hne fun i hi => wpOp_mono (fun a' w' ⟨ρ',hf,h1,h2⟩ => ⟨h1,h2 hQ a' hf⟩) (h i hi a ha)
def IC (n:Nat) (base todo D:List Nat):Array Bool:=((List.range n).map fun k => base.contains k || (todo.contains k && !D.contains k)).toArray
theorem IE {m:Nat} {base todo D:List Nat} {i:Nat} (hi:i ∈ todo) (hD:D.Nodup):(IC m base todo D).setIfInBounds i true=IC m base todo (D.erase i):=by
 unfold IC
 rw [List.setIfInBounds_toArray]
 congr 1
 apply List.ext_getElem
 ·simp
 ·intro k h1 h2
  have hk:k<m:=by simpa using h2
  rw [List.getElem_set]
  simp only [List.getElem_map,List.getElem_range]
  by_cases e:i=k
  ·subst e
   rw [if_pos rfl]
   have h3:D.erase i=D.filter (· != i):=hD.erase_eq_filter i
   simp [h3,hi]
  ·rw [if_neg e]
   congr 2
   rw [Bool.eq_iff_iff]
   simp only [Bool.not_eq_true',List.contains_eq_mem,decide_eq_false_iff_not]
   rw [List.mem_erase_of_ne (fun h => e h.symm)]
def He:List Nat→List (List Nat)
 | [] => [[]]
 | a :: l => He l++(He l).map (a :: ·)
theorem G1 {D l:List Nat} (h:D.Sublist l):D ∈ He l:=by
 induction h with
 | slnil => simp [He]
 | cons a _ ih => exact List.mem_append_left _ ih
 | cons_cons a _ ih => exact List.mem_append_right _ (List.mem_map_of_mem ih)
def vT (pre:List (Nat × List Nat)) (D:List Nat):Bool:=pre.all fun q => D.contains q.1 || q.2.all fun p => !D.contains p
theorem yi {pre:List (Nat × List Nat)} {D:List Nat} {i:Nat} (h:vT pre D=true) (hi:∀ q ∈ pre,q.1=i→∀ p ∈ q.2,p ∉ D):vT pre (D.erase i)=true:=by
 refine List.all_eq_true.2 fun q hq => ?_
 have h1:=List.all_eq_true.1 h q hq
 by_cases e:q.1=i
 ·have:(q.2.all fun p => !(D.erase i).contains p)=true:=List.all_eq_true.2 fun p hp => by
   have h5:p ∉ D.erase i:=fun h => hi q hq e p hp (List.mem_of_mem_erase h)
   simpa using h5
  rw [this,Bool.or_true]
 ·rcases Bool.or_eq_true_iff.1 h1 with h2 | h2
  ·have:(D.erase i).contains q.1=true:=by
    have hm:q.1 ∈ D:=by simpa using h2
    simpa using (List.mem_erase_of_ne e).2 hm
   rw [this,Bool.true_or]
  ·have:(q.2.all fun p => !(D.erase i).contains p)=true:=List.all_eq_true.2 fun p hp => by
    have h3:=List.all_eq_true.1 h2 p hp
    have h4:p ∉ D:=by simpa using h3
    have h5:p ∉ D.erase i:=fun h => h4 (List.mem_of_mem_erase h)
    simpa using h5
   rw [this,Bool.or_true]
def Gf (ops:Array Oper) (base todo:List Nat) (pre:List (Nat × List Nat)):Bool :=
 (He todo).all fun D => D.isEmpty || !vT pre D || (!(Region.ready .any ops (IC ops.size base todo D)).isEmpty && (Region.ready .any ops (IC ops.size base todo D)).all fun i => D.contains i && pre.all fun q => q.1 != i || q.2.all fun p => !D.contains p)
theorem u9 (base todo:List Nat) (pre:List (Nat × List Nat)) (hnd:todo.Nodup) (hc:Gf l.toArray base todo pre=true) (J:List Nat→dK→World→Prop) (hI:∀ D ρ w,J D ρ w→I w)
  (step:∀ D i ρ w,D.Sublist todo→i ∈ D→(∀ q ∈ pre,q.1=i→∀ p ∈ q.2,p ∉ D)→J D ρ w→VO P n l.toArray Q i (J (D.erase i)) ρ w)
  (h:∀ ρ w,J [] ρ w→VH P n l.toArray Q I fuel (IC l.length base todo []) ρ w) :
  ∀ (m:Nat) (D:List Nat),D.length=m→D.Sublist todo→vT pre D=true→∀ ρ w,J D ρ w→VH P n l.toArray Q I (fuel+m) (IC l.length base todo D) ρ w
 | 0,D,hm,hD,hcl,ρ,w,hJ => by
  obtain rfl:=List.length_eq_zero_iff.1 hm
  exact h ρ w hJ
 | m+1,D,hm,hD,hcl,ρ,w,hJ => by
  have h1:=List.all_eq_true.1 hc D (G1 hD)
  have hne:D≠[]:=fun e => by rw [e] at hm;cases hm
  have he:D.isEmpty=false:=by cases D;exact absurd rfl hne;rfl
  rw [he,hcl,Bool.not_true,Bool.false_or,Bool.false_or,Bool.and_eq_true,List.size_toArray] at h1
  refine GV O (fun e => by rw [e] at h1;exact absurd h1.1 δ) fun i hi => ?_
  have h2:=List.all_eq_true.1 h1.2 i hi
  rw [Bool.and_eq_true] at h2
  have hiD:i ∈ D:=by simpa using h2.1
  have hpre:∀ q ∈ pre,q.1=i→∀ p ∈ q.2,p ∉ D:=fun q hq hqi p hp hpD => by
   have:=List.all_eq_true.1 h2.2 q hq
   rw [hqi] at this
   simp only [bne_self_eq_false,Bool.false_or,List.all_eq_true] at this
   have:=this p hp
   simp [hpD] at this
  have hs:=step D i ρ w hD hiD hpre hJ
  have hDn:=hD.nodup hnd
  refine hs.mono fun ρ' w' hJ' => ⟨hI _ _ _ hJ',?_⟩
  rw [IE (hD.mem hiD) hDn]
  exact u9 base todo pre hnd hc J hI step h m (D.erase i) (by rw [List.length_erase_of_mem hiD,hm];rfl) ((List.erase_sublist ..).trans hD) (yi hcl hpre) ρ' w' hJ'
def zl (D:List Nat) (i:Nat) (r:e_):List e_:=if i ∈ D then [] else [r]
theorem cj {D:List Nat} {i j:Nat} {r:e_} (h:i≠j):zl (D.erase j) i r=zl D i r:=by
 unfold zl
 by_cases e:i ∈ D
 ·rw [if_pos e,if_pos ((List.mem_erase_of_ne h).2 e)]
 ·rw [if_neg e,if_neg (fun h2 => e ((List.mem_erase_of_ne h).1 h2))]
theorem l8 {D:List Nat} {i:Nat} {r:e_} (h:D.Nodup):zl (D.erase i) i r=[r]:=if_neg h.not_mem_erase
theorem iy {D:List Nat} {i:Nat} {r:e_} (h:i ∈ D):zl D i r=[]:=if_pos h
theorem j5 {i:Nat} {r:e_}:zl [] i r=[r]:=if_neg (by simp)
theorem oE (base todo:List Nat) (pre:List (Nat × List Nat)) (m:Nat) (hm:todo.length=m) (hl:listed=IC l.length base todo todo) (hnd:todo.Nodup) (hc:(vT pre todo && Gf l.toArray base todo pre)=true) (J:List Nat→dK→World→Prop) (hI:∀ D ρ w,J D ρ w→I w) (hJ:J todo ρ w)
  (step:∀ D i ρ w,i ∈ todo→i ∈ D→(∀ q ∈ pre,q.1=i→∀ p ∈ q.2,p ∉ D)→D.Nodup→J D ρ w→VO P n l.toArray Q i (J (D.erase i)) ρ w)
  (h:∀ ρ w,J [] ρ w→VH P n l.toArray Q I fuel (IC l.length base todo []) ρ w):VH P n l.toArray Q I (fuel+m) listed ρ w:=by
 subst hl
 rw [Bool.and_eq_true] at hc
 exact u9 base todo pre hnd hc.2 J hI (fun D i ρ w hs hi hp hj => step D i ρ w (hs.mem hi) hi hp (hs.nodup hnd) hj) h m todo hm (List.Sublist.refl _) hc.1 ρ w hJ
end
section
variable {P:Program} {n:Nat} {Q:cY} {I:World→Prop} {fuel:Nat} {listed:Array Bool} {ρ:dK} {w w0:World} {S:List Nat} {lo:List Oper} {l:List e_} {K:dK→World→Prop} {ty t tt:TypeId} {pos:String} {after:Array Edge} {x y:Operand} {b off k d:Nat} {cs vs:List Value}
theorem wE {i:Nat} (hi:lo[i]?=some ⟨some d,.alloc t,ty,pos,after,none⟩) (H:St w0 S l w) (F:xU P t cs) (hd:Nat.blt d n=true)
  (h:∀ w' b,w.heap.size≤b→cf [] w w'→St w0 S (aa b cs t :: l) w'→K (eW ρ d (pT b)) w'):VO P n lo.toArray Q i K ρ w:=by
 obtain ⟨z,h1,h2⟩:=F.run
 refine pp hi hd (v:=.pointer (some ⟨w.heap.size,0,none⟩)) (w':=w.alloc (.cells cs.toArray t)) ?_ (h _ _ (Nat.le_refl _) (cf.new _ _ _) (H.new cs t))
 unfold dE
 simp only [execOp,Instr.alloc,Sem.run_bind,h1,Result.andThen_ok,newVar,newRow,h2]
 rfl
theorem qV {i el by_:Nat} {zs:List Value} {kl kc:IntKind} {m c:Int} (hi:lo[i]?=some ⟨some d,.makeSlice t x y,ty,pos,after,none⟩) (H:St w0 S l w) (F:MK P t el by_ zs) (lN cN:Nat) (hx:ev ρ x=.int kl m) (hy:ev ρ y=.int kc c) (hm:m=(lN:Int)) (hc:c=(cN:Int)) (hlc:lN≤cN) (hb:by_ * cN≤281474976710656) (h63:cN≤9223372036854775807) (hd:Nat.blt d n=true)
  (h:∀ w' b,w.heap.size≤b→cf [] w w'→St w0 S (aa b (dk cN zs) el :: l) w'→K (eW ρ d (.slice (aT b) lN cN)) w'):VO P n lo.toArray Q i K ρ w:=by
 subst hm hc
 obtain ⟨hu,i2,z,h1,h2,h3,h4,h5⟩:=F
 subst h5
 have hb':((i2.bytes * cN:Nat):Int)≤281474976710656:=ω
 rw [Int.natCast_mul] at hb'
 have hr:=run_make (P:=P) w t el i2 z hu h1 h2 kl kc lN cN ω ω hb' ω
 have e:madeCells z.cells ((cN:Int).toNat * i2.size)=(dk cN zs).toArray:=by
  have:=iE zs cN
  rw [← this,h4,← h3]
  rfl
 rw [e] at hr
 simp only [Int.toNat_natCast] at hr
 refine pp hi hd (v:=.slice (some ⟨w.heap.size,0,none⟩) lN cN) (w':=w.alloc (.cells (dk cN zs).toArray el)) ?_ (h _ _ (Nat.le_refl _) (cf.new _ _ _) (H.new _ el))
 unfold dE
 simp only [execOp,hx,hy,Sem.run_bind,hr,Result.andThen_ok]
 rfl
theorem DU (j:Nat) (hio:lo[j]?=some ⟨none,.store t x y,ty,pos,after,none⟩) (hrd:Region.ready .any lo.toArray listed=[j]) (H:St w0 S l w) (i:Nat) (F:vM P t k) (hx:ev ρ x=pT b) (hi:l[i]?=some (aa b cs tt)) (hy:ev ρ y=.agg vs.toArray) (hk:vs.length=k) (hl:vs.length=cs.length) (h1:∀ v ∈ vs,v.oneCell'=true)
  (h:∀ w',St w0 S (l.set i (aa b vs tt)) w'→VH P n lo.toArray Q (cf S w0) fuel (listed.setIfInBounds j true) ρ w'):VH P n lo.toArray Q (cf S w0) (fuel+1) listed ρ w:=by
 subst hk
 obtain ⟨w',h2,h3,h4⟩:=kY (P:=P) b 0 tt vs 0 cs w (H.blk hi) ω h1
 have H':=H.turnB i hi h4 h3
 rw [Nat.add_zero,HM hl] at H'
 refine y7 j hio hrd (w':=w') ?_ H'.frm (h _ H')
 unfold IW
 simp only [execOp,hx,hy,Instr.storeAt,Instr.sureAddr,storeVar,Sem.run_bind,Sem.run_pure,Result.andThen_ok,Value.cells,FF F w]
 simp [h2]
end
end Go.Proofs.YtmgemcffhbnpfaaGreatDoor
