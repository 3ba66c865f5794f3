/-
  A picture is written and read: part 10 of 13 (Do, EncP, EncW, EncS, Encode, Law, Lift, SpecM, SpecC, SpecA).
-/
import Derived.Test.YtmgemcffhbnpfaaGreatDoorA09
import Derived.ChangeSlices
import Derived.Carry
import Derived.SevenTiedAt
set_option linter.unusedVariables false
set_option linter.unusedSimpArgs false
set_option maxRecDepth 100000
set_option maxHeartbeats 2000000
namespace Go.Proofs.YtmgemcffhbnpfaaGreatDoor
open Go
theorem uM {n b y:Nat} (h:y<n):y / 2 ^ b<aq n b:=by
 have hp:=Nat.two_pow_pos b
 unfold aq
 refine (Nat.le_div_iff_mul_le hp).2 ?_
 have:=Nat.div_mul_le_self y (2 ^ b)
 rw [Nat.succ_mul]
 omega
theorem xB {wd ht b i:Nat} (hw:1≤wd) (hi:i<wd * ht):dS wd b i<aq wd b * aq ht b:=by
 have h1:i / wd<ht:=Nat.div_lt_of_lt_mul hi
 have h2:=uM (b:=b) h1
 have h3:=uM (b:=b) (Nat.mod_lt i hw)
 have h4:=Nat.mul_le_mul_left (aq wd b) (show i / wd / 2 ^ b+1≤aq ht b from h2)
 unfold dS
 rw [Nat.mul_succ] at h4
 omega
theorem HQ {P:Program} {n:Nat} {Q:cY} {I:World→Prop} {fuel:Nat} {listed:Array Bool} {ρ:dK} {w:World} {l:List Oper} (i:Nat) (hr:Region.ready .any l.toArray listed=[i])
  (h:VO P n l.toArray Q i (fun ρ' w' => I w'∧VH P n l.toArray Q I fuel (listed.setIfInBounds i true) ρ' w') ρ w):VH P n l.toArray Q I (fuel+1) listed ρ w :=
 GV hr (by simp) fun j hj => by
  obtain rfl:j=i:=by simpa using hj
  exact h
theorem ft {px:List Nat} (h:∀ q ∈ px,q<2 ^ 32) (j:Nat):px.getD j 0<2 ^ 32:=by
 by_cases hj:j<px.length
 ·have e:px.getD j 0=px[j]:=by simp [hj]
  rw [e]
  exact h _ (List.getElem_mem hj)
 ·have e:px.getD j 0=0:=by simp [hj]
  rw [e]
  decide
theorem vL {m l t tl tr:Nat} (hl:l<2 ^ 32) (ht:t<2 ^ 32):bA m l t tl tr<2 ^ 32:=by
 obtain ⟨a1,a2,a3,a4⟩:=bX l
 obtain ⟨b1,b2,b3,b4⟩:=bX t
 obtain ⟨c1,c2,c3,c4⟩:=bX tl
 obtain ⟨d1,d2,d3,d4⟩:=bX tr
 unfold bA
 split
 ·decide
 ·split
  ·split
   ·exact hl
   ·exact ht
  ·exact (eO (pZ a1 b1 c1 d1) (pZ a2 b2 c2 d2) (pZ a3 b3 c3 d3) (pZ a4 b4 c4 d4)).2.2.2.2
theorem Fl (w b:Nat) (tpx acc:List Nat) (h:∀ q ∈ acc,q<2 ^ 32):iU w b tpx acc<2 ^ 32:=by
 unfold iU
 split
 ·split
  ·decide
  ·exact ft h _
 ·split
  ·exact ft h _
  ·exact vL (ft h _) (ft h _)
theorem uR (p:Nat):aI p 0=pB p:=by unfold aI pB;simp
theorem Lb {a b:Nat} (ha:a<256) (hb:b<256):-512≤sg a * sg b / 32∧sg a * sg b / 32≤512:=by
 have sa:-128≤sg a∧sg a≤127:=by unfold sg;split <;> omega
 have sb:-128≤sg b∧sg b≤127:=by unfold sg;split <;> omega
 have h1:=Int.natAbs_mul (sg a) (sg b)
 have h2:(sg a).natAbs * (sg b).natAbs≤128 * 128:=Nat.mul_le_mul ω ω
 omega
theorem JV {r d:Nat} {D:Int} (h:D % 256=(d:Int)) (hd:d<256):((r:Int) - D) % 256=(((r+256 - d) % 256:Nat):Int):=ω
theorem KU {b d e:Nat} {D E:Int} (h:D % 256=(d:Int)) (h2:E % 256=(e:Int)) (hd:d<256) (he:e<256):((b:Int) - D - E) % 256=(((b+512 - d - e) % 256:Nat):Int):=ω
def sN (cs:List Nat) (x:Int):Option Value:=bif cs.any (fun q => decide (((q:Nat):Int)=x)) then some (iT (cs.idxOf x.toNat)) else none
theorem Kw {cs:List Nat} {p:Nat} (h:p ∈ cs):cs.any (fun q => decide (((q:Nat):Int)=((p:Nat):Int)))=true:=List.any_eq_true.2 ⟨p,h,by simp⟩
theorem Gm {cs:List Nat} {p:Nat} (h:p ∈ cs):(sN cs (p:Nat)).getD (.int .i64 0)=(iT (t_ cs p)):=by
 unfold sN
 rw [Kw h]
 simp [t_]
theorem HJ {cs:List Nat} {p:Nat} (h:p ∉ cs):(fun y => if y=((p:Nat):Int) then some (iT cs.length) else sN cs y)=sN (cs++[p]):=by
 funext y
 unfold sN
 rw [List.any_append]
 by_cases hy:y=((p:Nat):Int)
 ·subst hy
  simp [List.idxOf_append,h]
 ·have hne:¬ ((p:Nat):Int)=y:=fun e => hy e.symm
  rw [if_neg hy]
  simp only [List.any_cons,List.any_nil,Bool.or_false,decide_eq_false hne]
  cases hc:cs.any (fun q => decide (((q:Nat):Int)=y)) with
  | false => rfl
  | true =>
   obtain ⟨q,hq,hqy⟩:=List.any_eq_true.1 hc
   have e:((q:Nat):Int)=y:=of_decide_eq_true hqy
   subst e
   simp [List.idxOf_append,hq]
theorem jp (f:Nat→Nat) (i:Nat):(List.range (i+1)).map f=(List.range i).map f++[f i]:=by rw [List.range_succ,List.map_append];rfl
section
variable {P:Program} {w w0:World} {S:List Nat} {l:List e_}
theorem D7 {ub:Option Addr} {c e k n:Nat} {xs:List Value} {r:List e_} {W w:World} (H:St W [] (aA ub c e k n xs :: r) w):bT w ub c e k n xs∧(∀ x ∈ bQ ub,W.heap.size≤x)∧cf [] W w :=
 ⟨H.get (i:=0) rfl,fun x hx => by
  rcases H.own _ (List.mem_cons_self ..) x hx with h | h
  ·simp at h
  ·exact h,H.frm⟩
end
theorem KP (W:World) (t:Tr) (ht pb po pc:Nat) (px:List Nat) (iv:Value) (hk:t.kind≤3) (hw1:1≤t.wd) (hht:1≤ht) (hb:t.bits≤9) (hr:l7 W .u32 pb po px) (h32:∀ p ∈ px,p<2 ^ 32) (hl:px.length=t.wd * ht) (hn:px.length≤4096)
  (hiv:t.kind≠2→∃ ib ic,iv=.slice (aT ib) t.px.length ic∧l7 W .u32 ib 0 t.px) (h01:t.kind≤1→t.px.length=aq t.wd t.bits * aq ht t.bits∧∀ p ∈ t.px,p<2 ^ 32) (h0:t.kind=0→∀ q ∈ t.px,pG q<14)
  (h3:t.kind=3→tx t px∧t.px.Nodup) (htn:t.px.length≤4096) :
  Calls Tryz.prog 19 #[.agg (gW t.kind t.bits t.wd iv).toArray,.slice (some ⟨pb,po,none⟩) px.length pc,iT ht] W fun e w' => ∃ a c,e=.returned (.slice a (k8 ht t px).length c)∧bT w' a c 36 1 (k8 ht t px).length (nums .u32 (k8 ht t px))∧(∀ x ∈ bQ a,W.heap.size≤x)∧cf [] W w':=by
 obtain ⟨kind,wd,bits,tpx⟩:=t
 simp only at hk hw1 hb hl hiv h01 h0 h3 htn ⊢
 have hwd:wd≤4096:=by
  have:=Nat.mul_le_mul_left wd hht
  omega
 have hht2:ht≤4096:=by
  have:=Nat.mul_le_mul_right ht hw1
  omega
 have H:St W [] [] W:=St.nil W []
 have hpb:pb ∉ ([]:List Nat):=List.not_mem_nil
 have hcell:∀ i,i<px.length→W.cell? ⟨pb,po+i,none⟩=some (.int .u32 ((px.getD i 0:Nat):Int))∧px.getD i 0<2 ^ 32:=fun i hi => by
  have e:px.getD i 0=px[i]:=by simp [hi]
  rw [e]
  exact ⟨hr i hi,h32 _ (List.getElem_mem hi)⟩
 have hblk:kind≤1→∀ i,i<px.length→dS wd bits i<tpx.length:=fun h i hi => by
  rw [(h01 h).1]
  exact xB hw1 ω
 have htlen:=htn
 refine enter (m:=198) Tryz.func19 O Tryz.ntmps19 O (Cy (fM H (cs:=gW kind bits wd iv) O O O ?_))
 intro w b3 hn3 hb3 H
 refine bI O (Lt (Cy (bI O (Lt ?_))))
 replace H:=H.vec0 36 1
 have hT0:∀ {l:List e_} {w:World},St W [] (aA none 0 36 1 0 [] :: aa b3 (gW kind bits wd iv) 47 :: l) w→True:=fun _ => trivial
 refine Cs (Cy (aU gU O (aC a_ O (H.cell 1 (v:=iT kind) O O) (Lt ?_))))
 refine aH (fun ρ w' => ∃ a c rs,ρ 7=.slice a (k8 ht ⟨kind,wd,bits,tpx⟩ px).length c∧St W [] (aA a c 36 1 (k8 ht ⟨kind,wd,bits,tpx⟩ px).length (nums .u32 (k8 ht ⟨kind,wd,bits,tpx⟩ px)) :: rs) w') ?_ ?_
 case refine_2 =>
  clear H
  rintro ρ w5 ⟨a,c,rs,h7,H⟩
  refine Cy (bU η (gS O (Lt (Ct ?_))))
  obtain ⟨q1,q2,q3⟩:=D7 H
  exact ak O O ⟨a,c,O,q1,q2,q3⟩
 case refine_1 =>
 refine Cb ?_
 by_cases hk0:kind=0
 case pos =>
  subst hk0
  obtain ⟨ib,ic,rfl,hri⟩:=hiv δ
  have hst:∀ i,i<px.length→(List.range (i+1)).map (fun i => gR (px.getD i 0) (iU wd bits tpx (px.take i)))=(List.range i).map (fun i => gR (px.getD i 0) (iU wd bits tpx (px.take i)))++[gR (px.getD i 0) (iU wd bits tpx (px.take i))]:=fun i _ => jp _ i
  have hfw:k8 ht ⟨0,wd,bits,tpx⟩ px=(List.range px.length).map fun i => gR (px.getD i 0) (iU wd bits tpx (px.take i)):=by unfold k8;rw [if_pos rfl]
  rw [hfw]
  refine Cy (bF O O (cU O (Lt (CT O ω (Cy (bU O (bG aZ O (ai O (Lt (Cb ?_))))))))))
  refine Cl (fun mm ρ w' => ∃ i a c,i≤px.length∧mm=px.length - i∧ρ 1=.slice (some ⟨pb,po,none⟩) px.length pc∧ρ 3=pT b3∧ρ 7=.slice a i c∧ρ 31=.slice (some ⟨pb,po,none⟩) px.length pc∧ρ 32=iT px.length∧ρ 33=iT i ∧
    St W [] [aA a c 36 1 i (nums .u32 ((List.range i).map fun i => gR (px.getD i 0) (iU wd bits tpx (px.take i)))),aa b3 (gW 0 bits wd (.slice (aT ib) tpx.length ic)) 47] w') px.length
   ⟨0,none,0,ω,rfl,rfl,rfl,rfl,rfl,rfl,rfl,H⟩ ?_
  clear H
  rintro mm ρ w5 ⟨i,a,c,hi,hmm,r1,r3,r7,r31,r32,r33,H⟩
  refine Cy (bP r33 r32 (Lt ?_))
  by_cases hlt:i<px.length
  case neg =>
   obtain rfl:i=px.length:=ω
   refine Cs (CF O ω (Cx (ax (ax (br (aF (tn ?_)))))))
   exact ⟨a,c,_,by show ρ 7=_;rw [r7];simp,by simpa using H⟩
  obtain ⟨hc1,hp32⟩:=hcell i hlt
  have hbl:=hblk δ i hlt
  have hm14:pG (tpx.getD (dS wd bits i) 0)<14:=by
   have e:tpx.getD (dS wd bits i) 0=tpx[dS wd bits i]:=by simp [hbl]
   rw [e]
   exact h0 O _ (List.getElem_mem hbl)
  have hT32:tpx.getD (dS wd bits i) 0<2 ^ 32:=by
   have e:tpx.getD (dS wd bits i) 0=tpx[dS wd bits i]:=by simp [hbl]
   rw [e]
   exact (h01 δ).2 _ (List.getElem_mem hbl)
  have epart:aI (tpx.getD (dS wd bits i) 0) 8=pG (tpx.getD (dS wd bits i) 0):=rfl
  have epred:=A9 (b:=bits) (tpx:=tpx) hw1 hlt hm14
  have hps32:nH wd (pG (tpx.getD (dS wd bits i) 0)) px i<2 ^ 32:=by
   rw [← epred]
   exact Fl _ _ _ _ fun q hq => h32 q (List.mem_of_mem_take hq)
  refine Cs (CT O ω (Ck (tn (Cs (Cb (Cy (ai r33 (Lp (ci i aZ r31 r33 O hlt) (aC bD O (H.old hc1 hpb) (az O (az O (Lt ?_))))))))))))
  have hbk:ff w5 b3 (gW 0 bits wd (.slice (aT ib) tpx.length ic)) 47:=H.blk (i:=1) rfl
  refine iC (fun ρ w' => ∃ a' c',ρ 1=.slice (some ⟨pb,po,none⟩) px.length pc∧ρ 3=pT b3∧ρ 7=.slice a' (i+1) c'∧ρ 31=.slice (some ⟨pb,po,none⟩) px.length pc∧ρ 32=iT px.length∧ρ 33=iT i ∧
    St W [] [aA a' c' 36 1 (i+1) (nums .u32 ((List.range (i+1)).map fun i => gR (px.getD i 0) (iU wd bits tpx (px.take i)))),aa b3 (gW 0 bits wd (.slice (aT ib) tpx.length ic)) 47] w') ?_ ?_
  case refine_1 =>
   refine VC.held ((fun w' => ff w' b3 (gW 0 bits wd (.slice (aT ib) tpx.length ic)) 47)) aJ (by with_reducible repeat (first | refine fB ?_ | refine eP.blk ?_ | refine fy ?_ | refine dP ?_ | exact eP.done)) ?_
   intro w hsame
   replace H:=H.same hsame
   refine Ht 0 O κ κ κ O (H.blk (i:=1) O) (fun w hI => YS r7) (Ht 1 O κ κ κ O (H.blk (i:=1) O) (fun w hI => YI O) (Ht 2 O κ κ κ O (H.blk (i:=1) O) (fun w hI => YS r1) (Ht 3 O κ κ κ O (H.blk (i:=1) O) (fun w hI => iQ kF r3) (Ht 4 O κ κ κ O (H.blk (i:=1) O) (fun w hI => ef a_ O (hI.cellv (v:=iT wd) O)) (Ht 5 O κ κ κ O (H.blk (i:=1) O) (fun w hI => YI O) (Ht 6 O κ κ κ O (H.blk (i:=1) O) (fun w hI => fH (cs:=gW 0 bits wd (.slice (aT ib) tpx.length ic)) pf r3 O (fun j hj => by rw [Nat.zero_add];exact hI.cell j)) (Ht 7 O κ κ κ O (H.blk (i:=1) O) (fun w hI => YI O) (gA 8 O κ O z3 (q9 w 0 bits wd ib ic i tpx (hri.keep H.frm List.not_mem_nil) hw1 ω hb ω hbl ω) O ?_))))))))
   rintro e w ⟨he,hf⟩
   replace H:=H.quiet hf
   refine ⟨_,he,H.blk (i:=1) rfl,?_⟩
   refine gA 9 O κ O wU (qH w _ 8 hT32 δ) O ?_
   rintro e w ⟨he,rfl⟩
   refine ⟨_,he,H.blk (i:=1) rfl,?_⟩
   refine gA 10 O κ O F_ (x9 w pb po pc px wd i _ (hr.keep H.frm hpb) h32 hw1 hlt ω ω hm14) O ?_
   rintro e w ⟨he,hf⟩
   replace H:=H.quiet hf
   refine ⟨_,he,H.blk (i:=1) rfl,?_⟩
   refine gA 11 O κ O Gc (Bh w _ _ hp32 hps32) O ?_
   rintro e w ⟨he,rfl⟩
   refine ⟨_,he,H.blk (i:=1) rfl,?_⟩
   rw [← epred]
   refine HQ 12 κ (qK O H gj (nums .u32 [gR (px.getD i 0) (iU wd bits tpx (px.take i))]) O O δ δ κ ?_)
   intro w b12 hn12 _ H
   refine ⟨H.blk (i:=2) rfl,?_⟩
   refine HQ 13 κ (rn O H 1 gj δ O O O O (news:=nums .u32 [gR (px.getD i 0) (iU wd bits tpx (px.take i))]) O (fun j u hj => by rw [Nat.zero_add];exact H.cell 0 O hj) (fD _ _) (by simp only [maxLen];omega) ω ?_)
   intro a' c' w hfa H
   refine ⟨H.blk (i:=2) rfl,?_⟩
   replace H:St W [] [aA a' c' 36 1 (i+1) (nums .u32 ((List.range (i+1)).map fun i => gR (px.getD i 0) (iU wd bits tpx (px.take i)))),aa b3 (gW 0 bits wd (.slice (aT ib) tpx.length ic)) 47] w:=by rw [hst i hlt,dT];exact H.sub [1,2] rfl δ
   refine Ht 14 O κ κ κ O (H.blk (i:=1) O) (fun w hI => AS O) (g7 κ (aF (tn ?_)))
   exact ⟨a',c',r1,r3,O,r31,r32,r33,H⟩
  case refine_2 =>
  clear H r1 r3 r7 r31 r32 r33
  rintro ρ w6 ⟨a',c',r1,r3,r7,r31,r32,r33,H⟩
  refine Cr (ao (r:=((i+1:Nat):Int)) r33 O (ck (b:=1) ω) (ai O (Lt ?_)))
  exact ⟨px.length - (i+1),ω,i+1,a',c',ω,O,r1,r3,r7,r31,r32,O,H⟩
 refine Cy (bF O O (cU O (Lt (CF O ω (Cy (bF O O (cU O (Lt ?_))))))))
 by_cases hk1:kind=1
 case pos =>
  subst hk1
  obtain ⟨ib,ic,rfl,hri⟩:=hiv δ
  have hst:∀ i,i<px.length→(List.range (i+1)).map (fun i => iM (tpx.getD (dS wd bits i) 0) (px.getD i 0))=(List.range i).map (fun i => iM (tpx.getD (dS wd bits i) 0) (px.getD i 0))++[iM (tpx.getD (dS wd bits i) 0) (px.getD i 0)]:=fun i _ => jp _ i
  have hfw:k8 ht ⟨1,wd,bits,tpx⟩ px=(List.range px.length).map fun i => iM (tpx.getD (dS wd bits i) 0) (px.getD i 0):=by unfold k8;rw [if_neg (show ¬ (1:Nat)=0 by decide),if_pos rfl]
  rw [hfw]
  refine CT O ω (Cy (bU O (bG aZ O (ai O (Lt (Cb ?_))))))
  refine Cl (fun mm ρ w' => ∃ i a c,i≤px.length∧mm=px.length - i∧ρ 3=pT b3∧ρ 7=.slice a i c∧ρ 55=.slice (some ⟨pb,po,none⟩) px.length pc∧ρ 56=iT px.length∧ρ 57=iT i ∧
    St W [] [aA a c 36 1 i (nums .u32 ((List.range i).map fun i => iM (tpx.getD (dS wd bits i) 0) (px.getD i 0))),aa b3 (gW 1 bits wd (.slice (aT ib) tpx.length ic)) 47] w') px.length
   ⟨0,none,0,ω,rfl,rfl,rfl,rfl,rfl,rfl,H⟩ ?_
  clear H
  rintro mm ρ w5 ⟨i,a,c,hi,hmm,r3,r7,r55,r56,r57,H⟩
  refine Cy (bP r57 r56 (Lt ?_))
  by_cases hlt:i<px.length
  case neg =>
   obtain rfl:i=px.length:=ω
   refine Cs (CF O ω (Cx (ax (ax (br (aF (tn ?_)))))))
   exact ⟨a,c,_,by show ρ 7=_;rw [r7];simp,by simpa using H⟩
  obtain ⟨hc1,hp32⟩:=hcell i hlt
  have hbl:=hblk δ i hlt
  have hT32:tpx.getD (dS wd bits i) 0<2 ^ 32:=ft (h01 δ).2 _
  obtain ⟨m,hm⟩:∃ m,m=tpx.getD (dS wd bits i) 0:=⟨_,rfl⟩
  obtain ⟨p,hp⟩:∃ p,p=px.getD i 0:=⟨_,rfl⟩
  have hsti:=hst i hlt
  rw [← hp,← hm] at hsti
  rw [← hp] at hc1 hp32
  rw [← hm] at hT32
  obtain ⟨a1,a2,a3,a4⟩:=bX p
  have d1:=mD (pB m) (pG p)
  have d2:=mD (pG m) (pG p)
  have d3:=mD (pR m) (pR p)
  have sB:=Lb (bX m).2.2.2 a3
  have sG:=Lb (bX m).2.2.1 a3
  have sR:=Lb (bX m).2.1 a2
  refine Cs (CT O ω (Ck (tn (Cs (Cb (Cy (ai r57 (Lp (ci i aZ r55 r57 O hlt) (aC bD O (H.old hc1 hpb) (az O (az O (Lt (Cy (Lp (fH (cs:=gW 1 bits wd (.slice (aT ib) tpx.length ic)) pf r3 O (fun j hj => by rw [Nat.zero_add];exact (H.blk (i:=1) O).cell j)) (ai O (aS O z3 (q9 w5 1 bits wd ib ic i tpx (hri.keep H.frm List.not_mem_nil) hw1 ω hb ω hbl ω) O ?_))))))))))))))))
  rintro e w ⟨he,hf⟩
  replace H:=H.quiet hf
  rw [← hm] at he
  refine ⟨_,he,?_⟩
  refine ai O (b_ p 8 hp32 δ O O O (ai O (b_ p 16 hp32 δ O O O (az O (az O (az O (Lt (Cr (bU r7 (ai O (b_ p 24 hp32 δ O O O (ai O (ai O (b_ m 0 hT32 δ O O O (ai O (bZ O uD (np _ (aI m 0) (aI p 8) (bz _ _) (bz _ _)) O (bw (r:=((pR p:Nat):Int) - sg (pB m) * sg (pG p) / 32) (show _=Value.int .i64 ((pR p:Nat):Int) from O) (show _=Value.int .i64 (sg (pB m) * sg (pG p) / 32) by show Value.int .i64 (sg (aI m 0) * sg (aI p 8) / 32)=_;rw [uR];rfl) (fg ω) (ai O ?_))))))))))))))))))
  refine ai O (b_ p 0 hp32 δ O O O (ai O (b_ m 8 hT32 δ O O O (ai O (bZ O uD (np _ (aI m 8) (aI p 8) (bz _ _) (bz _ _)) O (bw (r:=((pB p:Nat):Int) - sg (pG m) * sg (pG p) / 32) (show _=Value.int .i64 ((pB p:Nat):Int) by show Value.int .i64 ((aI p 0:Nat):Int)=_;rw [uR]) (show _=Value.int .i64 (sg (pG m) * sg (pG p) / 32) from O) (fg ω) (ai O (b_ m 16 hT32 δ O O O (ai O (bZ O uD (np _ (aI m 16) (aI p 16) (bz _ _) (bz _ _)) O (bw (r:=((pB p:Nat):Int) - sg (pG m) * sg (pG p) / 32 - sg (pR m) * sg (pR p) / 32) O (show _=Value.int .i64 (sg (pR m) * sg (pR p) / 32) from O) (fg ω) (jr (pA p) ((pR p+256 - dA (pB m) (pG p)) % 256) (pG p) ((pB p+512 - dA (pG m) (pG p) - dA (pR m) (pR p)) % 256) (i:=((pA p:Nat):Int)) (j:=((pR p:Nat):Int) - sg (pB m) * sg (pG p) / 32) (k:=((pG p:Nat):Int)) (l:=((pB p:Nat):Int) - sg (pG m) * sg (pG p) / 32 - sg (pR m) * sg (pR p) / 32) ω (JV d1 (mB _ _)) ω (KU d2 d3 (mB _ _) (mB _ _)) O O O O O (cH H gj (nums .u32 [iM m p]) O O δ δ κ ?_)))))))))))))
  intro w b12 hn12 hb12 H
  refine dH H 1 gj δ O O O O (news:=nums .u32 [iM m p]) O (fun j u hj => by rw [Nat.zero_add];exact H.cell 0 O hj) (fD _ _) (by simp only [maxLen];omega) ω ?_
  intro a' c' w hfa H
  replace H:St W [] [aA a' c' 36 1 (i+1) (nums .u32 ((List.range (i+1)).map fun i => iM (tpx.getD (dS wd bits i) 0) (px.getD i 0))),aa b3 (gW 1 bits wd (.slice (aT ib) tpx.length ic)) 47] w:=by rw [hsti,dT];exact H.sub [1,2] rfl δ
  refine gS O (Ln (aF (tn (Cr (ao (r:=((i+1:Nat):Int)) r57 O (ck (b:=1) ω) (ai O (Lt ?_)))))))
  exact ⟨px.length - (i+1),ω,i+1,a',c',ω,O,r3,O,r55,r56,O,H⟩
 refine CF O ω (Cy (bF O O (cU O (Lt ?_))))
 by_cases hk2:kind=2
 case pos =>
  subst hk2
  have hst:∀ i,i<px.length→(List.range (i+1)).map (fun i => iK (px.getD i 0))=(List.range i).map (fun i => iK (px.getD i 0))++[iK (px.getD i 0)]:=fun i _ => jp _ i
  have hfw:k8 ht ⟨2,wd,bits,tpx⟩ px=(List.range px.length).map fun i => iK (px.getD i 0):=by unfold k8;rw [if_neg (show ¬ (2:Nat)=0 by decide),if_neg (show ¬ (2:Nat)=1 by decide),if_pos rfl]
  rw [hfw]
  refine CT O ω (Cy (bU O (bG aZ O (ai O (Lt (Cb ?_))))))
  refine Cl (fun mm ρ w' => ∃ i a c,i≤px.length∧mm=px.length - i∧ρ 7=.slice a i c∧ρ 97=.slice (some ⟨pb,po,none⟩) px.length pc∧ρ 98=iT px.length∧ρ 99=iT i ∧
    St W [] [aA a c 36 1 i (nums .u32 ((List.range i).map fun i => iK (px.getD i 0))),aa b3 (gW 2 bits wd iv) 47] w') px.length
   ⟨0,none,0,ω,rfl,rfl,rfl,rfl,rfl,H⟩ ?_
  clear H
  rintro mm ρ w5 ⟨i,a,c,hi,hmm,r7,r97,r98,r99,H⟩
  refine Cy (bP r99 r98 (Lt ?_))
  by_cases hlt:i<px.length
  case neg =>
   obtain rfl:i=px.length:=ω
   refine Cs (CF O ω (Cx (ax (ax (br (aF (tn ?_)))))))
   exact ⟨a,c,_,by show ρ 7=_;rw [r7];simp,by simpa using H⟩
  obtain ⟨hc1,hp32⟩:=hcell i hlt
  obtain ⟨p,hp⟩:∃ p,p=px.getD i 0:=⟨_,rfl⟩
  have hsti:=hst i hlt
  rw [← hp] at hsti hc1 hp32
  obtain ⟨a1,a2,a3,a4⟩:=bX p
  refine Cs (CT O ω (Ck (tn (Cs (Cb (Cy (Lp (ci i aZ r97 r99 O hlt) (aC bD O (H.old hc1 hpb) (az O (Lt (Cy (ai O (b_ p 8 hp32 δ O O O (az O (Lt ?_)))))))))))))))
  refine Cr (bU r7 (ai O (b_ p 24 hp32 δ O O O (ai O (b_ p 16 hp32 δ O O O (ai O (bw (r:=((pR p:Nat):Int) - ((pG p:Nat):Int)) (show _=Value.int .i64 ((pR p:Nat):Int) from O) (show _=Value.int .i64 ((pG p:Nat):Int) from O) (fg ω) (ai O (ai O (b_ p 0 hp32 δ O O O (ai O (bw (r:=((pB p:Nat):Int) - ((pG p:Nat):Int)) (show _=Value.int .i64 ((pB p:Nat):Int) by show Value.int .i64 ((aI p 0:Nat):Int)=_;rw [uR]) (show _=Value.int .i64 ((pG p:Nat):Int) from O) (fg ω) (jr (pA p) ((pR p+256 - pG p) % 256) (pG p) ((pB p+256 - pG p) % 256) (i:=((pA p:Nat):Int)) (j:=((pR p:Nat):Int) - ((pG p:Nat):Int)) (k:=((pG p:Nat):Int)) (l:=((pB p:Nat):Int) - ((pG p:Nat):Int)) ω ω ω ω O O O O O (cH H gj (nums .u32 [iK p]) O O δ δ κ ?_))))))))))))))
  intro w b12 hn12 hb12 H
  refine dH H 1 gj δ O O O O (news:=nums .u32 [iK p]) O (fun j u hj => by rw [Nat.zero_add];exact H.cell 0 O hj) (fD _ _) (by simp only [maxLen];omega) ω ?_
  intro a' c' w hfa H
  replace H:St W [] [aA a' c' 36 1 (i+1) (nums .u32 ((List.range (i+1)).map fun i => iK (px.getD i 0))),aa b3 (gW 2 bits wd iv) 47] w:=by rw [hsti,dT];exact H.sub [1,2] rfl δ
  refine gS O (Ln (aF (tn (Cr (ao (r:=((i+1:Nat):Int)) r99 O (ck (b:=1) ω) (ai O (Lt ?_)))))))
  exact ⟨px.length - (i+1),ω,i+1,a',c',ω,O,O,r97,r98,O,H⟩
 obtain rfl:kind=3:=ω
 obtain ⟨ib,ic,rfl,hri⟩:=hiv δ
 obtain ⟨⟨hp1,hp2,hp3⟩,hnd⟩:=h3 rfl
 simp only at hp1 hp2 hp3
 have hb3:bits≤3:=by rw [hp2];unfold b0;split;omega;split;omega;split <;> omega
 have hpow:2 ^ bits≤2 ^ 3:=Nat.pow_le_pow_right ω hb3
 have hpow1:1≤2 ^ bits:=Nat.two_pow_pos _
 have heach:=zm hb3
 have heach8:8 / 2 ^ bits≤8:=Nat.div_le_self _ _
 have htl:=cu (b:=bits) hw1
 have hroom:=s6 hp1
 rw [← hp2] at hroom
 have hfw:k8 ht ⟨3,wd,bits,tpx⟩ px=(List.range (ht * aq wd bits)).map (j9 wd bits tpx px):=by unfold k8;rw [if_neg (show ¬ (3:Nat)=0 by decide),if_neg (show ¬ (3:Nat)=1 by decide),if_neg (show ¬ (3:Nat)=2 by decide)]
 rw [hfw]
 obtain ⟨sw,hsw⟩:∃ sw,sw=aq wd bits:=⟨_,rfl⟩
 rw [← hsw] at htl ⊢
 refine CF O ω (Cy (bF O O (cU O (Lt (CT O ω (Cy (oU .u32 H O ?_)))))))
 intro w mb hnm hbm H
 refine bI O (Lt (Cs (Cy (aU iP O (aC gw O (H.cell 2 (v:=.slice (aT ib) tpx.length ic) O O) (bG aZ O (ai O (Lt ?_))))))))
 refine aH (fun ρ w' => ρ 1=.slice (some ⟨pb,po,none⟩) px.length pc∧ρ 2=iT ht∧ρ 3=pT b3∧ρ 7=.slice none 0 0∧ρ 18=.map (some mb) ∧
   St W [] [aA none 0 36 1 0 [],fx .u32 mb (sN tpx),aa b3 (gW 3 bits wd (.slice (aT ib) tpx.length ic)) 47] w') ?_ ?_
 case refine_1 =>
  refine Cb ?_
  refine Cl (fun mm ρ w' => ∃ i,i≤tpx.length∧mm=tpx.length - i∧ρ 1=.slice (some ⟨pb,po,none⟩) px.length pc∧ρ 2=iT ht∧ρ 3=pT b3∧ρ 7=.slice none 0 0∧ρ 18=.map (some mb)∧ρ 125=.slice (aT ib) tpx.length ic∧ρ 126=iT tpx.length∧ρ 127=iT i ∧
    St W [] [aA none 0 36 1 0 [],fx .u32 mb (sN (tpx.take i)),aa b3 (gW 3 bits wd (.slice (aT ib) tpx.length ic)) 47] w') tpx.length
   ⟨0,ω,rfl,rfl,rfl,rfl,rfl,rfl,rfl,rfl,rfl,H.sub [1,0,2] rfl δ⟩ ?_
  clear H
  rintro mm ρ w5 ⟨i,hi,hmm,r1,r2,r3,r7,r18,r125,r126,r127,H⟩
  refine Cy (bP r127 r126 (Lt ?_))
  by_cases hlt:i<tpx.length
  case neg =>
   obtain rfl:i=tpx.length:=ω
   refine Cs (CF O ω (Cx (ax (ax (br (tn ?_))))))
   rw [List.take_length] at H
   exact ⟨r1,r2,r3,r7,r18,H⟩
  have hcl:=hri i hlt
  obtain ⟨q,hq⟩:∃ q,q=tpx[i]:=⟨_,rfl⟩
  rw [← hq,Nat.zero_add] at hcl
  have hnew:q ∉ tpx.take i:=by
   rw [hq]
   intro hm
   obtain ⟨j,hj,e⟩:=List.mem_iff_getElem.1 hm
   rw [List.getElem_take] at e
   simp only [List.length_take] at hj
   have:=(List.getElem_inj hnd).1 e
   omega
  have etk:tpx.take (i+1)=tpx.take i++[q]:=by rw [List.take_succ_eq_append_getElem hlt,← hq]
  refine Cs (CT O ω (Ck (tn (Cs (Cb (Cy (ai r127 (Lp (bO i aZ r125 r127 O hlt) (aC bD O (H.old hcl List.not_mem_nil) (az O (az O (Lt (Cr (db r18 (ai O (ai O (kH (v:=iT i) 1 H Gb O O O O ?_)))))))))))))))))
  intro w H
  have hti:(tpx.take i).length=i:=by rw [List.length_take];omega
  replace H:St W [] [aA none 0 36 1 0 [],fx .u32 mb (sN (tpx.take (i+1))),aa b3 (gW 3 bits wd (.slice (aT ib) tpx.length ic)) 47] w:=by rw [etk,← HJ hnew,hti];exact H
  refine Ln (aF (tn (Cr (ao (r:=((i+1:Nat):Int)) r127 O (ck (b:=1) ω) (ai O (Lt ?_))))))
  exact ⟨tpx.length - (i+1),ω,i+1,ω,O,r1,r2,r3,r7,r18,r125,r126,O,H⟩
 case refine_2 =>
 clear H
 rintro ρ w5 ⟨r1,r2,r3,r7,r18,H⟩
 refine Cs (Cd aJ κ ?_)
 intro w hsame
 replace H:=H.same hsame
 refine dD kF r3 (aD a_ O (H.cell 2 (v:=iT wd) O O) (dD eV r3 (aD a_ O (H.cell 2 (v:=iT bits) O O) (bJ O ke (eN _ wd bits ω hb) O (dD eV r3 (aD a_ O (H.cell 2 (v:=iT bits) O O) (Sp (d6 (r:=((8 / 2 ^ bits:Nat):Int)) O O ω (jd (a:=8) (k:=.i64) (by show _≤(64:Nat);omega))) (oZ O (oZ O (Sn (tn ?_)))))))))))
 rw [← hsw]
 obtain ⟨ea,hea⟩:∃ ea,ea=8 / 2 ^ bits:=⟨_,rfl⟩
 rw [← hea] at heach heach8 hroom ⊢
 refine Cy (ai r2 (ai O (Lt (Cb ?_))))
 refine Cl (fun mm ρ w' => ∃ y a c,y≤ht∧mm=ht - y∧ρ 1=.slice (some ⟨pb,po,none⟩) px.length pc∧ρ 3=pT b3∧ρ 7=.slice a (y * sw) c∧ρ 18=.map (some mb)∧ρ 21=iT sw∧ρ 22=iT ea∧ρ 144=iT ht∧ρ 145=iT y ∧
   St W [] [aA a c 36 1 (y * sw) (nums .u32 ((List.range (y * sw)).map (j9 wd bits tpx px))),fx .u32 mb (sN tpx),aa b3 (gW 3 bits wd (.slice (aT ib) tpx.length ic)) 47] w') ht
  ⟨0,none,0,ω,rfl,r1,r3,by rw [Nat.zero_mul];exact r7,r18,rfl,rfl,rfl,rfl,by rw [Nat.zero_mul];exact H⟩ ?_
 clear H r1 r2 r3 r7 r18
 rintro mm ρ w6 ⟨y,a,c,hy,hmm,r1,r3,r7,r18,r21,r22,r144,r145,H⟩
 refine Cy (bP r145 r144 (Lt ?_))
 by_cases hlt:y<ht
 case neg =>
  obtain rfl:y=ht:=ω
  refine Cs (CF O ω (Cx (ax (ax (br (aF (tn ?_)))))))
  exact ⟨a,c,_,by show ρ 7=_;rw [r7];simp,by simpa using H⟩
 have hyw:y * wd≤4096 * 4096:=Nat.mul_le_mul ω hwd
 have hysw:y * sw≤4096 * 4096:=Nat.mul_le_mul ω ω
 have hrow:y * wd+wd≤px.length:=by
  have:=Nat.mul_le_mul_right wd (show y+1≤ht from hlt)
  rw [Nat.succ_mul,Nat.mul_comm ht] at this
  omega
 have hysw2:y * sw+sw≤4096:=by
  have:=Nat.mul_le_mul_left y htl.2
  omega
 refine Cs (CT O ω (Ck (tn (Cs (Cb (Cy (ai r145 (az O (Lt (Cy (ai r21 (ai O (Lt ?_)))))))))))))
 refine iC (fun ρ w' => ∃ a c,ρ 1=.slice (some ⟨pb,po,none⟩) px.length pc∧ρ 3=pT b3∧ρ 7=.slice a ((y+1) * sw) c∧ρ 18=.map (some mb)∧ρ 21=iT sw∧ρ 22=iT ea∧ρ 144=iT ht∧ρ 145=iT y ∧
   St W [] [aA a c 36 1 ((y+1) * sw) (nums .u32 ((List.range ((y+1) * sw)).map (j9 wd bits tpx px))),fx .u32 mb (sN tpx),aa b3 (gW 3 bits wd (.slice (aT ib) tpx.length ic)) 47] w') ?_ ?_
 case refine_2 =>
  clear H r1 r3 r7 r18 r21 r22 r144 r145
  rintro ρ w7 ⟨a,c,r1,r3,r7,r18,r21,r22,r144,r145,H⟩
  refine Cr (ao (r:=((y+1:Nat):Int)) r145 O (ck (b:=1) ω) (ai O (Lt ?_)))
  exact ⟨ht - (y+1),ω,y+1,a,c,ω,O,r1,r3,r7,r18,r21,r22,r144,O,H⟩
 case refine_1 =>
 refine Cb ?_
 refine Cl (fun mm ρ w' => ∃ x a c,x≤sw∧mm=sw - x∧ρ 1=.slice (some ⟨pb,po,none⟩) px.length pc∧ρ 3=pT b3∧ρ 7=.slice a (y * sw+x) c∧ρ 18=.map (some mb)∧ρ 21=iT sw∧ρ 22=iT ea∧ρ 23=iT y∧ρ 144=iT ht∧ρ 145=iT y∧ρ 148=iT sw∧ρ 149=iT x ∧
   St W [] [aA a c 36 1 (y * sw+x) (nums .u32 ((List.range (y * sw+x)).map (j9 wd bits tpx px))),fx .u32 mb (sN tpx),aa b3 (gW 3 bits wd (.slice (aT ib) tpx.length ic)) 47] w') sw
  ⟨0,a,c,ω,rfl,r1,r3,r7,r18,r21,r22,rfl,r144,r145,rfl,rfl,H⟩ ?_
 clear H r1 r3 r7 r18 r21 r22 r144 r145
 rintro mm2 ρ w7 ⟨x,a,c,hx,hmm2,r1,r3,r7,r18,r21,r22,r23,r144,r145,r148,r149,H⟩
 refine Cy (bP r149 r148 (Lt ?_))
 by_cases hxl:x<sw
 case neg =>
  obtain rfl:x=sw:=ω
  refine Cs (CF O ω (Cx (ax (ax (br (aF (tn ?_)))))))
  exact ⟨a,c,r1,r3,by rw [Nat.succ_mul];exact r7,r18,r21,r22,r144,r145,by rw [Nat.succ_mul];exact H⟩
 have hdiv:(y * sw+x) / sw=y:=by rw [Nat.mul_comm,Nat.mul_add_div ω,Nat.div_eq_of_lt hxl,Nat.add_zero]
 have hmod:(y * sw+x) % sw=x:=by rw [Nat.mul_comm,Nat.mul_add_mod,Nat.mod_eq_of_lt hxl]
 have hxb:x * 2 ^ bits≤4096 * 8:=Nat.mul_le_mul ω ω
 have hpk:∀ k,iq wd bits tpx px (y * sw+x) k=if x * 2 ^ bits+k<wd then t_ tpx (px.getD (y * wd+x * 2 ^ bits+k) 0) else 0:=fun k => by
  unfold iq
  rw [← hsw,hdiv,hmod]
 have hin:∀ k,x * 2 ^ bits+k<wd→px.getD (y * wd+x * 2 ^ bits+k) 0 ∈ tpx:=fun k hk => by
  have hlt2:y * wd+x * 2 ^ bits+k<px.length:=ω
  have e:px.getD (y * wd+x * 2 ^ bits+k) 0=px[y * wd+x * 2 ^ bits+k]:=by simp [hlt2]
  rw [e]
  exact hp3 _ (List.getElem_mem hlt2)
 have hpklt:∀ k,iq wd bits tpx px (y * sw+x) k<2 ^ ea:=fun k => by
  rw [hpk]
  split
  ·rename_i h
   exact Nat.lt_of_lt_of_le (tY (hin k h)) hroom
  ·exact Nat.two_pow_pos _
 refine Cs (CT O ω (Ck (tn (Cs (Cb (Cy (ai r149 (az O (Lt (Cy (az O (Lt (Cs (Cy (aU eV r3 ?_)))))))))))))))
 refine aC a_ O (H.cell 2 (v:=iT bits) O O) (Lp (ed (r:=((2 ^ bits:Nat):Int)) O O ω (by show IntKind.i64.wrap (((1:Nat):Int) * _)=_;rw [x7 ⟨ω,ω⟩,Nat.one_mul])) (ai O (Lt ?_)))
 refine aH (fun ρ w' => ρ 1=.slice (some ⟨pb,po,none⟩) px.length pc∧ρ 3=pT b3∧ρ 7=.slice a (y * sw+x) c∧ρ 18=.map (some mb)∧ρ 21=iT sw∧ρ 22=iT ea∧ρ 23=iT y∧ρ 25=iT (kG ea (iq wd bits tpx px (y * sw+x)) (2 ^ bits))∧ρ 144=iT ht∧ρ 145=iT y∧ρ 148=iT sw∧ρ 149=iT x ∧
   St W [] [aA a c 36 1 (y * sw+x) (nums .u32 ((List.range (y * sw+x)).map (j9 wd bits tpx px))),fx .u32 mb (sN tpx),aa b3 (gW 3 bits wd (.slice (aT ib) tpx.length ic)) 47] w') ?_ ?_
 case refine_1 =>
  refine Cb ?_
  refine Cl (fun mm ρ w' => ∃ k,k≤2 ^ bits∧mm=2 ^ bits - k∧ρ 1=.slice (some ⟨pb,po,none⟩) px.length pc∧ρ 3=pT b3∧ρ 7=.slice a (y * sw+x) c∧ρ 18=.map (some mb)∧ρ 21=iT sw∧ρ 22=iT ea∧ρ 23=iT y∧ρ 24=iT x∧ρ 25=iT (kG ea (iq wd bits tpx px (y * sw+x)) k)∧ρ 144=iT ht∧ρ 145=iT y∧ρ 148=iT sw∧ρ 149=iT x∧ρ 154=iT (2 ^ bits)∧ρ 155=iT k ∧
    St W [] [aA a c 36 1 (y * sw+x) (nums .u32 ((List.range (y * sw+x)).map (j9 wd bits tpx px))),fx .u32 mb (sN tpx),aa b3 (gW 3 bits wd (.slice (aT ib) tpx.length ic)) 47] w') (2 ^ bits)
   ⟨0,ω,rfl,r1,r3,r7,r18,r21,r22,r23,rfl,rfl,r144,r145,r148,r149,rfl,rfl,H⟩ ?_
  clear H r1 r3 r7 r18 r21 r22 r23 r144 r145 r148 r149
  rintro mm3 ρ w8 ⟨k,hk8,hmm3,r1,r3,r7,r18,r21,r22,r23,r24,r25,r144,r145,r148,r149,r154,r155,H⟩
  refine Cy (bP r155 r154 (Lt ?_))
  by_cases hkl:k<2 ^ bits
  case neg =>
   obtain rfl:k=2 ^ bits:=ω
   refine Cs (CF O ω (Cx (ax (ax (br (tn ?_))))))
   exact ⟨r1,r3,r7,r18,r21,r22,r23,r25,r144,r145,r148,r149,H⟩
  have hek:ea * k≤8:=by
   have:=Nat.mul_le_mul_left ea (show k≤2 ^ bits from hk8)
   omega
  have hek2:ea * (k+1)≤8:=by
   have:=Nat.mul_le_mul_left ea (show k+1≤2 ^ bits from hkl)
   omega
  have hacc:=ox (e:=ea) (f:=iq wd bits tpx px (y * sw+x)) k (fun j _ => hpklt j)
  have hacc2:=ox (e:=ea) (f:=iq wd bits tpx px (y * sw+x)) (k+1) (fun j _ => hpklt j)
  have hp8:2 ^ (ea * k)≤2 ^ 8:=Nat.pow_le_pow_right ω hek
  have hp9:2 ^ (ea * (k+1))≤2 ^ 8:=Nat.pow_le_pow_right ω hek2
  have esucc:kG ea (iq wd bits tpx px (y * sw+x)) (k+1)=kG ea (iq wd bits tpx px (y * sw+x)) k+iq wd bits tpx px (y * sw+x) k * 2 ^ (ea * k):=rfl
  have eor:kG ea (iq wd bits tpx px (y * sw+x)) k ||| iq wd bits tpx px (y * sw+x) k * 2 ^ (ea * k)=kG ea (iq wd bits tpx px (y * sw+x)) (k+1):=by
   rw [esucc,Nat.or_comm,Nat.mul_comm _ (2 ^ (ea * k)),← Nat.two_pow_add_eq_or_of_lt hacc,Nat.add_comm]
  refine Cs (CT O ω (Ck (tn (Cs (Cb (Cy (ai r155 (az O (Lt ?_)))))))))
  by_cases hin2:x * 2 ^ bits+k<wd
  case neg =>
   refine Cs (Cd aJ κ ?_)
   intro w hsame
   replace H:=H.same hsame
   refine bW r24 (dD eV r3 (aD a_ O (H.cell 2 (v:=iT bits) O O) (Sp (ed (r:=((x * 2 ^ bits:Nat):Int)) O O ω (x7 ⟨ω,ω⟩)) (bW O (aG (r:=((x * 2 ^ bits+k:Nat):Int)) O O (ck ω) (dD kF r3 (aD a_ O (H.cell 2 (v:=iT wd) O O) (Sp (AZ O O) (Sn (tn (CF O ω (Ck (aF (tn (Cr (ao (r:=((k+1:Nat):Int)) r155 O (ck (b:=1) ω) (ai O (Lt ?_))))))))))))))))))
   have e0:iq wd bits tpx px (y * sw+x) k=0:=by rw [hpk,if_neg hin2]
   exact ⟨2 ^ bits - (k+1),ω,k+1,ω,O,r1,r3,r7,r18,r21,r22,r23,r24,by rw [esucc,e0,Nat.zero_mul];exact r25,r144,r145,r148,r149,r154,O,H⟩
  have hat:y * wd+x * 2 ^ bits+k<px.length:=ω
  obtain ⟨hc1,hq32⟩:=hcell _ hat
  obtain ⟨q,hq⟩:∃ q,q=px.getD (y * wd+x * 2 ^ bits+k) 0:=⟨_,rfl⟩
  have hqi:=hin k hin2
  have eF:iq wd bits tpx px (y * sw+x) k=t_ tpx q:=by rw [hpk,if_pos hin2,← hq]
  rw [← hq] at hc1 hq32 hqi
  have elook:(sN tpx (q:Nat)).getD (.int .i64 0)=(iT (t_ tpx q)):=Gm hqi
  have hidx:=tY hqi
  have hmul:iq wd bits tpx px (y * sw+x) k * 2 ^ (ea * k)≤256 * 256:=Nat.mul_le_mul ω ω
  refine Cs (Cd aJ κ ?_)
  intro w hsame
  replace H:=H.same hsame
  refine bW r24 (dD eV r3 (aD a_ O (H.cell 2 (v:=iT bits) O O) (Sp (ed (r:=((x * 2 ^ bits:Nat):Int)) O O ω (x7 ⟨ω,ω⟩)) (bW O (aG (r:=((x * 2 ^ bits+k:Nat):Int)) O O (ck ω) (dD kF r3 (aD a_ O (H.cell 2 (v:=iT wd) O O) (Sp (AZ O O) (Sn (tn (CT O ω (Cd aJ κ ?_))))))))))))
  intro w hsame
  replace H:=H.same hsame
  refine bW r25 (Mw r18 (cF r1 (bW r23 (dD kF r3 (aD a_ O (H.cell 2 (v:=iT wd) O O) (Sp (cX (r:=((y * wd:Nat):Int)) O O (pK ω)) (bW r24 (dD eV r3 (aD a_ O (H.cell 2 (v:=iT bits) O O) (Sp (ed (r:=((x * 2 ^ bits:Nat):Int)) O O ω (x7 ⟨ω,ω⟩)) (aG (r:=((y * wd+x * 2 ^ bits:Nat):Int)) O O (ck ω) (bW O (aG (r:=((y * wd+x * 2 ^ bits+k:Nat):Int)) O O (ck ω) (Sp (ci (y * wd+x * 2 ^ bits+k) aZ O O O hat) (aD bD O (H.old hc1 hpb) (Sp (oK 1 H Gb O O O elook) (bW r22 (bW O (Sp (cX (r:=((ea * k:Nat):Int)) O O (pK ω)) ?_)))))))))))))))))))
  refine Sp (ed (r:=((iq wd bits tpx px (y * sw+x) k * 2 ^ (ea * k):Nat):Int)) O O ω (by rw [← eF];exact x7 ⟨ω,ω⟩)) (Sp (sH (r:=((kG ea (iq wd bits tpx px (y * sw+x)) (k+1):Nat):Int)) O O (by rw [← eor];exact Mc ⟨ω,ω⟩)) (oZ O (Sn (aF (tn (Cr (ao (r:=((k+1:Nat):Int)) r155 O (ck (b:=1) ω) (ai O (Lt ?_)))))))))
  exact ⟨2 ^ bits - (k+1),ω,k+1,ω,O,r1,r3,r7,r18,r21,r22,r23,r24,O,r144,r145,r148,r149,r154,O,H⟩
 case refine_2 =>
 clear H r1 r3 r7 r18 r21 r22 r23 r144 r145 r148 r149
 rintro ρ w8 ⟨r1,r3,r7,r18,r21,r22,r23,r25,r144,r145,r148,r149,H⟩
 have hall:=ox (e:=ea) (f:=iq wd bits tpx px (y * sw+x)) (2 ^ bits) (fun j _ => hpklt j)
 rw [heach] at hall
 have epx:j9 wd bits tpx px (y * sw+x)=fQ 255 0 (kG ea (iq wd bits tpx px (y * sw+x)) (2 ^ bits)) 0:=by unfold j9;rw [← hea]
 obtain ⟨nn,hnn⟩:∃ nn,nn=kG ea (iq wd bits tpx px (y * sw+x)) (2 ^ bits):=⟨_,rfl⟩
 rw [← hnn] at r25 hall epx
 refine Cr (bU r7 (ai r25 (jr 255 0 nn 0 (i:=((255:Nat):Int)) (j:=((0:Nat):Int)) (k:=((nn:Nat):Int)) (l:=((0:Nat):Int)) ω ω ω ω O O O O O ?_)))
 rw [← epx]
 refine cH H gj (nums .u32 [j9 wd bits tpx px (y * sw+x)]) O O δ δ κ ?_
 intro w b12 hn12 hb12 H
 refine dH H 1 gj δ O O O O (news:=nums .u32 [j9 wd bits tpx px (y * sw+x)]) O (fun j u hj => by rw [Nat.zero_add];exact H.cell 0 O hj) (fD _ _) (by simp only [maxLen];omega) ω ?_
 intro a' c' w hfa H
 replace H:St W [] [aA a' c' 36 1 (y * sw+(x+1)) (nums .u32 ((List.range (y * sw+(x+1))).map (j9 wd bits tpx px))),fx .u32 mb (sN tpx),aa b3 (gW 3 bits wd (.slice (aT ib) tpx.length ic)) 47] w:=by rw [← Nat.add_assoc,jp,dT];exact H.sub [1,2,3] rfl δ
 refine gS O (Ln (aF (tn (Cr (ao (r:=((x+1:Nat):Int)) r149 O (ck (b:=1) ω) (ai O (Lt ?_)))))))
 exact ⟨sw - (x+1),ω,x+1,a',c',ω,O,r1,r3,by rw [← Nat.add_assoc];rfl,r18,r21,r22,r23,r144,r145,r148,O,H⟩
end Go.Proofs.YtmgemcffhbnpfaaGreatDoor
set_option maxHeartbeats 1000000
namespace Go.Proofs.YtmgemcffhbnpfaaGreatDoor
open Go
theorem CW (h k w:Nat) (l:List Tr):d7 (kQ h (k+1) w l) (aV 0 1) (l,w) :=
 fU (cJ (n:=0) (k:=1) δ) (by rw [if_pos rfl];exact d7.ret _)
theorem Bc {h k w:Nat} {l:List Tr} {t:Tr} {X Z:aM} {v:List Tr × Nat} (hd:d7 (rU w h) X (t,i0 t)) (hn:cM l t.kind=false) (hz:d7 (kQ h k (i0 t) (l++[t])) Z v) :
  d7 (kQ h (k+1) w l) (aV 1 1++(X++Z)) v:=by
 refine (cJ (n:=1) (k:=1) δ).pb ?_
 rw [if_neg δ]
 refine hd.pb ?_
 rw [if_neg (show ¬ l.any (·.kind=t.kind)=true by unfold cM at hn;rw [hn];simp)]
 exact hz
def qD (wd ht a:Nat):aM:=aV 47 8++aV (wd - 1) 14++aV (ht - 1) 14++aV a 1++aV 0 3
theorem zT {wd ht a:Nat} (hw:1≤wd) (hw2:wd≤16384) (hh:1≤ht) (hh2:ht≤16384) (ha:a<2):d7 l5 (qD wd ht a) (wd,ht):=by
 unfold qD l5
 rw [List.append_assoc,List.append_assoc,List.append_assoc]
 refine (cJ (n:=47) (k:=8) δ).pb ?_
 rw [if_neg δ]
 refine (cJ (show wd - 1<2 ^ 14 by omega)).pb ((cJ (show ht - 1<2 ^ 14 by omega)).pb ((cJ (show a<2 ^ 1 by omega)).pb (fU (cJ (n:=0) (k:=3) δ) ?_)))
 rw [if_neg δ,show wd - 1+1=wd by omega,show ht - 1+1=ht by omega]
 exact d7.ret _
theorem Ak {wd ht a nw:Nat} {l:List Tr} {px:List Nat} {Xt Z:aM} (hw:1≤wd) (hw2:wd≤16384) (hh:1≤ht) (hh2:ht≤16384) (ha:a<2) (ht':d7 (kQ ht 5 wd []) Xt (l,nw)) (hz:d7 (gT true nw ht) Z px) :
  d7 iS (qD wd ht a++(Xt++Z)) (wd,ht,ge ht l px):=by
 refine (zT hw hw2 hh hh2 ha).pb (ht'.pb ?_)
 exact fU hz (d7.ret _)
theorem ti (h:Nat) (l:List Tr) (t:Tr) (px:List Nat):ge h (l++[t]) px=ge h l (l_ h t px):=by
 unfold ge
 rw [List.foldr_append]
 rfl
theorem AG (l:List Tr) (t:Tr) (j:Nat):cM (l++[t]) j=(cM l j || decide (t.kind=j)):=by simp [cM]
theorem xX (l:List Tr) (j:Nat):cM l j=decide (j ∈ l.map (·.kind)):=by
 rw [Bool.eq_iff_iff]
 simp only [cM,List.any_eq_true,decide_eq_true_eq,List.mem_map]
def AK (W:World) (pb po pc:Nat) (px cur:List Nat) (qb qo qc:Nat) (r:e_):Prop :=
 (r=⟨[],fun _ => True⟩∧qb=pb∧qo=po∧qc=pc∧cur=px)∨(r=aA (aT qb) qc 36 1 cur.length (nums .u32 cur)∧qo=0)
theorem lH {w:World} {g c:Nat} {xs:List Nat} (h:bT w (aT g) c 36 1 xs.length (nums .u32 xs)):l7 w .u32 g 0 xs:=fun j hj => by
 rw [Nat.zero_add]
 exact h.cellS (by simp [nums,hj])
theorem AK.row {W w:World} {pb po pc:Nat} {px cur:List Nat} {qb qo qc:Nat} {r:e_} (h:AK W pb po pc px cur qb qo qc r) (hr:l7 W .u32 pb po px) (hpb:pb<W.heap.size) (hpc:px.length≤pc) {l:List e_} (H:St W [] l w) {i:Nat} (hi:l[i]?=some r) :
  l7 w .u32 qb qo cur∧cur.length≤qc∧∀ j s,l[j]?=some s→j≠i→qb ∉ s.foot:=by
 rcases h with ⟨rfl,rfl,rfl,rfl,rfl⟩ | ⟨rfl,rfl⟩
 ·refine ⟨hr.keep H.frm List.not_mem_nil,hpc,fun j s hj _ hm => ?_⟩
  rcases H.own s (List.mem_of_getElem? hj) _ hm with h1 | h1
  ·simp at h1
  ·omega
 ·have hv:bT w (aT qb) qc 36 1 cur.length (nums .u32 cur):=H.get hi
  refine ⟨lH hv,?_,fun j s hj hne => dl H.apart hi hj (Ne.symm hne) qb (by simp [aA,bQ])⟩
  rcases hv with ⟨h0,_⟩ | ⟨g,cur',h0,_,h1,_⟩
  ·cases h0
  ·exact h1
section
variable {P:Program} {w w0:World} {t ty el by_:Nat} {zs:List Value} {S:List Nat} {l:List e_} {nn d:Nat} {Q:cY} {ρ:dK} {pos:String} {after:Array Edge} {ops:Array Oper} {rest:List Oper}
theorem Dk (H:St w0 S l w) (F:MK P t el by_ zs) (hd:Nat.blt d nn=true)
  (h:∀ w' b,w.heap.size≤b→w0.heap.size≤b→St w0 S (aA (aT b) 0 el 1 0 [] :: l) w'→VL P nn ops Q rest (eW ρ d (.slice (aT b) 0 0)) w') :
  VL P nn ops Q (⟨some d,.buildSlice t 0 #[],ty,pos,after,none⟩ :: rest) ρ w:=by
 obtain ⟨hu,i,z,h1,h2,h3,h4,h5⟩:=F
 have hr:(Instr.buildSlice t 0 #[]).run P w=.ok (.slice (some ⟨w.heap.size,0,none⟩) 0 0) (w.alloc (.cells #[] el)):=by
  simp [Instr.buildSlice,run_underlying hu,sizeOf,typeInfo,zeroValue,h1,h2,newRow,Instr.fill]
  rw [show (Array.range 0)=#[] from by simp]
  simp
 have hb:ff (w.alloc (.cells #[] el)) w.heap.size [] el:=ff.new w [] el
 refine Lo hd (v:=.slice (some ⟨w.heap.size,0,none⟩) 0 0) (w':=w.alloc (.cells #[] el)) ?_ (h _ _ (Nat.le_refl _) H.high
  (H.add (cf.new [] w _) (.inr ⟨_,[],rfl,hb,Nat.le_refl _,Nat.zero_le _,by simp,by simp⟩) (cI _ _ _ _ _ _) (by simp [aA,bQ])))
 unfold dE
 simp only [execOp,Sem.run_bind,Array.map_empty,hr,Result.andThen_ok]
 rfl
end
def HF (W:World) (X:aM) (e:Ending) (w':World):Prop:=∃ a c,e=.returned (.slice a (nB X) c)∧bT w' a c 5 1 (nB X) (bM .u8 (d8 X) (nB X))∧(∀ x ∈ bQ a,W.heap.size≤x)∧cf [] W w'∧X.length≤10000000
theorem KY {W w:World} {l:List e_} {wb c i:Nat} {a:Option Addr} {X:aM} (H:St W [] l w) (hi:l[i]?=some (eI wb a c X)):∀ x ∈ bQ a,W.heap.size≤x:=fun x hx => by
 rcases H.own _ (List.mem_of_getElem? hi) x (List.mem_cons_of_mem _ hx) with h | h
 ·simp at h
 ·exact h
theorem St.wrOf {w0 w:World} {S:List Nat} {l:List e_} (H:St w0 S l w) (i:Nat) {wb:Nat} (hi:l[i]?=some (aa wb [.slice none 0 0,.int .i64 0] 42)):St w0 S (l.set i (eI wb none 0 [])) w :=
 H.turn hi (cf.refl _ w) ⟨H.blk hi,.inl ⟨rfl,rfl,rfl,rfl⟩,by simp [bQ]⟩ (qZ _ _ _ _) (fun b hb => .inl hb)
theorem sO (main:Bool):sS main:=wL main fun _ => wL false (by simp)
theorem IJ {w0 w:World} {S:List Nat} {l:List e_} {wb c i:Nat} {a:Option Addr} {X:aM} (H:St w0 S l w) (hi:l[i]?=some (eI wb a c X)):w.cell? ⟨wb,0,none⟩=some (.slice a (nB X) c):=(H.get hi).1.cellv rfl
def D9 (c i q:Nat):Nat:=c+i * q
theorem tM (c i q:Nat):D9 c (i+1) q=D9 c i q+q:=by unfold D9;rw [Nat.add_mul,Nat.one_mul,Nat.add_assoc]
structure Di (wd ht a i:Nat) (px:List Nat) (l:List Tr) (now:Nat) (cur:List Nat) (X:aM) (k:Nat):Prop where
 len:l.length≤i
 now1:1≤now
 nowle:now≤wd
 cl:cur.length=now * ht
 c32:∀ p ∈ cur,p<2 ^ 32
 undo:ge ht l cur=px
 rd:∃ Xt,X=qD wd ht a++Xt∧∀ Z v,d7 (kQ ht (5 - l.length) now l) Z v→d7 (kQ ht 5 wd []) (Xt++Z) v
 xl:X.length≤D9 100 i 800000
 kl:k≤D9 10 i 200000
section
variable {wd ht a i:Nat} {px:List Nat} {l:List Tr} {now:Nat} {cur:List Nat} {X:aM} {k:Nat}
theorem Di.cn (h:Di wd ht a i px l now cur X k) (hn:wd * ht≤4096):cur.length≤4096:=by
 rw [h.cl]
 exact Nat.le_trans (Nat.mul_le_mul_right ht h.nowle) hn
theorem Di.skip (h:Di wd ht a i px l now cur X k) {k':Nat} (hk:k'≤k+200000):Di wd ht a (i+1) px l now cur X k' :=
 ⟨Nat.le_succ_of_le h.len,h.now1,h.nowle,h.cl,h.c32,h.undo,h.rd,by rw [tM];have:=h.xl;omega,by rw [tM];have:=h.kl;omega⟩
theorem Di.step (h:Di wd ht a i px l now cur X k) {t:Tr} {Xp X':aM} {k':Nat} (hk4:t.kind≤3) (hw:t.wd=now) (hi:i≤3) (hn:cM l t.kind=false) (hht:1≤ht)
  (hd:d7 (rU now ht) (pY t Xp) (t,i0 t)) (h3:t.kind=3→tx t cur) (hX:X'=X++(aV 1 1++pY t Xp)) (hXl:X'.length≤X.length+800000) (hk:k'≤k+200000) :
  Di wd ht a (i+1) px (l++[t]) (i0 t) (k8 ht t cur) X' k':=by
 obtain ⟨f1,f2,f3⟩:=Ee hk4 (by rw [hw];exact h.now1) h3 (by rw [hw];exact h.cl) h.c32
 have hnw:1≤i0 t∧i0 t≤now:=by
  unfold i0
  split
  ·rw [hw];exact cu h.now1
  ·rw [hw];exact ⟨h.now1,Nat.le_refl _⟩
 have hl:=h.len
 obtain ⟨Xt,e1,e2⟩:=h.rd
 refine ⟨by rw [List.length_append];exact Nat.succ_le_succ hl,hnw.1,Nat.le_trans hnw.2 h.nowle,f2,f3,by rw [ti,f1];exact h.undo,⟨Xt++(aV 1 1++pY t Xp),by rw [hX,e1,List.append_assoc],fun Z v hz => ?_⟩,by rw [tM];have:=h.xl;omega,by rw [tM];have:=h.kl;omega⟩
 rw [List.append_assoc,List.append_assoc]
 refine e2 _ _ ?_
 rw [show 5 - l.length=(5 - (l++[t]).length)+1 by rw [List.length_append,List.length_singleton];omega]
 exact Bc hd hn hz
end
theorem IT {t:Tr} (h:1≤t.wd):1≤i0 t:=by
 unfold i0
 split
 ·exact (cu h).1
 ·exact h
section
variable {w0 w:World} {S:List Nat} {l:List e_} {nn:Nat} {ops:Array Oper} {Q:cY} {rest:List Oper} {ρ:dK} {ty:TypeId} {pos:String} {after:Array Edge} {x y z:Operand} {d:Nat} {ts:Array TypeId}
theorem Dm (H:St w0 S l w) (t:Tr) (ht:Nat) {qb qo qc:Nat} {cur:List Nat} {iv:Value} (hk:t.kind≤3) (hw1:1≤t.wd) (hht:1≤ht) (hb:t.bits≤9) (hr:l7 w .u32 qb qo cur) (h32:∀ p ∈ cur,p<2 ^ 32) (hl:cur.length=t.wd * ht) (hn:cur.length≤4096)
  (hiv:t.kind≠2→∃ ib ic,iv=.slice (aT ib) t.px.length ic∧l7 w .u32 ib 0 t.px) (h01:t.kind≤1→t.px.length=aq t.wd t.bits * aq ht t.bits∧∀ p ∈ t.px,p<2 ^ 32) (h0:t.kind=0→∀ q ∈ t.px,pG q<14)
  (h3:t.kind=3→tx t cur∧t.px.Nodup) (htn:t.px.length≤4096) (hd:Nat.blt d nn=true) (hx:ev ρ x=.agg (gW t.kind t.bits t.wd iv).toArray) (hy:ev ρ y=.slice (some ⟨qb,qo,none⟩) cur.length qc) (hz:ev ρ z=iT ht)
  (h:∀ w' g c',St w0 S (aA (aT g) c' 36 1 (k8 ht t cur).length (nums .u32 (k8 ht t cur)) :: l) w'→VL Tryz.prog nn ops Q rest (eW ρ d (.slice (aT g) (k8 ht t cur).length c')) w') :
  VL Tryz.prog nn ops Q (⟨some d,.call ⟨.value (.func 19),#[x,y,z],ts⟩,ty,pos,after,none⟩ :: rest) ρ w :=
 aS hd Kx (KP w t ht qb qo qc cur iv hk hw1 hht hb hr h32 hl hn hiv h01 h0 h3 htn) (by simp [hx,hy,hz]) fun e w' ⟨a',c',he,hv,hfa,hf⟩ => by
  have hlen:0<(k8 ht t cur).length:=by
   rw [(Ee hk hw1 (fun h => (h3 h).1) hl h32).2.1]
   exact Nat.mul_pos (IT hw1) hht
  obtain ⟨g,rfl,_⟩:=hv.cell hlen
  exact ⟨_,he,h w' g c' (H.add (r:=aA (aT g) c' 36 1 (k8 ht t cur).length (nums .u32 (k8 ht t cur))) hf hv (cI _ _ _ _ _ _) hfa)⟩
end
end Go.Proofs.YtmgemcffhbnpfaaGreatDoor
set_option maxHeartbeats 2000000
namespace Go.Proofs.YtmgemcffhbnpfaaGreatDoor
open Go
theorem zO {c i j q:Nat} (h:i≤j):D9 c i q≤D9 c j q:=by unfold D9;exact Nat.add_le_add_left (Nat.mul_le_mul_right q h) c
theorem xh (l:List Tr) (j:Nat):(gV (l.map (·.kind)) (j:Nat)).getD (.bool false)=.bool (cM l j):=by rw [xW,xX]
def pP (r m s:Nat):Nat:=fQ 255 r m s
def rM (T:List Nat) (i:Nat):List Nat:=(List.range T.length).map fun j => if i<j then gR (T.getD j 0) (T.getD (j - 1) 0) else T.getD j 0
theorem E2 {T:List Nat} {i:Nat} (h:T.length≤i+1):rM T i=T:=by
 apply List.ext_getElem
 ·simp [rM]
 ·intro j h1 h2
  simp only [rM,List.getElem_map,List.getElem_range]
  rw [if_neg ω]
  simp [h2]
theorem CZ (T:List Nat):rM T 0=qA T:=by
 unfold rM qA
 refine List.map_congr_left fun j _ => ?_
 by_cases h:j=0
 ·subst h;rfl
 ·rw [if_pos ω,if_neg h]
theorem Ft {T:List Nat} {i:Nat} (h0:0<i) (h:i<T.length):(rM T i).set i (gR (T.getD i 0) (T.getD (i - 1) 0))=rM T (i - 1):=by
 apply List.ext_getElem
 ·simp [rM]
 ·intro j h1 h2
  rw [List.getElem_set]
  simp only [rM,List.getElem_map,List.getElem_range]
  by_cases e:i=j
  ·subst e
   rw [if_pos rfl,if_pos ω]
  ·rw [if_neg e]
   by_cases e2:i<j
   ·rw [if_pos e2,if_pos ω]
   ·rw [if_neg e2,if_neg ω]
def kD (k:Nat) (D:List Nat):Nat:=k+(if 3 ∈ D then 0 else 1)+(if 6 ∈ D then 0 else 1)
theorem Jt (k:Nat) (D:List Nat):kD k D≤k+2:=by unfold kD;split <;> split <;> omega
theorem KA (k:Nat):kD k []=k+2:=by simp [kD]
theorem Ef {k:Nat} {D:List Nat} {j:Nat} (h3:3≠j) (h6:6≠j):kD k (D.erase j)=kD k D:=by unfold kD;simp only [List.mem_erase_of_ne h3,List.mem_erase_of_ne h6]
theorem Mg {k:Nat} {D:List Nat} (h:3 ∈ D) (hn:D.Nodup):kD k (D.erase 3)=kD k D+1:=by
 unfold kD
 simp only [if_neg (show ¬ 3 ∈ D.erase 3 from hn.not_mem_erase),if_pos h,List.mem_erase_of_ne (show 6≠3 by decide)]
 split <;> omega
theorem L_ {k:Nat} {D:List Nat} (h:6 ∈ D) (hn:D.Nodup):kD k (D.erase 6)=kD k D+1:=by
 unfold kD
 simp only [if_neg (show ¬ 6 ∈ D.erase 6 from hn.not_mem_erase),if_pos h,List.mem_erase_of_ne (show 3≠6 by decide)]
theorem CU (W:World) (wd ht pb po pc B:Nat) (px:List Nat) (v:Value) (hr:l7 W .u32 pb po px) (hpc:px.length≤pc) (hl:px.length=wd * ht) (hn:px.length≤4096) (h1:1≤wd) (h2:1≤ht) (h32:∀ p ∈ px,p<2 ^ 32) (hw:jA B v W) :
  Calls Tryz.prog 6 #[iT wd,iT ht,.slice (some ⟨pb,po,none⟩) px.length pc,v] W fun e w' => ∃ X,HF W X e w'∧d7 iS X (wd,ht,px):=by
 have hwd:wd≤4096:=by
  have:=Nat.mul_le_mul_left wd h2
  omega
 have hht:ht≤4096:=by
  have:=Nat.mul_le_mul_right ht h1
  omega
 have hpx1:1≤px.length:=by rw [hl];exact Nat.mul_pos h1 h2
 have hpb:pb<W.heap.size:=World.block_lt_of_cell? W _ (hr 0 hpx1)
 have hBW:=hw.1
 have hS0:∀ b ∈ ([]:List Nat),B≠b:=by simp
 have H:St W [] [] W:=St.nil W []
 obtain ⟨wa,wn,wc,hv⟩:∃ a n c,v=.slice a n c:=by
  obtain ⟨_,a,n,c,e,_⟩:=hw
  exact ⟨a,n,c,e⟩
 subst hv
 obtain ⟨v,hv⟩:∃ v,v=Value.slice wa wn wc:=⟨_,rfl⟩
 rw [← hv] at hw
 refine enter (m:=196) Tryz.func6 O Tryz.ntmps6 O (Cy (bI O (Lt (Cy (bU O (Lp (iF (ps:=[(0,.slice wa wn wc)]) (dt (.slice wa wn wc) 0) O κ) (fM H (cs:=dt (.slice wa wn wc) 0) O O O ?_)))))))
 intro w cb hncb hcbW H
 refine Lp (nd O) (Lt ?_)
 rw [← hv] at H
 have hBc:B≠cb:=ω
 refine Cy (Lp (nx LH) (fM H (cs:=[.slice none 0 0,.int .i64 0]) O O O ?_))
 intro w wb hnwb hwbW H
 replace H:St W [] [eI wb none 0 [],aa cb (dt v 0) 39] w:=H.wrOf 0 rfl
 refine Lp (nd O) (Lt (Cy (bH O (di H 0 O 47 8 ω δ (by simp) O O O O ?_))))
 intro w a1 c1 H
 refine Lt (Cy (bH O (ai O (bw (r:=((wd - 1:Nat):Int)) O O (iw (b:=1) ω) (di H 0 O (wd - 1) 14 ω ω (by simp [kZ]) O O O O ?_)))))
 intro w a2 c2 H
 refine Lt (Cy (bH O (ai O (bw (r:=((ht - 1:Nat):Int)) O O (iw (b:=1) ω) (di H 0 O (ht - 1) 14 ω ω (by simp [kZ]) O O O O ?_)))))
 intro w a3 c3 H
 refine Lt (Cy (bH O (bH O (gh H 1 O hw hS0 hBc 2 ω ω ω O O O ?_))))
 intro w ra hra H
 refine di H 0 O ra 1 ω ω (by simp [kZ]) O O O O ?_
 intro w a4 c4 H
 simp only [List.set] at H
 refine Lt (Cy (bH O (di H 0 O 0 3 ω ω (by simp [kZ]) O O O O ?_)))
 intro w a5 c5 H
 replace H:St W [] [eI wb a5 c5 (qD wd ht ra),aa cb (dt v 1) 39] w:=H
 refine Lt (Cy (ai O (az O (Lt (Cy (oU .i64 H O ?_))))))
 intro w mb hnm hbm H
 refine bI O (Lt (Cs (Cy (bH O (gh H 2 O hw hS0 hBc 5 ω ω ω O O O ?_)))))
 intro w n5 hn5 H
 simp only [List.set] at H
 refine ai O (Lt ?_)
 have hE0:Di wd ht ra 0 px [] wd px (qD wd ht ra) 2:=⟨Nat.le_refl _,h1,Nat.le_refl _,hl,h32,rfl,⟨[],by rw [List.append_nil],fun Z v h => h⟩,by unfold qD D9;simp [kZ],by unfold D9;omega⟩
 refine aH (fun ρ w' => ∃ a c X k l now cur qb qo qc r,Di wd ht ra n5 px l now cur X k∧AK W pb po pc px cur qb qo qc r∧ρ 1=iT ht∧ρ 2=.slice (some ⟨qb,qo,none⟩) cur.length qc∧ρ 9=pT cb∧ρ 10=pT wb∧ρ 11=iT now ∧
  St W [] [eI wb a c X,aa cb (dt v k) 39,fx .i64 mb (gV (l.map (·.kind))),r] w') ?_ ?_
 case refine_2 =>
  clear H
  rintro ρ w5 ⟨a,c,X,k,l,now,cur,qb,qo,qc,r,hE,hC,r1,r2,r9,r10,r11,H⟩
  have hxl:X.length≤3200100:=Nat.le_trans hE.xl (Nat.le_trans (zO (show n5≤4 by omega)) (by unfold D9;omega))
  have hkl:k≤800010:=Nat.le_trans hE.kl (Nat.le_trans (zO (show n5≤4 by omega)) (by unfold D9;omega))
  have hcn:=hE.cn ω
  refine Cy (bH r10 (di H 0 O 0 1 ω ω ω O O O O ?_))
  intro w a6 c6 H
  simp only [List.set] at H
  refine Lt ?_
  obtain ⟨hrow,hqc,hdis⟩:=hC.row hr hpb hpc H (i:=3) rfl
  refine Cy (bH r10 (bU r2 (ai r11 (ai r1 (bH r9 ?_)))))
  refine rh (others:=[fx .i64 mb (gV (l.map (·.kind))),r]) (sO true) H hw hS0 hBW hrow (fun s hs => ?_) hE.cl hcn hqc hE.now1 h2 hE.c32 (by unfold Bk;simp;omega) (by rw [List.length_append,kZ];unfold A8;simp;omega) O O O O O O O ?_
  ·simp only [List.mem_cons,List.not_mem_nil,or_false] at hs
   rcases hs with rfl | rfl
   ·exact hdis 0 _ O δ
   ·exact hdis 1 _ O δ
  intro w a7 c7 Z k' hZ hZl _ _ H
  refine Lt (Cy (bH r10 (aK O (aU vV O (aC jg O (IJ H (i:=0) O) (gS O (Lt (Ct ?_))))))))
  obtain ⟨Xt,e1,e2⟩:=hE.rd
  refine ak O O ⟨X++aV 0 1++Z,⟨a7,c7,O,(H.get (i:=0) (r:=eI wb a7 c7 (X++aV 0 1++Z)) O).2.1,KY H (i:=0) rfl,H.frm,by rw [List.length_append,List.length_append,kZ];have:DN true=3000000:=rfl;omega⟩,?_⟩
  have hlen:=hE.len
  have e3:=e2 (aV 0 1) (l,now) (by rw [show 5 - l.length=(4 - l.length)+1 by omega];exact CW _ _ _ _)
  have:=Ak h1 ω h2 ω hra e3 hZ
  rw [hE.undo] at this
  rw [e1,List.append_assoc,List.append_assoc,← List.append_assoc Xt]
  exact this
 case refine_1 =>
 refine Cb ?_
 refine Cl (fun mm ρ w' => ∃ i a c X k l now cur qb qo qc r,i≤n5∧mm=n5 - i∧Di wd ht ra i px l now cur X k∧AK W pb po pc px cur qb qo qc r∧ρ 1=iT ht∧ρ 2=.slice (some ⟨qb,qo,none⟩) cur.length qc∧ρ 9=pT cb∧ρ 10=pT wb∧ρ 11=iT now∧ρ 12=.map (some mb)∧ρ 44=iT n5∧ρ 45=iT i ∧
  St W [] [eI wb a c X,aa cb (dt v k) 39,fx .i64 mb (gV (l.map (·.kind))),r] w') n5
  ⟨0,a5,c5,qD wd ht ra,2,[],wd,px,pb,po,pc,⟨[],fun _ => True⟩,ω,rfl,hE0,.inl ⟨rfl,rfl,rfl,rfl,rfl⟩,rfl,rfl,rfl,rfl,rfl,rfl,rfl,rfl,
   (H.cons (r:=⟨[],fun _ => True⟩) trivial ⟨fun _ _ _ _ => trivial,fun _ _ b hb => by simp at hb⟩ (by simp) (by simp)).sub [2,3,1,0] rfl δ⟩ ?_
 clear H hE0
 rintro mm ρ w5 ⟨i,a,c,X,k,l,now,cur,qb,qo,qc,r,hi,hmm,hE,hC,r1,r2,r9,r10,r11,r12,r44,r45,H⟩
 refine Cy (bP r45 r44 (Lt ?_))
 by_cases hlt:i<n5
 case neg =>
  obtain rfl:i=n5:=ω
  refine Cs (CF O ω (Cx (ax (ax (br (tn ?_))))))
  exact ⟨a,c,X,k,l,now,cur,qb,qo,qc,r,hE,hC,r1,r2,r9,r10,r11,H⟩
 have hxl:X.length≤3200100:=Nat.le_trans hE.xl (Nat.le_trans (zO (show i≤4 by omega)) (by unfold D9;omega))
 have hkl:k≤800010:=Nat.le_trans hE.kl (Nat.le_trans (zO (show i≤4 by omega)) (by unfold D9;omega))
 have hcn:=hE.cn ω
 have hcl:=hE.cl
 have hc32:=hE.c32
 have hnow1:=hE.now1
 have hnow2:=hE.nowle
 refine Cs (CT O ω (Ck (tn (Cs ?_))))
 refine aH (fun ρ w' => ∃ a c X k l now cur qb qo qc r,Di wd ht ra (i+1) px l now cur X k∧AK W pb po pc px cur qb qo qc r∧ρ 1=iT ht∧ρ 2=.slice (some ⟨qb,qo,none⟩) cur.length qc∧ρ 9=pT cb∧ρ 10=pT wb∧ρ 11=iT now∧ρ 12=.map (some mb)∧ρ 44=iT n5∧ρ 45=iT i ∧
  St W [] [eI wb a c X,aa cb (dt v k) 39,fx .i64 mb (gV (l.map (·.kind))),r] w') ?_ ?_
 case refine_2 =>
  clear H hE hC r1 r2 r9 r10 r11 r12 r44 r45 hcl hc32 hcn hnow1 hnow2 hxl hkl
  rintro ρ w6 ⟨a,c,X,k,l,now,cur,qb,qo,qc,r,hE,hC,r1,r2,r9,r10,r11,r12,r44,r45,H⟩
  refine Cr (ao (r:=((i+1:Nat):Int)) r45 O (ck (b:=1) ω) (ai O (Lt ?_)))
  exact ⟨n5 - (i+1),ω,i+1,a,c,X,k,l,now,cur,qb,qo,qc,r,ω,O,hE,hC,r1,r2,r9,r10,r11,r12,r44,O,H⟩
 case refine_1 =>
 refine Cb (Cy (bH r9 (gh H 1 O hw hS0 hBc 4 ω ω ω O O O ?_)))
 intro w kind hkind H
 simp only [List.set] at H
 refine ai r11 (Lp (iF (ps:=[(0,iT kind),(2,iT now)]) (gW kind 0 now (.slice none 0 0)) O κ) (cE H H8 O ?_))
 intro w b13 hn13 hb13 H
 refine dG (vs:=gW kind 0 now (.slice none 0 0)) H 0 GL O O O O O (by simp [gW,Value.oneCell']) ?_
 intro w H
 replace H:St W [] [eI wb a c X,aa cb (dt v (k+1)) 39,fx .i64 mb (gV (l.map (·.kind))),r,aa b13 (gW kind 0 now (.slice none 0 0)) 47] w:=H.sub [1,2,3,4,0] rfl δ
 refine Lt ?_
 have elook:=xh l kind
 have hkn:kind ∈ l.map (·.kind)∨cM l kind=false:=by
  rw [xX]
  by_cases h:kind ∈ l.map (·.kind)
  ·exact .inl h
  ·exact .inr (decide_eq_false h)
 cases hki:cM l kind with
 | true =>
  rw [hki] at elook
  refine Cs (Cy (db r12 (aU gU O (aC a_ O (H.cell 4 (v:=iT kind) O O) (Lp (oK 2 H lw O O O elook) (Lt ?_))))))
  refine Cp O ?_
  refine Cx (ax (br (tn ?_)))
  exact ⟨a,c,X,k+1,l,now,cur,qb,qo,qc,r,hE.skip ω,hC,r1,r2,r9,r10,r11,r12,r44,r45,H.sub [0,1,2,3] O δ⟩
 | false =>
 rw [hki] at elook
 refine Cs (Cy (db r12 (aU gU O (aC a_ O (H.cell 4 (v:=iT kind) O O) (Lp (oK 2 H lw O O O elook) (Lt (Cq O (Ck (tn (Cy (bI O (Lt (Cs (Cy (aU gU O (aC a_ O (H.cell 4 (v:=iT kind) O O) ?_))))))))))))))))
 refine bF O O (Lt ?_)
 by_cases hk3:kind=3
 case pos =>
  subst hk3
  obtain ⟨hrow,hqc,hdis⟩:=hC.row hr hpb hpc H (i:=3) rfl
  have hcols:=wI cur
  have hcur1:1≤cur.length:=by rw [hcl];exact Nat.mul_pos hnow1 h2
  have hcs1:=hcols.pos (List.length_pos_iff.1 hcur1)
  have hcsl:=hcols.le
  obtain ⟨cs,hcs⟩:∃ cs,cs=jM cur:=⟨_,rfl⟩
  rw [← hcs] at hcols hcs1 hcsl
  have hcs32:∀ q ∈ cs,q<2 ^ 32:=fun q hq => hc32 q (hcols.sub q hq)
  refine CT O ω (Cy (bU r2 (aS O JO (CP w qb qo qc cur hrow ω) O ?_)))
  rintro e w ⟨ag,cg,he,hvg,hfg,hfr⟩
  rw [← hcs] at he hvg
  obtain ⟨g,rfl,_⟩:=hvg.cell ω
  replace H:=H.add (r:=aA (aT g) cg 36 1 cs.length (nums .u32 cs)) hfr hvg (cI _ _ _ _ _ _) hfg
  replace H:St W [] [eI wb a c X,aa cb (dt v (k+1)) 39,fx .i64 mb (gV (l.map (·.kind))),r,aa b13 (gW 3 0 now (.slice none 0 0)) 47,aA (aT g) cg 36 1 cs.length (nums .u32 cs)] w:=H.sub [1,2,3,4,5,0] rfl δ
  refine ⟨_,he,?_⟩
  refine gS O (Lt (Cy (bU O (bG aZ O (Lp (e9 O O) (Lt ?_))))))
  by_cases h256:256<cs.length
  case pos =>
   refine CT O ω (Cx (ax (br (tn ?_))))
   exact ⟨a,c,X,k+1,l,now,cur,qb,qo,qc,r,hE.skip ω,hC,r1,r2,r9,r10,r11,r12,r44,r45,H.sub [0,1,2,3] O δ⟩
  have hpal:∀ bi,bi=b0 cs.length→tx ⟨3,now,bi,cs⟩ cur:=fun bi hbi => ⟨by show cs.length≤256;omega,hbi,hcols.all ω⟩
  refine CF O ω (Ck (tn (Cy (db r12 (aU gU O (aC a_ O (H.cell 4 (v:=iT 3) O O) (kH (v:=.bool true) 2 H lw O O O O ?_)))))))
  intro w H
  replace H:St W [] [eI wb a c X,aa cb (dt v (k+1)) 39,fx .i64 mb (gV (l.map (·.kind)++[3])),r,aa b13 (gW 3 0 now (.slice none 0 0)) 47,aA (aT g) cg 36 1 cs.length (nums .u32 cs)] w:=by rw [← uf];exact H
  refine Lt (Cy (bH r10 (di H 0 O 1 1 ω ω ω O O O O ?_)))
  intro w a6 c6 H
  refine Lt (Cy (bH r10 (aU gU O (aC a_ O (H.cell 4 (v:=iT 3) O O) (di H 0 O 3 2 ω ω (by rw [List.length_append,kZ];omega) O O O O ?_)))))
  intro w a7 c7 H
  simp only [List.set] at H
  refine Lt (Cy (aU gU O (aC a_ O (H.cell 4 (v:=iT 3) O O) (Lt (Cb (Cs (Cy (bF O O (cU O (Lt (CF O ω (Cr (bF O O (cU O (Ln ?_)))))))))))))))
  refine tn (CF O ω (Cy (bF O O (cU O (Lt (CT O ω (Cy (bU O (bU O (bG aZ O (bZ O Hv (vg _ cs.length ω) O (aU iP O (kB H 4 vp O O O O ?_)))))))))))))
  intro w H
  refine aU eV O (bC (m:=((b0 cs.length:Nat):Int)) H 4 k_ O O O O ?_)
  intro w H
  refine Lt ?_
  obtain ⟨bits,hbits⟩:∃ bits,bits=b0 cs.length:=⟨_,rfl⟩
  obtain ⟨X2,hX2⟩:∃ X2,X2=X++aV 1 1++aV 3 2:=⟨_,rfl⟩
  have hX2l:X2.length=X.length+3:=by rw [hX2];simp [kZ]
  replace H:St W [] [eI wb a7 c7 X2,aa cb (dt v (k+1)) 39,fx .i64 mb (gV (l.map (·.kind)++[3])),r,aa b13 (gW 3 bits now (.slice (aT g) cs.length cg)) 47,aA (aT g) cg 36 1 cs.length (nums .u32 cs)] w:=by rw [hX2,hbits];exact H
  have hb3:bits≤3:=by rw [hbits];unfold b0;split;omega;split;omega;split <;> omega
  refine Cy (bH r10 (bU O (bG aZ O (bw (r:=((cs.length - 1:Nat):Int)) O O (iw (b:=1) ω) (di H 0 O (cs.length - 1) 8 ω ω ω O O O O ?_)))))
  intro w a8 c8 H
  simp only [List.set] at H
  refine Lt ?_
  obtain ⟨X3,hX3⟩:∃ X3,X3=X2++aV (cs.length - 1) 8:=⟨_,rfl⟩
  have hX3l:X3.length=X.length+11:=by rw [hX3,List.length_append,kZ];omega
  rw [← hX3] at H
  refine Cy (Dk H gj O ?_)
  intro w d0 hnd0 hd0 H
  have hvg2:bT w (aT g) cg 36 1 cs.length (nums .u32 cs):=H.get (i:=6) rfl
  refine bU O (dH H 0 gj δ O O O O (news:=nums .u32 cs) (by simp [nums]) (fun j u hj => by rw [Nat.zero_add];exact hvg2.cellS hj) (fD _ _) (by simp only [maxLen];omega) ω ?_)
  intro ad dc w hfd H
  rw [List.nil_append,Nat.zero_add cs.length] at H
  rw [Nat.zero_add cs.length]
  replace H:St W [] [eI wb a8 c8 X3,aa cb (dt v (k+1)) 39,fx .i64 mb (gV (l.map (·.kind)++[3])),r,aa b13 (gW 3 bits now (.slice (aT g) cs.length cg)) 47,aA (aT g) cg 36 1 cs.length (nums .u32 cs),aA ad dc 36 1 cs.length (nums .u32 cs)] w:=H.sub [1,2,3,4,5,6,0] rfl δ
  obtain ⟨dg,rfl,_⟩:=(show bT w ad dc 36 1 cs.length (nums .u32 cs) from H.get (i:=6) rfl).cell ω
  refine gS O (Lt (Cs (Cy (bU O (bG aZ O (bw (r:=((cs.length - 1:Nat):Int)) O O (iw (a:=cs.length) (b:=1) ω) (az O (Lt ?_))))))))
  refine aH (fun ρ w' => ρ 1=iT ht∧ρ 2=.slice (some ⟨qb,qo,none⟩) cur.length qc∧ρ 9=pT cb∧ρ 10=pT wb∧ρ 11=iT now∧ρ 12=.map (some mb)∧ρ 13=pT b13∧ρ 18=.slice (aT dg) cs.length dc∧ρ 44=iT n5∧ρ 45=iT i ∧
   St W [] [eI wb a8 c8 X3,aa cb (dt v (k+1)) 39,fx .i64 mb (gV (l.map (·.kind)++[3])),r,aa b13 (gW 3 bits now (.slice (aT g) cs.length cg)) 47,aA (aT g) cg 36 1 cs.length (nums .u32 cs),aA (aT dg) dc 36 1 cs.length (nums .u32 (qA cs))] w') ?_ ?_
  case refine_1 =>
   refine Cb ?_
   refine Cl (fun mm ρ w' => ∃ j,j<cs.length∧mm=j∧ρ 1=iT ht∧ρ 2=.slice (some ⟨qb,qo,none⟩) cur.length qc∧ρ 9=pT cb∧ρ 10=pT wb∧ρ 11=iT now∧ρ 12=.map (some mb)∧ρ 13=pT b13∧ρ 14=.slice (aT g) cs.length cg∧ρ 18=.slice (aT dg) cs.length dc∧ρ 19=iT j∧ρ 44=iT n5∧ρ 45=iT i ∧
    St W [] [eI wb a8 c8 X3,aa cb (dt v (k+1)) 39,fx .i64 mb (gV (l.map (·.kind)++[3])),r,aa b13 (gW 3 bits now (.slice (aT g) cs.length cg)) 47,aA (aT g) cg 36 1 cs.length (nums .u32 cs),aA (aT dg) dc 36 1 cs.length (nums .u32 (rM cs j))] w') (cs.length - 1)
    ⟨cs.length - 1,ω,rfl,r1,r2,r9,r10,r11,r12,rfl,rfl,rfl,rfl,r44,r45,by rw [E2 ω];exact H⟩ ?_
   clear H r1 r2 r9 r10 r11 r12 r44 r45
   rintro mm2 ρ w7 ⟨j,hj,hmm2,r1,r2,r9,r10,r11,r12,r13,r14,r18,r19,r44,r45,H⟩
   refine Cs (Cy (ai r19 (Lp (e9 O O) (Lt ?_))))
   by_cases hj0:0<j
   case neg =>
    obtain rfl:j=0:=ω
    refine CF O ω (Cx (ax (ax (br (tn ?_)))))
    exact ⟨r1,r2,r9,r10,r11,r12,r13,r18,r44,r45,by rw [CZ] at H;exact H⟩
   refine CT O ω (Ck (tn (Cs (Cb ?_))))
   have hvg3:bT w7 (aT g) cg 36 1 cs.length (nums .u32 cs):=H.get (i:=5) rfl
   have hx1:w7.cell? ⟨g,j,none⟩=some (.int .u32 (cs.getD j 0:Nat)):=hvg3.cellS (de hj)
   have hx2:w7.cell? ⟨g,j - 1,none⟩=some (.int .u32 (cs.getD (j - 1) 0:Nat)):=hvg3.cellS (de ω)
   refine ar 13 aJ κ ?_
   intro w hsame
   replace H:=H.same hsame
   have hy1:=hsame.frm.cell hx1 List.not_mem_nil
   have hy2:=hsame.frm.cell hx2 List.not_mem_nil
   refine cF r18 (bW r19 (cF r14 (bW r19 (Sp (bO j aZ O O O hj) (aD bD O hy1 (cF r14 (bW r19 (cx (r:=((j - 1:Nat):Int)) O O (iw (b:=1) ω) (Sp (bO (j - 1) aZ O O O ω) (aD bD O hy2 (bJ O Gc (Bh _ _ _ (ft hcs32 j) (ft hcs32 (j - 1))) O (Sp (bO j aZ O O O hj) (Sn (sU (v:=.int .u32 ((gR (cs.getD j 0) (cs.getD (j - 1) 0):Nat):Int)) H 6 dY O O O O hj ?_))))))))))))))
   intro w H
   rw [jR,Ft hj0 hj] at H
   refine Ln (aF (tn (Cr (ai r19 (bw (r:=((j - 1:Nat):Int)) O O (iw (b:=1) ω) (az O (Lt ?_)))))))
   exact ⟨j - 1,ω,j - 1,ω,O,r1,r2,r9,r10,r11,r12,r13,r14,r18,O,r44,r45,H⟩
  case refine_2 =>
  clear H r1 r2 r9 r10 r11 r12 r44 r45
  rintro ρ w7 ⟨r1,r2,r9,r10,r11,r12,r13,r18,r44,r45,H⟩
  have hdl:(qA cs).length=cs.length:=by simp [qA]
  have hvd:bT w7 (aT dg) dc 36 1 cs.length (nums .u32 (qA cs)):=H.get (i:=6) rfl
  have hdc:cs.length≤dc:=by
   rcases hvd with ⟨h0,_⟩ | ⟨g',cur',h0,_,h1,_⟩
   ·cases h0
   ·exact h1
  have hg0:=dl H.apart (i:=6) (j:=0) rfl rfl δ dg (by simp [aA,bQ])
  have hg1:=dl H.apart (i:=6) (j:=1) rfl rfl δ dg (by simp [aA,bQ])
  rw [← hdl] at hvd
  refine Cy (bH r10 (Lp (YS (show _=Value.slice (aT dg) (qA cs).length dc by rw [hdl];exact r18)) (bU r18 (bG aZ O (bH r9 ?_)))))
  refine rh (others:=[fx .i64 mb (gV (l.map (·.kind)++[3])),r,aa b13 (gW 3 bits now (.slice (aT g) cs.length cg)) 47,aA (aT g) cg 36 1 cs.length (nums .u32 cs),aA (aT dg) dc 36 1 cs.length (nums .u32 (qA cs))]) (sO false) H hw hS0 hBW (lH hvd) (fun s hs => ?_) (wd:=cs.length) (ht:=1) (by rw [hdl,Nat.mul_one]) ω ω hcs1 ω (fun q hq => ?_) (by unfold Bk;simp;omega) (by unfold A8;simp;omega) O O O O O O O ?_
  ·simp only [List.mem_cons,List.not_mem_nil,or_false] at hs
   rcases hs with rfl | rfl
   ·exact hg0
   ·exact hg1
  ·obtain ⟨j,_,rfl⟩:=List.mem_map.1 hq
   split
   ·exact ft hcs32 0
   ·exact (oL _ _).2.2.2.2
  intro w a9 c9 Zp k9 hZ hZl hk9 hk9' H
  refine Lt ?_
  replace H:St W [] [eI wb a9 c9 (X3++Zp),aa cb (dt v k9) 39,fx .i64 mb (gV (l.map (·.kind)++[3])),r,aa b13 (gW 3 bits now (.slice (aT g) cs.length cg)) 47,aA (aT g) cg 36 1 cs.length (nums .u32 cs),aA (aT dg) dc 36 1 cs.length (nums .u32 (qA cs))] w:=H
  obtain ⟨hrow,hqc,hdis⟩:=hC.row hr hpb hpc H (i:=3) rfl
  have hvi2:bT w (aT g) cg 36 1 cs.length (nums .u32 cs):=H.get (i:=5) rfl
  have hzm:DN false=700000:=rfl
  have hkm:E3 false=100000:=rfl
  refine Cy (Lp (fH (cs:=gW 3 bits now (.slice (aT g) cs.length cg)) pf r13 O (fun j hj => by rw [Nat.zero_add];exact (H.blk (i:=4) O).cell j)) (bU r2 (ai r1 (Dm H ⟨3,now,bits,cs⟩ ht (by show 3≤3;omega) hnow1 h2 (by show bits≤9;omega) hrow hc32 hcl hcn (fun _ => ⟨g,cg,O,lH hvi2⟩) (fun h => absurd h (show ¬ (3:Nat)≤1 by decide)) (fun h => absurd h (show ¬ (3:Nat)=0 by decide)) (fun _ => ⟨hpal bits hbits,hcols.nodup⟩) (by show cs.length≤4096;omega) O O O O ?_))))
  intro w g2 gc H
  refine gS O (Lt ?_)
  have hnw:i0 ⟨3,now,bits,cs⟩=aq now bits:=by unfold i0;rw [if_pos rfl]
  have hEn:Di wd ht ra (i+1) px (l++[⟨3,now,bits,cs⟩]) (i0 ⟨3,now,bits,cs⟩) (k8 ht ⟨3,now,bits,cs⟩ cur) (X3++Zp) k9 :=
   hE.step (t:=⟨3,now,bits,cs⟩) (Xp:=Zp) (by show 3≤3;omega) rfl ω hki h2 (qu (by show 3≤3;omega) rfl (fun h => absurd h (show ¬ (3:Nat)≤1 by decide)) (fun h => absurd h (show ¬ (3:Nat)=2 by decide)) (fun _ => ⟨hcs1,by show cs.length≤256;omega,hbits,hZ,hcs32⟩)) (fun _ => hpal bits hbits) (by rw [hX3,hX2];unfold pY;rw [if_neg (show ¬ (3:Nat)≤1 by decide),if_neg (show ¬ (3:Nat)=2 by decide)];simp) (by rw [List.length_append];omega) ω
  rw [hnw] at hEn
  refine Cr (ai r11 (aU eV r13 (aC a_ O (H.cell 5 (v:=iT bits) O O) (bZ O ke (eN _ now bits ω ω) O (az O (Ln (aF (aF (tn ?_)))))))))
  exact ⟨a9,c9,X3++Zp,k9,l++[⟨3,now,bits,cs⟩],aq now bits,_,g2,0,gc,_,hEn,.inr ⟨O,O⟩,r1,O,r9,r10,O,r12,r44,r45,by rw [List.map_append];exact H.sub [1,2,3,0] O δ⟩
 refine CF O ω (Ck (tn (Cy (db r12 (aU gU O (aC a_ O (H.cell 4 (v:=iT kind) O O) (kH (v:=.bool true) 2 H lw O O O O ?_)))))))
 intro w H
 replace H:St W [] [eI wb a c X,aa cb (dt v (k+1)) 39,fx .i64 mb (gV (l.map (·.kind)++[kind])),r,aa b13 (gW kind 0 now (.slice none 0 0)) 47] w:=by rw [← uf];exact H
 refine Lt (Cy (bH r10 (di H 0 O 1 1 ω ω ω O O O O ?_)))
 intro w a6 c6 H
 refine Lt (Cy (bH r10 (aU gU O (aC a_ O (H.cell 4 (v:=iT kind) O O) (di H 0 O kind 2 ω ω (by rw [List.length_append,kZ];omega) O O O O ?_)))))
 intro w a7 c7 H
 simp only [List.set] at H
 refine Lt (Cy (aU gU O (aC a_ O (H.cell 4 (v:=iT kind) O O) (Lt ?_))))
 obtain ⟨X2,hX2⟩:∃ X2,X2=X++aV 1 1++aV kind 2:=⟨_,rfl⟩
 have hX2l:X2.length=X.length+3:=by rw [hX2];simp [kZ]
 rw [← hX2] at H
 refine Cb (Cs (Cy (bF O O (cU O (Lt ?_)))))
 by_cases hk2:kind=2
 case pos =>
  subst hk2
  refine CF O ω (Cr (bF O O (cU O (Lt (CF O ω (Cy (bF O O (cU O (Lt (CF O ω ?_))))))))))
  obtain ⟨hrow,hqc,hdis⟩:=hC.row hr hpb hpc H (i:=3) rfl
  refine Cr (Lp (fH (cs:=gW 2 0 now (.slice none 0 0)) pf O O (fun j hj => by rw [Nat.zero_add];exact (H.blk (i:=4) O).cell j)) (bU r2 (ai r1 (Dm H ⟨2,now,0,[]⟩ ht (by show 2≤3;omega) hnow1 h2 (by show 0≤9;omega) hrow hc32 hcl hcn (fun h => absurd O h) (fun h => absurd h (show ¬ (2:Nat)≤1 by decide)) (fun h => absurd h (show ¬ (2:Nat)=0 by decide)) (fun h => absurd h (show ¬ (2:Nat)=3 by decide)) (by simp) O O O O ?_))))
  intro w g gc H
  refine gS O (Ln (aF (aF (tn ?_))))
  have hEn:Di wd ht ra (i+1) px (l++[⟨2,now,0,[]⟩]) now (k8 ht ⟨2,now,0,[]⟩ cur) X2 (k+1) :=
   hE.step (t:=⟨2,now,0,[]⟩) (Xp:=[]) (by show 2≤3;omega) rfl ω hki h2 (qu (by show 2≤3;omega) rfl (fun h => absurd h (show ¬ (2:Nat)≤1 by decide)) (fun _ => ⟨rfl,rfl⟩) (fun h => absurd h (show ¬ (2:Nat)=3 by decide))) (fun h => absurd h (show ¬ (2:Nat)=3 by decide)) (by rw [hX2];simp [pY]) ω ω
  exact ⟨a7,c7,X2,k+1,l++[⟨2,now,0,[]⟩],now,_,g,0,gc,_,hEn,.inr ⟨O,O⟩,r1,O,r9,r10,r11,r12,r44,r45,by rw [List.map_append];exact H.sub [1,2,3,0] O δ⟩
 have hk1:kind≤1:=ω
 refine aH (fun ρ w' => ρ 78=.bool true∧ρ 1=iT ht∧ρ 2=.slice (some ⟨qb,qo,none⟩) cur.length qc∧ρ 9=pT cb∧ρ 10=pT wb∧ρ 11=iT now∧ρ 12=.map (some mb)∧ρ 13=pT b13∧ρ 44=iT n5∧ρ 45=iT i ∧
  St W [] [eI wb a7 c7 X2,aa cb (dt v (k+1)) 39,fx .i64 mb (gV (l.map (·.kind)++[kind])),r,aa b13 (gW kind 0 now (.slice none 0 0)) 47] w') ?_ ?_
 case refine_1 =>
  by_cases hk0:kind=0
  case pos =>
   subst hk0
   refine CT O ω (Ck (tn ?_))
   exact ⟨O,r1,r2,r9,r10,r11,r12,O,r44,r45,H⟩
  obtain rfl:kind=1:=ω
  refine CF O ω (Cr (bF O O (cU O (Lt ?_))))
  exact ⟨O,r1,r2,r9,r10,r11,r12,O,r44,r45,H⟩
 case refine_2 =>
 clear H r1 r2 r9 r10 r11 r12 r44 r45
 rintro ρ w6 ⟨r78,r1,r2,r9,r10,r11,r12,r13,r44,r45,H⟩
 refine Cp r78 ?_
 refine Cy (bH r9 (gh H 1 O hw hS0 hBc 8 ω ω ω O O O ?_))
 intro w rb hrb H
 simp only [List.set] at H
 refine ao (r:=((2+rb:Nat):Int)) O O (ck (a:=2) ω) (aU eV r13 (bC (m:=((2+rb:Nat):Int)) H 4 k_ O O O O ?_))
 intro w H
 refine Lt ?_
 obtain ⟨bits,hbits⟩:∃ bits,bits=2+rb:=⟨_,rfl⟩
 replace H:St W [] [eI wb a7 c7 X2,aa cb (dt v (k+2)) 39,fx .i64 mb (gV (l.map (·.kind)++[kind])),r,aa b13 (gW kind bits now (.slice none 0 0)) 47] w:=by rw [hbits];exact H
 have hb9:bits≤9:=ω
 refine Cs (Cd aJ κ ?_)
 intro w hsame
 replace H:=H.same hsame
 refine bW r11 (dD eV r13 (aD a_ O (H.cell 4 (v:=iT bits) O O) (bJ O ke (eN _ now bits ω hb9) O (bW r1 (dD eV r13 (aD a_ O (H.cell 4 (v:=iT bits) O O) (bJ O ke (eN _ ht bits ω hb9) O (oZ O (oZ O (Sn (tn ?_)))))))))))
 have hta:=cu (b:=bits) hnow1
 have htb:=cu (b:=bits) h2
 obtain ⟨aw,haw⟩:∃ aw,aw=aq now bits:=⟨_,rfl⟩
 obtain ⟨ah,hah⟩:∃ ah,ah=aq ht bits:=⟨_,rfl⟩
 rw [← haw,← hah]
 rw [← haw] at hta
 rw [← hah] at htb
 have hprod:aw * ah≤4096:=by
  have:=Nat.mul_le_mul hta.2 htb.2
  omega
 have hprod1:1≤aw * ah:=Nat.mul_pos hta.1 htb.1
 refine Cs (Cy (ai O (ai O (Lp (cX (r:=((aw * ah:Nat):Int)) O O (pK ω)) (ai O (Lt ?_))))))
 refine aH (fun ρ w' => ∃ img ia ic kk,img.length=aw * ah∧(∀ q ∈ img,q<2 ^ 32∧(kind=0→pG q<14))∧k≤kk∧kk≤k+2+4 * img.length∧ρ 1=iT ht∧ρ 2=.slice (some ⟨qb,qo,none⟩) cur.length qc∧ρ 9=pT cb∧ρ 10=pT wb∧ρ 11=iT now∧ρ 12=.map (some mb)∧ρ 13=pT b13∧ρ 15=iT aw∧ρ 16=iT ah∧ρ 44=iT n5∧ρ 45=iT i ∧
  St W [] [eI wb a7 c7 X2,aa cb (dt v kk) 39,fx .i64 mb (gV (l.map (·.kind)++[kind])),r,aa b13 (gW kind bits now (.slice ia img.length ic)) 47,aA ia ic 36 1 img.length (nums .u32 img)] w') ?_ ?_
 case refine_1 =>
  refine Cb ?_
  refine Cl (fun mm ρ w' => ∃ img ia ic kk,img.length≤aw * ah∧mm=aw * ah - img.length∧(∀ q ∈ img,q<2 ^ 32∧(kind=0→pG q<14))∧k≤kk∧kk≤k+2+4 * img.length∧ρ 1=iT ht∧ρ 2=.slice (some ⟨qb,qo,none⟩) cur.length qc∧ρ 9=pT cb∧ρ 10=pT wb∧ρ 11=iT now∧ρ 12=.map (some mb)∧ρ 13=pT b13∧ρ 15=iT aw∧ρ 16=iT ah∧ρ 44=iT n5∧ρ 45=iT i∧ρ 95=iT (aw * ah)∧ρ 96=iT img.length ∧
   St W [] [eI wb a7 c7 X2,aa cb (dt v kk) 39,fx .i64 mb (gV (l.map (·.kind)++[kind])),r,aa b13 (gW kind bits now (.slice ia img.length ic)) 47,aA ia ic 36 1 img.length (nums .u32 img)] w') (aw * ah)
   ⟨[],none,0,k+2,Nat.zero_le _,rfl,by simp,ω,by simp,r1,r2,r9,r10,r11,r12,r13,rfl,rfl,r44,r45,rfl,rfl,(H.vec0 36 1).sub [1,2,3,4,5,0] rfl δ⟩ ?_
  clear H r1 r2 r9 r10 r11 r12 r13 r44 r45 r78
  rintro mm2 ρ w7 ⟨img,ia,ic,kk,himg,hmm2,hall,hkk1,hkk2,r1,r2,r9,r10,r11,r12,r13,r15,r16,r44,r45,r95,r96,H⟩
  refine Cy (bP r96 r95 (Lt ?_))
  by_cases hli:img.length<aw * ah
  case neg =>
   have:img.length=aw * ah:=ω
   refine Cs (CF O ω (Cx (ax (ax (br (tn ?_))))))
   exact ⟨img,ia,ic,kk,this,hall,hkk1,hkk2,r1,r2,r9,r10,r11,r12,r13,r15,r16,r44,r45,H⟩
  refine Cs (CT O ω (Ck (tn (Cs (Cb (Cy (bH r9 (gh H 1 O hw hS0 hBc 14 ω ω ω O O O ?_))))))))
  intro w m0 hm0 H
  simp only [List.set] at H
  refine az O (Lt (Cs (Cy (aU gU r13 (aC a_ O (H.cell 4 (v:=iT kind) O O) (bF O O (Lt ?_)))))))
  refine aH (fun ρ w' => ∃ m kn,m<256∧(kind=0→m<14)∧kk≤kn∧kn≤kk+2∧ρ 17=iT m∧ρ 1=iT ht∧ρ 2=.slice (some ⟨qb,qo,none⟩) cur.length qc∧ρ 9=pT cb∧ρ 10=pT wb∧ρ 11=iT now∧ρ 12=.map (some mb)∧ρ 13=pT b13∧ρ 15=iT aw∧ρ 16=iT ah∧ρ 44=iT n5∧ρ 45=iT i∧ρ 95=iT (aw * ah)∧ρ 96=iT img.length ∧
   St W [] [eI wb a7 c7 X2,aa cb (dt v kn) 39,fx .i64 mb (gV (l.map (·.kind)++[kind])),r,aa b13 (gW kind bits now (.slice ia img.length ic)) 47,aA ia ic 36 1 img.length (nums .u32 img)] w') ?_ ?_
  case refine_1 =>
   by_cases hk0:kind=1
   case pos =>
    subst hk0
    refine CT O ω (Cr (bH r9 (gh H 1 O hw hS0 hBc 256 ω ω ω O O O ?_)))
    intro w m1 hm1 H
    simp only [List.set] at H
    refine az O (Lt ?_)
    exact ⟨m1,kk+1+1,hm1,fun h => absurd h δ,ω,ω,O,r1,r2,r9,r10,r11,r12,r13,r15,r16,r44,r45,r95,r96,H⟩
   refine CF O ω (Ck (tn ?_))
   exact ⟨m0,kk+1,ω,fun _ => hm0,ω,ω,O,r1,r2,r9,r10,r11,r12,r13,r15,r16,r44,r45,r95,r96,H⟩
  case refine_2 =>
  clear H r1 r2 r9 r10 r11 r12 r13 r15 r16 r44 r45 r95 r96
  rintro ρ w8 ⟨m,kn,hm256,hm14,hkn1,hkn2,r17,r1,r2,r9,r10,r11,r12,r13,r15,r16,r44,r45,r95,r96,H⟩
  refine iC (fun ρ w' => ∃ r1_ r2_ ia' ic',r1_<256∧r2_<256∧ρ 1=iT ht∧ρ 2=.slice (some ⟨qb,qo,none⟩) cur.length qc∧ρ 9=pT cb∧ρ 10=pT wb∧ρ 11=iT now∧ρ 12=.map (some mb)∧ρ 13=pT b13∧ρ 15=iT aw∧ρ 16=iT ah∧ρ 44=iT n5∧ρ 45=iT i∧ρ 95=iT (aw * ah)∧ρ 96=iT img.length ∧
   St W [] [eI wb a7 c7 X2,aa cb (dt v (kn+2)) 39,fx .i64 mb (gV (l.map (·.kind)++[kind])),r,aa b13 (gW kind bits now (.slice ia' (img.length+1) ic')) 47,aA ia' ic' 36 1 (img.length+1) (nums .u32 (img++[pP r1_ m r2_]))] w') ?_ ?_
  case refine_2 =>
   clear H r1 r2 r9 r10 r11 r12 r13 r15 r16 r17 r44 r45 r95 r96
   rintro ρ w9 ⟨q1,q2,ia',ic',hq1,hq2,r1,r2,r9,r10,r11,r12,r13,r15,r16,r44,r45,r95,r96,H⟩
   have hpp:=eO (a:=255) (r:=q1) (g:=m) (b:=q2) ω hq1 hm256 hq2
   have hal:∀ q ∈ img++[pP q1 m q2],q<2 ^ 32∧(kind=0→pG q<14):=fun q hq => by
    rcases List.mem_append.1 hq with hq | hq
    ·exact hall q hq
    ·rw [List.mem_singleton.1 hq]
     exact ⟨hpp.2.2.2.2,fun h => by unfold pP;rw [hpp.2.2.1];exact hm14 h⟩
   refine Cr (ao (r:=((img.length+1:Nat):Int)) r96 O (ck (b:=1) ω) (ai O (Lt ?_)))
   exact ⟨aw * ah - (img.length+1),ω,img++[pP q1 m q2],ia',ic',kn+2,by simp;omega,by simp,hal,ω,by simp;omega,r1,r2,r9,r10,r11,r12,r13,r15,r16,r44,r45,r95,by simp;rfl,by rw [List.length_append];exact H⟩
  case refine_1 =>
  refine VC.held ((fun _ => True)) aJ (by with_reducible repeat (first | refine fB ?_ | refine eP.blk ?_ | refine fy ?_ | refine dP ?_ | exact eP.done)) ?_
  intro w hsame
  replace H:=H.same hsame
  refine Ht 0 O κ κ κ O trivial (fun w hI => iQ iP r13) (Ht 2 O κ κ κ O trivial (fun w hI => YP r9) (Ht 4 O κ κ κ O trivial (fun w hI => YI r17) (Ht 5 O κ κ κ O trivial (fun w hI => YP r9) ?_)))
  refine oE [0,2,4,5] [1,3,6,7,8,9] [(6,[3]),(7,[3,6]),(8,[7]),(9,[1,8])] 6 O κ δ κ
   (fun D ρ w' => (∃ q1 q2 b8 ia' ic',q1<256∧q2<256∧(1 ∉ D→ρ 106=.slice ia img.length ic)∧(3 ∉ D→ρ 108=iT q1)∧(6 ∉ D→ρ 111=iT q2)∧(7 ∉ D→ρ 112=.int .u32 (pP q1 m q2:Nat))∧(8 ∉ D→ρ 113=.slice (aT b8) 1 1)∧(9 ∉ D→ρ 114=.slice ia' (img.length+1) ic')∧(7 ∉ D→3 ∉ D∧6 ∉ D)∧(8 ∉ D→7 ∉ D)∧(9 ∉ D→8 ∉ D) ∧
     St W [] (zl D 8 (aa b8 (nums .u32 [pP q1 m q2]) 36)++[eI wb a7 c7 X2,aa cb (dt v (kD kn D)) 39,fx .i64 mb (gV (l.map (·.kind)++[kind])),r,aa b13 (gW kind bits now (.slice ia img.length ic)) 47,If D 9 (aA ia ic 36 1 img.length (nums .u32 img)) (aA ia' ic' 36 1 (img.length+1) (nums .u32 img++nums .u32 [pP q1 m q2]))]) w') ∧
    ρ 105=.pointer (some ⟨b13,3,none⟩)∧ρ 107=pT cb∧ρ 109=iT m∧ρ 110=pT cb ∧
    ρ 1=iT ht∧ρ 2=.slice (some ⟨qb,qo,none⟩) cur.length qc∧ρ 9=pT cb∧ρ 10=pT wb∧ρ 11=iT now∧ρ 12=.map (some mb)∧ρ 13=pT b13∧ρ 15=iT aw∧ρ 16=iT ah∧ρ 44=iT n5∧ρ 45=iT i∧ρ 95=iT (aw * ah)∧ρ 96=iT img.length)
   (fun _ _ _ _ => trivial) ?_ ?_ ?_
  ·exact ⟨⟨0,0,0,none,0,ω,ω,fun h => absurd δ h,fun h => absurd δ h,fun h => absurd δ h,fun h => absurd δ h,fun h => absurd δ h,fun h => absurd δ h,fun h => absurd δ h,fun h => absurd δ h,fun h => absurd δ h,H⟩,O,O,O,O,r1,r2,r9,r10,r11,r12,r13,r15,r16,r44,r45,r95,r96⟩
  ·clear H r1 r2 r9 r10 r11 r12 r13 r15 r16 r17 r44 r45 r95 r96
   rintro D j ρ w' hj hjD hpre hDn ⟨⟨q1,q2,b8,ia',ic',hq1,hq2,f1,f3,f6,f7,f8,f9,m7,m8,m9,H⟩,r105,r107,r109,r110,r1,r2,r9,r10,r11,r12,r13,r15,r16,r44,r45,r95,r96⟩
   have ne:∀ {x y:Nat},x≠y→(x ∈ D.erase y ↔ x ∈ D):=fun hxy => List.mem_erase_of_ne hxy
   have hself:j ∉ D.erase j:=hDn.not_mem_erase
   simp only [List.mem_cons,List.not_mem_nil,or_false] at hj
   have n7:3 ∈ D∨6 ∈ D→7 ∈ D:=fun h => Classical.byContradiction fun h7 => by rcases h with h | h;exact (m7 h7).1 h;exact (m7 h7).2 h
   have n8:7 ∈ D→8 ∈ D:=fun h => Classical.byContradiction fun h8 => m8 h8 h
   have n9:8 ∈ D→9 ∈ D:=fun h => Classical.byContradiction fun h9 => m9 h9 h
   rcases hj with rfl | rfl | rfl | rfl | rfl | rfl
   ·have hcell13:w'.cell? ⟨b13,3,none⟩=some (.slice ia img.length ic):=(H.get (r:=aa b13 (gW kind bits now (.slice ia img.length ic)) 47) (i:=(zl D 8 (aa b8 (nums .u32 [pP q1 m q2]) 36)).length+4) (by rw [List.getElem?_append_right ω,Nat.add_sub_cancel_left];rfl)).cellv rfl
    refine pp O O (ef gw r105 hcell13) ?_
    refine ⟨⟨q1,q2,b8,ia',ic',hq1,hq2,fun _ => rfl,?_,?_,?_,?_,?_,?_,?_,?_,?_⟩,r105,r107,r109,r110,r1,r2,r9,r10,r11,r12,r13,r15,r16,r44,r45,r95,r96⟩
    ·rw [ne δ];exact f3
    ·rw [ne δ];exact f6
    ·rw [ne δ];exact f7
    ·rw [ne δ];exact f8
    ·rw [ne δ];exact f9
    ·rw [ne δ,ne δ,ne δ];exact m7
    ·rw [ne δ,ne δ];exact m8
    ·rw [ne δ,ne δ];exact m9
    ·rw [cj δ,iW δ,Ef δ δ];exact H
   ·have h7:=n7 (.inl hjD)
    have h8:=n8 h7
    have h9:=n9 h8
    rw [iy h8,my h9] at H
    refine wi O O wx (oq w' cb B v (kD kn D) 256 ((H.get (i:=1) rfl:(aa cb (dt v (kD kn D)) 39).pred w')) (hw.keep H.frm hS0) hBc (by have:=Jt kn D;omega) ω ω) (by simp [ev,r107]) ?_
    rintro e w2 ⟨⟨x1,hx1,he⟩,hb2,hf2⟩
    replace H:=H.turnB 1 rfl hf2 hb2
    refine ⟨_,he,⟨x1,q2,b8,ia',ic',hx1,hq2,?_,fun _ => rfl,?_,?_,?_,?_,?_,?_,?_,?_⟩,r105,r107,r109,r110,r1,r2,r9,r10,r11,r12,r13,r15,r16,r44,r45,r95,r96⟩
    ·rw [ne δ];exact f1
    ·rw [ne δ];exact f6
    ·rw [ne δ];exact fun h => absurd h7 h
    ·rw [ne δ];exact fun h => absurd h8 h
    ·rw [ne δ];exact fun h => absurd h9 h
    ·rw [ne δ];exact fun h => absurd h7 h
    ·rw [ne δ];exact fun h => absurd h8 h
    ·rw [ne δ];exact fun h => absurd h9 h
    ·rw [cj δ,iW δ,Mg hjD hDn,iy h8,my h9];exact H
   ·have h7:=n7 (.inr hjD)
    have h8:=n8 h7
    have h9:=n9 h8
    rw [iy h8,my h9] at H
    refine wi O O wx (oq w' cb B v (kD kn D) 256 ((H.get (i:=1) rfl:(aa cb (dt v (kD kn D)) 39).pred w')) (hw.keep H.frm hS0) hBc (by have:=Jt kn D;omega) ω ω) (by simp [ev,r110]) ?_
    rintro e w2 ⟨⟨x1,hx1,he⟩,hb2,hf2⟩
    replace H:=H.turnB 1 rfl hf2 hb2
    refine ⟨_,he,⟨q1,x1,b8,ia',ic',hq1,hx1,?_,?_,fun _ => rfl,?_,?_,?_,?_,?_,?_,?_⟩,r105,r107,r109,r110,r1,r2,r9,r10,r11,r12,r13,r15,r16,r44,r45,r95,r96⟩
    ·rw [ne δ];exact f1
    ·rw [ne δ];exact f3
    ·rw [ne δ];exact fun h => absurd h7 h
    ·rw [ne δ];exact fun h => absurd h8 h
    ·rw [ne δ];exact fun h => absurd h9 h
    ·rw [ne δ];exact fun h => absurd h7 h
    ·rw [ne δ];exact fun h => absurd h8 h
    ·rw [ne δ];exact fun h => absurd h9 h
    ·rw [cj δ,iW δ,L_ hjD hDn,iy h8,my h9];exact H
   ·have h8:=n8 hjD
    have h9:=n9 h8
    have h3:=hpre (7,[3,6]) (by simp) rfl 3 (by simp)
    have h6:=hpre (7,[3,6]) (by simp) rfl 6 (by simp)
    refine wi O O zE (qY w' ((255:Nat):Int) ((q1:Nat):Int) ((m:Nat):Int) ((q2:Nat):Int) 255 q1 m q2 ω ω ω ω) (by simp [ev,f3 h3,f6 h6,r109]) ?_
    rintro e w2 ⟨he,rfl⟩
    refine ⟨_,he,⟨q1,q2,b8,ia',ic',hq1,hq2,?_,?_,?_,fun _ => rfl,?_,?_,?_,?_,?_,?_⟩,r105,r107,r109,r110,r1,r2,r9,r10,r11,r12,r13,r15,r16,r44,r45,r95,r96⟩
    ·rw [ne δ];exact f1
    ·rw [ne δ];exact f3
    ·rw [ne δ];exact f6
    ·rw [ne δ];exact fun h => absurd h8 h
    ·rw [ne δ];exact fun h => absurd h9 h
    ·exact fun _ => ⟨by rw [ne δ];exact h3,by rw [ne δ];exact h6⟩
    ·rw [ne δ];exact fun h => absurd h8 h
    ·rw [ne δ,ne δ];exact fun h => absurd h9 h
    ·rw [cj δ,iW δ,Ef δ δ];exact H
   ·have h9:=n9 hjD
    have h7:=hpre (8,[7]) (by simp) rfl 7 (by simp)
    rw [iy hjD,my h9] at H
    refine qK O H gj (nums .u32 [pP q1 m q2]) O (ps:=[(0,.int .u32 (pP q1 m q2:Nat))]) (by simp [ev,f7 h7]) δ δ κ ?_
    intro w2 b2 _ _ H
    refine ⟨⟨q1,q2,b2,ia',ic',hq1,hq2,?_,?_,?_,?_,fun _ => rfl,?_,?_,?_,?_,?_⟩,r105,r107,r109,r110,r1,r2,r9,r10,r11,r12,r13,r15,r16,r44,r45,r95,r96⟩
    ·rw [ne δ];exact f1
    ·rw [ne δ];exact f3
    ·rw [ne δ];exact f6
    ·rw [ne δ];exact f7
    ·rw [ne δ];exact fun h => absurd h9 h
    ·rw [ne δ,ne δ,ne δ];exact m7
    ·exact fun _ => by rw [ne δ];exact h7
    ·rw [ne δ];exact fun h => absurd h9 h
    ·rw [l8 hDn,iW δ,my h9,Ef δ δ];exact H
   ·have h1_:=hpre (9,[1,8]) (by simp) rfl 1 (by simp)
    have h8:=hpre (9,[1,8]) (by simp) rfl 8 (by simp)
    rw [vY h8,my hjD] at H
    refine rn O H 6 gj δ O (f1 h1_) O (f8 h8) (news:=nums .u32 [pP q1 m q2]) O (fun j u hj => by rw [Nat.zero_add];exact H.cell 0 O hj) (fD _ _) (by simp only [maxLen];omega) ω ?_
    intro a2 c2 w2 _ H
    simp only [List.set,List.cons_append,List.nil_append] at H
    refine ⟨⟨q1,q2,b8,a2,c2,hq1,hq2,?_,?_,?_,?_,?_,fun _ => rfl,?_,?_,?_,?_⟩,r105,r107,r109,r110,r1,r2,r9,r10,r11,r12,r13,r15,r16,r44,r45,r95,r96⟩
    ·rw [ne δ];exact f1
    ·rw [ne δ];exact f3
    ·rw [ne δ];exact f6
    ·rw [ne δ];exact f7
    ·rw [ne δ];exact f8
    ·rw [ne δ,ne δ,ne δ];exact m7
    ·rw [ne δ,ne δ];exact m8
    ·exact fun _ => by rw [ne δ];exact h8
    ·rw [cj δ,vY h8,Cc hDn,Ef δ δ];exact H
  clear H r1 r2 r9 r10 r11 r12 r13 r15 r16 r17 r44 r45 r95 r96
  rintro ρ w9 ⟨⟨q1,q2,b8,ia',ic',hq1,hq2,f1,f3,f6,f7,f8,f9,m7,m8,m9,H⟩,r105,r107,r109,r110,r1,r2,r9,r10,r11,r12,r13,r15,r16,r44,r45,r95,r96⟩
  have r114:=f9 (by simp)
  rw [j5,At,KA] at H
  clear f1 f3 f6 f7 f8 f9 m7 m8 m9
  refine Ht 10 O κ κ κ O trivial (fun w hI => iQ iP r13) (y7 11 O κ (td vp O r114 O (H.cell 5 (off:=3) (v:=.slice ia img.length ic) O O) (H.fz 5 O)) trivial ?_)
  replace H:=H.put 5 (off:=3) (.slice ia' (img.length+1) ic') rfl
  refine g7 κ (aF (tn ?_))
  exact ⟨q1,q2,ia',ic',hq1,hq2,r1,r2,r9,r10,r11,r12,r13,r15,r16,r44,r45,r95,r96,by rw [dT];exact H.sub [1,2,3,4,5,6] O δ⟩
 case refine_2 =>
 clear H r1 r2 r9 r10 r11 r12 r13 r44 r45 r78
 rintro ρ w7 ⟨img,ia,ic,kk,himg,hall,hkk1,hkk2,r1,r2,r9,r10,r11,r12,r13,r15,r16,r44,r45,H⟩
 have hvi:bT w7 ia ic 36 1 img.length (nums .u32 img):=H.get (i:=5) rfl
 obtain ⟨g,rfl,_⟩:=hvi.cell ω
 clear hvi
 refine Cy (bH r10 (aU eV r13 (aC a_ O (H.cell 4 (v:=iT bits) O O) (bw (r:=((bits - 2:Nat):Int)) O O (iw (b:=2) ω) (di H 0 O (bits - 2) 3 ω ω ω O O O O ?_)))))
 intro w a8 c8 H
 simp only [List.set] at H
 refine Lt ?_
 obtain ⟨X3,hX3⟩:∃ X3,X3=X2++aV (bits - 2) 3:=⟨_,rfl⟩
 have hX3l:X3.length=X.length+6:=by rw [hX3,List.length_append,kZ];omega
 rw [← hX3] at H
 have hvi:bT w (aT g) ic 36 1 img.length (nums .u32 img):=H.get (i:=5) rfl
 have hic:img.length≤ic:=by
  rcases hvi with ⟨h0,_⟩ | ⟨g',cur',h0,_,h1,_⟩
  ·cases h0
  ·exact h1
 have hg0:=dl H.apart (i:=5) (j:=0) rfl rfl δ g (by simp [aA,bQ])
 have hg1:=dl H.apart (i:=5) (j:=1) rfl rfl δ g (by simp [aA,bQ])
 refine Cy (bH r10 (aU iP r13 (aC gw O (H.cell 4 (v:=.slice (aT g) img.length ic) O O) (ai r15 (ai r16 (bH r9 ?_))))))
 refine rh (others:=[fx .i64 mb (gV (l.map (·.kind)++[kind])),r,aa b13 (gW kind bits now (.slice (aT g) img.length ic)) 47,aA (aT g) ic 36 1 img.length (nums .u32 img)]) (sO false) H hw hS0 hBW (lH hvi) (fun s hs => ?_) himg ω hic hta.1 htb.1 (fun q hq => (hall q hq).1) (by unfold Bk;simp;omega) (by unfold A8;simp;omega) O O O O O O O ?_
 ·simp only [List.mem_cons,List.not_mem_nil,or_false] at hs
  rcases hs with rfl | rfl
  ·exact hg0
  ·exact hg1
 intro w a9 c9 Zp k9 hZ hZl hk9 hk9' H
 refine Lt ?_
 replace H:St W [] [eI wb a9 c9 (X3++Zp),aa cb (dt v k9) 39,fx .i64 mb (gV (l.map (·.kind)++[kind])),r,aa b13 (gW kind bits now (.slice (aT g) img.length ic)) 47,aA (aT g) ic 36 1 img.length (nums .u32 img)] w:=H
 obtain ⟨hrow,hqc,hdis⟩:=hC.row hr hpb hpc H (i:=3) rfl
 have hvi2:bT w (aT g) ic 36 1 img.length (nums .u32 img):=H.get (i:=5) rfl
 have hzm:DN false=700000:=rfl
 have hkm:E3 false=100000:=rfl
 have hn3:¬ kind=3:=hk3
 refine Cr (Lp (fH (cs:=gW kind bits now (.slice (aT g) img.length ic)) pf r13 O (fun j hj => by rw [Nat.zero_add];exact (H.blk (i:=4) O).cell j)) (bU r2 (ai r1 (Dm H ⟨kind,now,bits,img⟩ ht (by show kind≤3;omega) hnow1 h2 hb9 hrow hc32 hcl hcn (fun _ => ⟨g,ic,O,lH hvi2⟩) (fun _ => ⟨by show img.length=aq now bits * aq ht bits;rw [himg,haw,hah],fun q hq => (hall q hq).1⟩) (fun h q hq => (hall q hq).2 h) (fun h => absurd h hn3) (by show img.length≤4096;omega) O O O O ?_))))
 intro w g2 gc H
 refine gS O (Ln (aF (aF (tn ?_))))
 have hnw:i0 ⟨kind,now,bits,img⟩=now:=by unfold i0;rw [if_neg hn3]
 have hEn:Di wd ht ra (i+1) px (l++[⟨kind,now,bits,img⟩]) (i0 ⟨kind,now,bits,img⟩) (k8 ht ⟨kind,now,bits,img⟩ cur) (X3++Zp) k9 :=
  hE.step (t:=⟨kind,now,bits,img⟩) (Xp:=Zp) (by show kind≤3;omega) rfl ω hki h2 (qu (by show kind≤3;omega) rfl (fun _ => ⟨by show 2≤bits;omega,hb9,by rw [Au,haw,hah] at hZ;exact hZ⟩) (fun h => absurd h hk2) (fun h => absurd h hn3)) (fun h => absurd h hn3) (by rw [hX3,hX2];unfold pY;rw [if_pos (show kind≤1 from hk1)];simp) (by rw [List.length_append];omega) ω
 rw [hnw] at hEn
 exact ⟨a9,c9,X3++Zp,k9,l++[⟨kind,now,bits,img⟩],now,_,g2,0,gc,_,hEn,.inr ⟨O,O⟩,r1,O,r9,r10,r11,r12,r44,r45,by rw [List.map_append];exact H.sub [1,2,3,0] O δ⟩
end Go.Proofs.YtmgemcffhbnpfaaGreatDoor
set_option maxHeartbeats 1000000
namespace Go.Proofs.YtmgemcffhbnpfaaGreatDoor
open Go
theorem H_.keep {v:Value} {n:Nat} {w w':World} (h:H_ v n w) (hf:cf [] w w'):H_ v n w':=by
 obtain ⟨a,c,rfl,h⟩:=h
 refine ⟨a,c,O,h.imp id ?_⟩
 rintro ⟨sb,so,ls,rfl,hn,hp⟩
 exact ⟨sb,so,ls,O,hn,hp.keep hf List.not_mem_nil⟩
def EY (v:Value) (n:Nat) (w:World):Prop:=∃ a c,v=.slice a n c∧(n=0∨∃ sb so,∃ zs:List Int,a=some ⟨sb,so,none⟩∧n=zs.length∧∀ j (h:j<zs.length),w.cell? ⟨sb,so+j,none⟩=some (.int .i64 zs[j]))
theorem EY.keep {v:Value} {n:Nat} {w w':World} (h:EY v n w) (hf:cf [] w w'):EY v n w':=by
 obtain ⟨a,c,rfl,h⟩:=h
 refine ⟨a,c,O,h.imp id ?_⟩
 rintro ⟨sb,so,zs,rfl,hn,hp⟩
 exact ⟨sb,so,zs,O,hn,fun j hj => hf.cell (hp j hj) List.not_mem_nil⟩
theorem EY.way {v:Value} {n:Nat} {w:World} (h:EY v n w) (hn:n≤2147483647) {pb:Nat} (hpb:pb<w.heap.size):∃ B,jA B v w:=by
 obtain ⟨a,c,rfl,h⟩:=h
 by_cases h0:n=0
 ·exact ⟨pb,hpb,a,n,c,O,hn,.inl h0⟩
 ·rcases h with h | ⟨sb,so,zs,rfl,hl,hp⟩
  ·exact absurd h h0
  ·exact ⟨sb,World.block_lt_of_cell? w _ (hp 0 ω),_,n,c,O,hn,.inr ⟨sb,so,zs,O,hl,O,hp⟩⟩
theorem E7 (X:aM) (j:Nat) (h:j<(gY X).length):(bM .u8 (d8 X) (nB X))[j]?=some (.int .u8 ((gY X)[j]:Nat)):=by
 rw [iN] at h
 rw [af h]
 simp [gY]
theorem C2 (X:aM):bM .u8 (d8 X) (nB X)=nums .u8 (gY X):=by simp [bM,nums,gY]
theorem HF.sin {W w':World} {X:aM} {e:Ending} (h:HF W X e w') (hX:0<nB X) (hG:Gl W):∃ sb c,e=.returned (.slice (aT sb) (gY X).length c)∧FE sb 0 (gY X) w'∧cf [] W w'∧W.heap.size≤sb∧(gY X).length≤c∧bT w' (aT sb) c 5 1 (gY X).length (nums .u8 (gY X))∧X.length≤10000000:=by
 obtain ⟨a,c,rfl,hv,hfa,hf,hXl⟩:=h
 obtain ⟨sb,rfl,hc⟩:=hv.cell hX
 have hcc:nB X≤c∧c≤maxLen:=by
  rcases hv with ⟨h0,_⟩ | ⟨g,cur,h0,_,h1,h2,_⟩
  ·cases h0
  ·exact ⟨h1,h2⟩
 refine ⟨sb,c,by rw [iN],⟨hG.keep hf (by intro b hb;simp at hb),fun j hj => by rw [Nat.zero_add];exact hc j _ (E7 X j hj),F2 X,?_,?_⟩,hf,hfa sb (by simp [bQ]),by rw [iN];exact hcc.1,by rw [iN,← C2];exact hv,hXl⟩
 ·rw [iN]
  unfold nB
  omega
 ·exact World.block_lt_of_cell? w' _ (hc 0 _ (af hX))
theorem FS {X:aM} {v:Nat × Nat × List Nat} (h:d7 iS X v):∃ R',iS (fi (gY X))=some (v,R'):=by
 obtain ⟨k,_,e⟩:=Fb X
 rw [e]
 exact ⟨_,h _⟩
theorem Ec {X:aM} {v:Nat × Nat × List Nat} (h:d7 iS X v):0<nB X:=by
 refine Nat.pos_of_ne_zero fun h0 => ?_
 have hX:X=[]:=List.eq_nil_of_length_eq_zero (by unfold nB at h0;omega)
 subst hX
 have:=h []
 cases this
section
variable {w:World} {nn:Nat} {ops:Array Oper} {lo:List Oper} {Q:cY} {rest:List Oper} {ρ:dK} {ty:TypeId} {pos:String} {after:Array Edge} {x1 x2 x3 x4:Operand} {d:Nat} {ts:Array TypeId} {wd ht pb po pc n m:Nat} {px:List Nat} {v lv:Value}
theorem xS {x y:Int} {ln:Nat} (hm0:0<m) (hm:m≤16384) (L:H_ lv ln w) (hd:Nat.blt d nn=true) (h1:ev ρ x1=.int .i64 x) (h2:ev ρ x2=.int .i64 y) (h3:ev ρ x3=iT m) (h4:ev ρ x4=lv)
  (h:∀ w' wd ht px pb c,cf [] w w'→1≤wd→wd≤m→1≤ht→ht≤m→px.length=wd * ht→FG pb 0 px w'→px.length≤c→w.heap.size≤pb→bT w' (aT pb) c 36 1 px.length (nums .u32 px)→VL Tryz.prog nn ops Q rest (eW ρ d (.tuple #[iT wd,iT ht,.slice (aT pb) px.length c])) w') :
  VL Tryz.prog nn ops Q (⟨some d,.call ⟨.value (.func 5),#[x1,x2,x3,x4],ts⟩,ty,pos,after,none⟩ :: rest) ρ w :=
 aS hd LN (AC w x y m lv ln hm0 hm L) (by simp [h1,h2,h3,h4]) fun e w' ⟨hf,wd,ht,px,a,c,he,g1,g2,g3,g4,g5,g6,hv,hfa⟩ => by
  have hpos:0<wd * ht:=Nat.mul_pos g1 g3
  obtain ⟨pb,rfl,hc⟩:=hv.cell hpos
  rw [← g5] at he hv
  have hc2:px.length≤c:=by
   rcases hv with ⟨h0,_⟩ | ⟨g,cur,h0,_,h1,h2,_⟩
   ·cases h0
   ·exact h1
  have hrow:=lH hv
  exact ⟨_,he,h w' wd ht px pb c hf g1 g2 g3 g4 g5 ⟨hrow,g6,World.block_lt_of_cell? w' _ (hrow 0 ω)⟩ hc2 (hfa pb (by simp [bQ])) hv⟩
theorem ul (G:Gl w) (I:FG pb po px w) (hpc:px.length≤pc) (hl:px.length=wd * ht) (hn:px.length≤4096) (g1:1≤wd) (g2:1≤ht) (hw:EY v n w) (hn2:n≤2147483647) (hd:Nat.blt d nn=true)
  (h1:ev ρ x1=iT wd) (h2:ev ρ x2=iT ht) (h3:ev ρ x3=.slice (some ⟨pb,po,none⟩) px.length pc) (h4:ev ρ x4=v)
  (h:∀ w' X sb c,cf [] w w'→d7 iS X (wd,ht,px)→FE sb 0 (gY X) w'→w.heap.size≤sb→(gY X).length≤c→0<nB X→bT w' (aT sb) c 5 1 (gY X).length (nums .u8 (gY X))→X.length≤10000000→VL Tryz.prog nn ops Q rest (eW ρ d (.slice (aT sb) (gY X).length c)) w') :
  VL Tryz.prog nn ops Q (⟨some d,.call ⟨.value (.func 6),#[x1,x2,x3,x4],ts⟩,ty,pos,after,none⟩ :: rest) ρ w:=by
 obtain ⟨B,hB⟩:=hw.way hn2 I.sbl
 refine aS hd Ll (CU w wd ht pb po pc B px v I.row hpc hl hn g1 g2 I.small hB) (by simp [h1,h2,h3,h4]) fun e w' ⟨X,hS,hR⟩ => ?_
 obtain ⟨sb,c,he,hI,hf,hsb,hc,hV,hXl⟩:=hS.sin (Ec hR) G
 exact ⟨_,he,h w' X sb c hf hR hI hsb hc (Ec hR) hV hXl⟩
theorem LI {sb so sc:Nat} {s:List Nat} {R':aM} (I:FE sb so s w) (Ip:FG pb po px w) (hdec:iS (fi s)=some ((wd,ht,px),R')) (hd:Nat.blt d nn=true) (h1:ev ρ x1=.slice (some ⟨sb,so,none⟩) s.length sc)
  (h2:ev ρ x2=iT wd) (h3:ev ρ x3=iT ht) (h4:ev ρ x4=.slice (some ⟨pb,po,none⟩) px.length pc) (h:∀ w',cf [] w w'→VL Tryz.prog nn ops Q rest (eW ρ d (.bool true)) w') :
  VL Tryz.prog nn ops Q (⟨some d,.call ⟨.value (.func 11),#[x1,x2,x3,x4],ts⟩,ty,pos,after,none⟩ :: rest) ρ w :=
 aS hd FK (FM sb so sc s w I pb po pc wd ht px R' Ip hdec) (by simp [h1,h2,h3,h4]) fun e w' ⟨he,hf⟩ => ⟨_,he,h w' hf⟩
theorem Kp {sb so sc:Nat} {s:List Nat} {R':aM} {j dj:Nat} {b:Bool} (I:FE sb so s w) (Ip:FG pb po px w) (hdec:iS (fi s)=some ((wd,ht,px),R')) (hj:(lo[j]?).bind (·.dst)=some dj) (hdj:Nat.blt dj nn=true) (hb:ρ dj=.bool b) (hd:Nat.blt d nn=true) (h1:ev ρ x1=.slice (some ⟨sb,so,none⟩) s.length sc)
  (h2:ev ρ x2=iT wd) (h3:ev ρ x3=iT ht) (h4:ev ρ x4=.slice (some ⟨pb,po,none⟩) px.length pc) (h:∀ w',cf [] w w'→VL Tryz.prog nn lo.toArray Q rest (eW ρ d (.bool true)) w') :
  VL Tryz.prog nn lo.toArray Q (⟨some d,.call ⟨.value (.func 11),#[x1,x2,x3,x4],ts⟩,ty,pos,after,some (j,b)⟩ :: rest) ρ w :=
 kV hj hdj hb hd FK (FM sb so sc s w I pb po pc wd ht px R' Ip hdec) (by simp [h1,h2,h3,h4]) fun e w' ⟨he,hf⟩ => ⟨_,he,h w' hf⟩
end
theorem FE.keep0 {sb so:Nat} {s:List Nat} {w w':World} (h:FE sb so s w) (hf:cf [] w w'):FE sb so s w' :=
 ⟨h.gl.keep hf (by intro b hb;simp at hb),fun j hj => hf.cell (h.bytes j hj) List.not_mem_nil,h.small,h.len,Nat.lt_of_lt_of_le h.sbl hf.size⟩
theorem H_.val {v:Value} {n:Nat} {w:World} (h:H_ v n w):∃ a c,v=.slice a n c:=by obtain ⟨a,c,e,_⟩:=h;exact ⟨a,c,e⟩
theorem EY.val {v:Value} {n:Nat} {w:World} (h:EY v n w):∃ a c,v=.slice a n c:=by obtain ⟨a,c,e,_⟩:=h;exact ⟨a,c,e⟩
theorem Gl.keep0 {w w':World} (h:Gl w) (hf:cf [] w w'):Gl w':=h.keep hf (by intro b hb;simp at hb)
end Go.Proofs.YtmgemcffhbnpfaaGreatDoor
namespace Go.Proofs.YtmgemcffhbnpfaaGreatDoor
open Go Go.ChangeShapes Go.WideShapes Go.ChangeAt Go.RowKit
section
variable {H:Type} {enc:TypeId × Value→H}
theorem vS {P:Program} {W:World} {base:Nat} {t e:TypeId} {k:IntKind} {v:Value} {d:DataW H} {p:List MemPlace} (ht:P.underlying t=some (.slice e)) (he:P.underlying e=some (.int k)) (hc:P.cellsOf e=1)
  (hval:Value.okWide P W .any base t v) (hd:DataW.Trod enc P W 0 (fun _ => true) true t v d p) :
  ∃ a n c,v=.slice a n c∧(n=0∨∃ sb so,∃ zs:List Int,a=some ⟨sb,so,none⟩∧n=zs.length∧(∀ j (h:j<zs.length),W.cell? ⟨sb,so+j,none⟩=some (.int k zs[j]))∧∀ z ∈ zs,(Lit.int k z).wf=true):=by
 obtain ⟨a0,len,cap,rfl⟩:=okWide_slice ht hval
 obtain ⟨fuel,hf⟩:=hd
 rcases Go.ChangeShapes.open_ints ht he hc hf with ⟨h,_⟩ | ⟨a,len',cap',zs,h,_,hl,_,hzl,_,hcell,hwf⟩
 ·simp only [Value.cells,List.cons.injEq,Value.slice.injEq,and_true] at h
  exact ⟨a0,len,cap,O,.inl h.2.1⟩
 ·simp only [Value.cells,List.cons.injEq,Value.slice.injEq,and_true] at h
  obtain ⟨rfl,rfl,rfl⟩:=h
  refine ⟨_,_,_,O,?_⟩
  by_cases h0:len=0
  ·exact .inl h0
  ·right
   simp only [if_true] at hzl
   obtain ⟨b,off,spot⟩:=a
   have hspot:spot=none:=by simpa [Addr.add] using World.cell?_spot (hcell 0 ω)
   subst hspot
   refine ⟨b,off,zs.take len,O,by rw [List.length_take];omega,fun j hj => ?_,fun z hz => hwf z (List.mem_of_mem_take hz)⟩
   rw [List.length_take] at hj
   have:=hcell j ω
   rw [ky] at this
   rw [this,List.getElem_take]
   simp [show j<zs.length by omega]
theorem Lr {W:World} {base:Nat} {v:Value} {d:DataW H} {p:List MemPlace} (hval:Value.okWide Tryz.prog W .any base 22 v) (hd:DataW.Trod enc Tryz.prog W 0 (fun _ => true) true 22 v d p):∃ n,H_ v n W:=by
 obtain ⟨a,n,c,rfl,h⟩:=vS Tryz.underlying22 Tryz.underlying36 κ hval hd
 refine ⟨n,a,c,O,?_⟩
 by_cases h0:n=0
 ·exact .inl h0
 rcases h with h | ⟨sb,so,zs,rfl,rfl,hz,hwf⟩
 ·exact absurd h h0
 right
 have hz0:∀ j (h:j<zs.length),((zs[j].toNat:Nat):Int)=zs[j]∧zs[j].toNat<4294967296:=fun j hj => by
  have:=hwf _ (List.getElem_mem hj)
  simp only [Lit.wf,Bool.and_eq_true,decide_eq_true_eq] at this
  have h1:(0:Int)≤zs[j]∧zs[j]≤4294967295:=this
  omega
 refine ⟨sb,so,zs.map Int.toNat,O,by simp,fun j hj => ?_,fun q hq => ?_,World.block_lt_of_cell? W _ (hz 0 ω)⟩
 ·simp only [List.length_map] at hj
  rw [hz j hj,List.getElem_map,(hz0 j hj).1]
 ·obtain ⟨z,hz2,rfl⟩:=List.mem_map.1 hq
  obtain ⟨j,hj,rfl⟩:=List.mem_iff_getElem.1 hz2
  exact (hz0 j hj).2
theorem IU {W:World} {base:Nat} {v:Value} {d:DataW H} {p:List MemPlace} (hval:Value.okWide Tryz.prog W .any base 23 v) (hd:DataW.Trod enc Tryz.prog W 0 (fun _ => true) true 23 v d p):∃ n,EY v n W:=by
 obtain ⟨a,n,c,rfl,h⟩:=vS Tryz.underlying23 Tryz.underlying3 κ hval hd
 refine ⟨n,a,c,O,h.imp id ?_⟩
 rintro ⟨sb,so,zs,rfl,rfl,hz,_⟩
 exact ⟨sb,so,zs,O,O,hz⟩
theorem rW {P:Program} (hl:laidOutB P=true) {W W':World} (hb:Below W.heap.size W W'):∀ (ts:List TypeId) (vs:List Value) (ds:List (DataW H)) (ps:List MemPlace),(∀ t ∈ ts,P.readableRec t=true∧t<P.types.size)→(∀ x ∈ ps,x.block<W.heap.size) →
  DataW.TrodAll enc P W 0 (fun _ => true) true ts vs ds ps→DataW.TrodAll enc P W' 0 (fun b => decide (b<W.heap.size)) true ts vs ds ps
 | [],vs,ds,ps,hr,hlt,h => by
  obtain ⟨rfl,rfl,rfl⟩:=trodAll_nil h
  exact trodAll_mk0
 | t :: ts,vs,ds,ps,hr,hlt,h => by
  obtain ⟨v,vs',d,ds',p,p',rfl,rfl,rfl,h1,h2⟩:=trodAll_cons h
  obtain ⟨r1,r2⟩:=hr t (by simp)
  exact trodAll_cons_mk (Below.trod hl r1 r2 h1 hb fun x hx => hlt x (List.mem_append_left _ hx)) (rW hl hb ts vs' ds' p' (fun t ht => hr t (List.mem_cons_of_mem _ ht)) (fun x hx => hlt x (List.mem_append_right _ hx)) h2)
theorem BR {W W':World} (h:cf [] W W') (may:MemPlace→Prop):W.keptBut W' may:=by
 refine ⟨h.os,h.output,fun i hi => ?_⟩
 rw [h.block i hi (by simp)]
 split
 ·rename_i c t fr c' t' fr' e1 e2
  rw [e1] at e2
  cases e2
  exact ⟨O,O,O,fun _ _ => rfl⟩
 ·rename_i e1 e2
  rw [e1] at e2
  cases e2
  exact .inr ⟨O,O⟩
 ·rfl
theorem Jj:laidOutB Tryz.prog=true:=κ
theorem BO {f:Func} {s:ChangeSpec} {W W':World} {args:Array Value} {ds:List (DataW H)} {before:List MemPlace} (hvars:s.vars=[]) (hW:DataW.Whole enc Tryz.prog f.params.toList s.vars false W args.toList ds [] before)
  (hfn:s.fn H (ds++[])={ results:=[.lit (.bool true)],args:=ds }) (hres:f.resultTypes=#[4]) (hr:∀ t ∈ f.params.toList,Tryz.prog.readableRec t=true∧t<Tryz.prog.types.size) (hf:cf [] W W') :
  s.post enc Tryz.prog f false true false false W args (.bool true) W':=by
 have hlt:=hW.lt
 have hW2:=hW
 obtain ⟨p,q,hA,hV,rfl,hfz,hnd⟩:=hW2
 rw [hvars] at hV
 obtain ⟨_,rfl⟩:=trodVars_none hV
 refine ⟨ds,[],_,[],p,[],hW,?_,?_,?_,BR hf _,fun h => nomatch h⟩
 ·rw [hres,hfn]
  exact trodAll_mk1 (shut_bool Tryz.underlying4 _)
 ·rw [hfn]
  exact rW Jj hf.below _ _ _ _ hr (fun x hx => by simpa using hlt x (List.mem_append_left _ hx)) hA
 ·rw [hfn,hvars]
  rfl
end
theorem own:ownKnob Tryz.prog.godebug=none:=κ
theorem Bv (os:Os) (args:Array Value):laidMetH Tryz.prog iZ ((World.doorLaid Tryz.prog 2000 os).forCall (fun _ _ => 0) ⟨#[],args,[]⟩).memory :=
 laidMetH_of_parts3 (fuel:=8) (laidMet_of_run' 8 κ κ) κ κ
end Go.Proofs.YtmgemcffhbnpfaaGreatDoor
namespace Go.Proofs.YtmgemcffhbnpfaaGreatDoor
structure RS where
 R:aM
 f:Bool
 o:Bool
abbrev SM (α:Type):=RS→α × RS
def RS.fail (s:RS):RS:=⟨s.R,true,s.o⟩
def RS.odd (s:RS) (b:Bool):RS:=⟨s.R,s.f,s.o || b⟩
def RS.bad (s:RS) (b:Bool):RS:=⟨s.R,true,s.o || b⟩
def cW {α β:Type} (m:SM α) (k:α→SM β):SM β:=fun s => k (m s).1 (m s).2
def fW {α:Type} (v:α):SM α:=fun s => (v,s)
def sb (n:Nat):SM Nat:=fun s => if n≤s.R.length then (val (s.R.take n),⟨s.R.drop n,s.f,s.o⟩) else (0,⟨[],true,s.o⟩)
def ce {α:Type} (m:SM α):Prop:=∀ s,(s.f=true→(m s).2.f=true)∧(s.o=true→(m s).2.o=true)
def Ag {α β:Type} (rel:α→β→Prop) (m:SM α) (p:jh β):Prop:=∀ R,(m ⟨R,false,false⟩).2.o=false →
 ((m ⟨R,false,false⟩).2.f=false→∃ v,p R=some (v,(m ⟨R,false,false⟩).2.R)∧rel (m ⟨R,false,false⟩).1 v)∧((m ⟨R,false,false⟩).2.f=true→p R=none)
section
variable {α β γ δ:Type}
theorem ce.ret (v:α):ce (fW v):=fun s => ⟨id,id⟩
theorem ce.bind {m:SM α} {k:α→SM β} (hm:ce m) (hk:∀ v,ce (k v)):ce (cW m k):=fun s =>
 ⟨fun h => (hk _ _).1 ((hm s).1 h),fun h => (hk _ _).2 ((hm s).2 h)⟩
theorem cC {c:Prop} [Decidable c] {m n:SM α} (hm:ce m) (hn:ce n):ce (if c then m else n):=by split <;> assumption
theorem ce.sb (n:Nat):ce (sb n):=fun s => by
 unfold Go.Proofs.YtmgemcffhbnpfaaGreatDoor.sb
 split <;> simp
theorem ce.fail (g:RS→α):ce (fun s => (g s,s.fail)):=fun s => ⟨fun _ => rfl,id⟩
theorem gM (g:RS→α) (c:RS→Bool):ce (fun s => (g s,if c s then s.fail else s)):=fun s => by
 by_cases h:c s=true
 ·simp [h,RS.fail]
 ·simp [h]
theorem ly (g:RS→α) (c:RS→Bool):ce (fun s => (g s,s.odd (c s))):=fun s => ⟨id,fun h => by simp [RS.odd,h]⟩
theorem Fx (g:RS→α) (c b:RS→Bool):ce (fun s => (g s,if c s then s.bad (b s) else s)):=fun s => by
 by_cases h:c s=true
 ·simp +contextual [h,RS.bad]
 ·simp [h]
theorem eK {m:SM α} (g:RS→α) (c:RS→Bool) (hm:ce m):ce (fun s => if c s=true∨s.f=true then (g s,s) else m s):=fun s => by
 by_cases h:c s=true∨s.f=true
 ·simp [h]
 ·simp only [h,if_false]
  exact hm s
theorem Ag.ret {rel:α→β→Prop} {v:α} {u:β} (h:rel v u):Ag rel (fW v) (ret u):=fun R _ => ⟨fun _ => ⟨u,rfl,h⟩,fun h => (by cases h)⟩
theorem jq {rel:α→β→Prop} {rel2:γ→δ→Prop} {m:SM α} {p:jh β} {k:α→SM γ} {q:β→jh δ} (P:α→Prop) (hm:Ag rel m p) (hP:∀ s,P (m s).1) (sk:∀ v,ce (k v)) (hk:∀ v u,rel v u→P v→Ag rel2 (k v) (q u)):Ag rel2 (cW m k) (pb p q):=by
 intro R ho
 have h1:=hm R
 have hp:=hP ⟨R,false,false⟩
 unfold cW at ho ⊢
 generalize m ⟨R,false,false⟩=r at *
 obtain ⟨v,R1,f1,o1⟩:=r
 simp only at *
 cases o1 with
 | true => rw [((sk v) _).2 rfl] at ho;cases ho
 | false =>
  obtain ⟨a,b⟩:=h1 rfl
  cases f1 with
  | true =>
   have hf:=((sk v) ⟨R1,true,false⟩).1 rfl
   exact ⟨fun h => (by rw [hf] at h;cases h),fun _ => dN (b O)⟩
  | false =>
   obtain ⟨u,hu,hr⟩:=a rfl
   rw [dp hu]
   exact hk v u hr hp R1 ho
theorem Ag.bind {rel:α→β→Prop} {rel2:γ→δ→Prop} {m:SM α} {p:jh β} {k:α→SM γ} {q:β→jh δ} (hm:Ag rel m p) (sk:∀ v,ce (k v)) (hk:∀ v u,rel v u→Ag rel2 (k v) (q u)):Ag rel2 (cW m k) (pb p q) :=
 jq (fun _ => True) hm (fun _ => trivial) sk (fun v u h _ => hk v u h)
theorem kN {rel:α→β→Prop} {c:Prop} [Decidable c] {m n:SM α} {p q:jh β} (h1:c→Ag rel m p) (h2:¬ c→Ag rel n q):Ag rel (if c then m else n) (if c then p else q):=by
 by_cases h:c
 ·rw [if_pos h,if_pos h];exact h1 h
 ·rw [if_neg h,if_neg h];exact h2 h
theorem y3 {rel:α→β→Prop} {m:SM α} {p q:jh β} (h:Ag rel m p) (he:∀ R,q R=p R):Ag rel m q:=fun R ho => by rw [he];exact h R ho
theorem Ag.no {rel:α→β→Prop} {g:RS→α}:Ag rel (fun s => (g s,s.fail)) (no:jh β):=fun R _ => ⟨fun h => (by cases h),fun _ => rfl⟩
theorem Ag.sb (n:Nat):Ag Eq (sb n) (rd n):=by
 intro R ho
 unfold Go.Proofs.YtmgemcffhbnpfaaGreatDoor.sb rd at *
 by_cases h:n≤R.length
 ·simp only [h,if_true] at ho ⊢
  exact ⟨fun _ => ⟨_,O,by first | rfl | trivial⟩,fun h => (by cases h)⟩
 ·simp only [h,if_false] at ho ⊢
  exact ⟨fun h => (by cases h),fun _ => (by trivial)⟩
theorem jN {rel:α→β→Prop} {m n:SM α} {p:jh β} (h:Ag rel n p) (he:∀ R,m ⟨R,false,false⟩=n ⟨R,false,false⟩):Ag rel m p:=fun R => by rw [he R];exact h R
end
theorem fG (n:Nat) (s:RS):(sb n s).1<2 ^ n:=by
 unfold sb
 split
 ·rename_i h
  have:=uO (s.R.take n)
  rw [List.length_take,Nat.min_eq_left h] at this
  exact this
 ·exact Nat.two_pow_pos n
def CX (ls:List Nat):Bool:=decide (ls.countP (·≠0)=1) || decide (eD ls=2 ^ 15)
def qw (ls:List Nat):Bool:=decide (2 ^ 15<eD ls)
def kO (ls:List Nat) (l n:Nat):Option Nat:=(List.range ls.length).find? fun s => decide (ls.getD s 0=l) && decide (dq ls s=n)
def fA (ls:List Nat):Nat→Nat→Nat→SM Nat
 | 0,l,n => fun s => (0,s.fail)
 | k+1,l,n => cW (sb 1) fun b => fun s => match kO ls l (2 * n+b) with
  | some x => if s.f then fA ls k (l+1) (2 * n+b) s else (x,s)
  | none => fA ls k (l+1) (2 * n+b) s
def jt (ls:List Nat):SM Nat:=fun s => if ls.countP (·≠0)=1 then (j7 ls,s) else fA ls 15 1 0 s
theorem nR (ls:List Nat):∀ (k l n:Nat),ce (fA ls k l n)
 | 0,l,n => ce.fail _
 | k+1,l,n => (ce.sb 1).bind fun b => by
  have h:=nR ls k (l+1) (2 * n+b)
  intro s
  cases hx:kO ls l (2 * n+b) with
  | none => simp only [hx];exact h s
  | some x =>
   simp only [hx]
   by_cases hf:s.f=true
   ·rw [if_pos hf];exact h s
   ·rw [if_neg hf];exact ⟨id,id⟩
theorem fj (ls:List Nat):ce (jt ls):=fun s => by
 unfold jt
 split
 ·exact ⟨id,id⟩
 ·exact nR ls _ _ _ s
theorem wX {ls:List Nat} {l n x:Nat} (h:kO ls l n=some x):x<ls.length∧ls.getD x 0=l∧dq ls x=n:=by
 unfold kO at h
 have h1:=List.find?_some h
 have h2:=List.mem_of_find?_eq_some h
 simp only [Bool.and_eq_true,decide_eq_true_eq] at h1
 exact ⟨List.mem_range.1 h2,h1.1,h1.2⟩
theorem sM {ls:List Nat} (hl:0<ls.length):∀ (k l n:Nat) (s:RS),(fA ls k l n s).1<ls.length
 | 0,l,n,s => hl
 | k+1,l,n,s => by
  unfold fA cW
  simp only
  split
  ·rename_i x hx
   split
   ·exact sM hl k _ _ _
   ·exact (wX hx).1
  ·exact sM hl k _ _ _
theorem lK {ls:List Nat} (hl:0<ls.length) (s:RS):(jt ls s).1<ls.length:=by
 unfold jt
 split
 ·exact sA hl
 ·exact sM hl _ _ _ _
def sZ:Nat→Nat→(Nat→Nat)→SM (Nat→Nat)
 | 0,i,f => fW f
 | k+1,i,f => cW (sb 3) fun v => sZ k (i+1) (fun j => if j=ry i then v else f j)
def ot (n:Nat):SM Nat:=cW (sb 1) fun u => if u=0 then fW n else cW (sb 3) fun k => cW (sb (2+2 * k)) fun ms => fun s => (ms+2,if decide (n<ms+2) then s.fail else s)
def cT (own:List Nat) (n:Nat):Nat→List Nat→Nat→Nat→SM (List Nat)
 | 0,acc,left,before => fW acc
 | k+1,acc,left,before => fun s => if (decide (n≤acc.length) || decide (left=0))=true∨s.f=true then (acc,s) else
  (cW (jt own) fun c => if c<16 then cT own n k (acc++[c]) (left - 1) (if c≠0 then c else before)
   else cW (sb (repB (c - 16))) fun v => if n<acc.length+(v+repO (c - 16)) then fun s => (acc,s.fail) else
    cT own n k (acc++List.replicate (v+repO (c - 16)) (if c=16 then before else 0)) (left - 1) before) s
def sQ (n:Nat) (l:List Nat):List Nat:=l++List.replicate (n - l.length) 0
def kg (ls:List Nat):SM (List Nat):=fun s => (ls,if !CX ls then s.bad (qw ls) else s)
def nE (n:Nat):SM (List Nat):=cW (sb 4) fun nc => cW (sZ (nc+4) 0 (fun _ => 0)) fun f => cW (ot n) fun left => cW (kg ((List.range 19).map f)) fun own => cW (cT own n n [] left 8) fun l => fW (sQ n l)
def mw (two first:Nat):SM (Option Nat):=if two=0 then fW none else cW (sb 8) fun x => fun s => (some x,s.odd (decide (x≤first)))
def gd (m first:Nat) (sec:Option Nat):List Nat:=(List.range m).map fun j => if j=first∨some j=sec then 1 else 0
def kM (n:Nat):SM (List Nat):=cW (sb 1) fun two => cW (sb 1) fun e => cW (sb (1+7 * e)) fun first => cW (mw two first) fun sec => fun s =>
 ((gd (max n 256) first sec).take n,if ((gd (max n 256) first sec).drop n).any (0<·) then s.fail else s)
def fP (n:Nat):SM (List Nat):=cW (cW (sb 1) fun u => if u=0 then nE n else kM n) kg
theorem sT:∀ (k i:Nat) (f:Nat→Nat),ce (sZ k i f)
 | 0,i,f => ce.ret f
 | k+1,i,f => (ce.sb 3).bind fun v => sT k _ _
theorem ui (n:Nat):ce (ot n):=(ce.sb 1).bind fun u => cC (ce.ret n) ((ce.sb 3).bind fun k => (ce.sb _).bind fun ms => gM _ _)
theorem fk (own:List Nat) (n:Nat):∀ (k:Nat) (acc:List Nat) (left before:Nat),ce (cT own n k acc left before)
 | 0,acc,left,before => ce.ret acc
 | k+1,acc,left,before => eK (fun _ => acc) (fun _ => decide (n≤acc.length) || decide (left=0)) ((fj own).bind fun c => cC (fk own n k _ _ _) ((ce.sb _).bind fun v => cC (ce.fail _) (fk own n k _ _ _)))
theorem jK (ls:List Nat):ce (kg ls):=Fx _ (fun _ => !CX ls) (fun _ => qw ls)
theorem yP (n:Nat):ce (nE n):=(ce.sb 4).bind fun nc => (sT _ _ _).bind fun f => (ui n).bind fun left => (jK _).bind fun own => (fk _ _ _ _ _ _).bind fun l => ce.ret _
theorem nQ (two first:Nat):ce (mw two first):=cC (ce.ret _) ((ce.sb 8).bind fun x => ly _ (fun _ => decide (x≤first)))
theorem vG (n:Nat):ce (kM n):=(ce.sb 1).bind fun two => (ce.sb 1).bind fun e => (ce.sb _).bind fun first => (nQ _ _).bind fun sec => gM _ (fun _ => ((gd (max n 256) first sec).drop n).any (0<·))
theorem fO (n:Nat):ce (fP n):=((ce.sb 1).bind fun u => cC (yP n) (vG n)).bind jK
def pJ (c:Nat):SM Nat:=if c<4 then fW (c+1) else cW (sb ((c - 2) / 2)) fun x => fW ((2+c % 2) * 2 ^ ((c - 2) / 2)+x+1)
def jv (w n cc:Nat) (g:Nat→List Nat) (acc:List Nat):SM (List Nat) :=
 cW (jt (g 0)) fun s =>
  if s<256 then cW (jt (g 1)) fun r => cW (jt (g 2)) fun b => cW (jt (g 3)) fun a => fW (acc++[fQ a r s b])
  else if s<280 then cW (pJ (s - 256)) fun len => cW (jt (g 4)) fun ds => cW (pJ ds) fun dc =>
   if acc.length<eX w dc∨n<acc.length+len then fun st => ([],st.fail) else fW (fN (eX w dc) len acc)
  else fW (acc++[dv cc acc (s - 280)])
def fh (w n cc:Nat) (grp:Nat→Nat→List Nat):Nat→List Nat→SM (List Nat)
 | 0,acc => fW acc
 | k+1,acc => fun s => if decide (n≤acc.length)=true∨s.f=true then (acc,s) else cW (jv w n cc (grp acc.length) acc) (fh w n cc grp k) s
def nN (cc:Nat):SM (List (List Nat)):=cW (fP (bm cc 0)) fun a => cW (fP (bm cc 1)) fun b => cW (fP (bm cc 2)) fun c => cW (fP (bm cc 3)) fun d => cW (fP (bm cc 4)) fun e => fW [a,b,c,d,e]
def fw (cc:Nat):Nat→SM (List (List Nat))
 | 0 => fW []
 | k+1 => fun s => if false=true∨s.f=true then ([],s) else cW (nN cc) (fun g => cW (fw cc k) fun ts => fW (g++ts)) s
def A3 (w:Nat) (m:Nat × List Nat) (ts:List (List Nat)) (at_ j:Nat):List Nat:=ts.getD (5 * dF m.1 (aq w m.1) m.2 w at_+j) []
def nF (mt:SM (Nat × List Nat)) (w h cc:Nat):SM (List Nat):=cW mt fun m => cW (fw cc (bB m.2+1)) fun ts => fun s => if false=true∨s.f=true then ([],s) else fh w (w * h) cc (A3 w m ts) (w * h) [] s
def rQ (mt:SM (Nat × List Nat)) (w h:Nat):SM (List Nat):=cW (sb 1) fun u => if u=0 then nF mt w h 0 else cW (sb 4) fun c => if c<1∨11<c then fun s => ([],s.fail) else nF mt w h c
def zF (w h:Nat):SM (List Nat):=rQ (fW (0,[])) w h
def rF (w h:Nat):SM (Nat × List Nat):=cW (sb 1) fun u => if u=0 then fW (0,[]) else cW (sb 3) fun b => cW (zF (aq w (b+2)) (aq h (b+2))) fun px => fW (b+2,px)
def jH (top:Bool) (w h:Nat):SM (List Nat):=rQ (if top then rF w h else fW (0,[])) w h
theorem jI (c:Nat):ce (pJ c):=cC (ce.ret _) ((ce.sb _).bind fun _ => ce.ret _)
theorem Ce (w n cc:Nat) (g:Nat→List Nat) (acc:List Nat):ce (jv w n cc g acc) :=
 (fj _).bind fun s => cC ((fj _).bind fun r => (fj _).bind fun b => (fj _).bind fun a => ce.ret _)
  (cC ((jI _).bind fun len => (fj _).bind fun ds => (jI _).bind fun dc => cC (ce.fail _) (ce.ret _)) (ce.ret _))
theorem ij (w n cc:Nat) (grp:Nat→Nat→List Nat):∀ (k:Nat) (acc:List Nat),ce (fh w n cc grp k acc)
 | 0,acc => ce.ret _
 | k+1,acc => eK (fun _ => acc) (fun _ => decide (n≤acc.length)) ((Ce _ _ _ _ _).bind fun l => ij w n cc grp k l)
theorem EV (cc:Nat):ce (nN cc):=(fO _).bind fun a => (fO _).bind fun b => (fO _).bind fun c => (fO _).bind fun d => (fO _).bind fun e => ce.ret _
theorem ka (cc:Nat):∀ k,ce (fw cc k)
 | 0 => ce.ret _
 | k+1 => eK (fun _ => []) (fun _ => false) ((EV cc).bind fun g => (ka cc k).bind fun ts => ce.ret _)
theorem kj {mt:SM (Nat × List Nat)} (hm:ce mt) (w h cc:Nat):ce (nF mt w h cc):=hm.bind fun m => (ka _ _).bind fun ts => eK (fun _ => []) (fun _ => false) (ij _ _ _ _ _ _)
theorem ze {mt:SM (Nat × List Nat)} (hm:ce mt) (w h:Nat):ce (rQ mt w h):=(ce.sb 1).bind fun u => cC (kj hm _ _ _) ((ce.sb 4).bind fun c => cC (ce.fail _) (kj hm _ _ _))
theorem kS (w h:Nat):ce (zF w h):=ze (ce.ret _) w h
theorem uG (w h:Nat):ce (rF w h):=(ce.sb 1).bind fun u => cC (ce.ret _) ((ce.sb 3).bind fun b => (kS _ _).bind fun px => ce.ret _)
theorem xi (top:Bool) (w h:Nat):ce (jH top w h):=ze (cC (uG w h) (ce.ret _)) w h
def fp (px:List Nat):Bool:=px.any fun p => decide (13<p / 256 % 256)
def uT (kd w h:Nat):SM (Tr × Nat) :=
 if kd≤1 then cW (sb 3) fun b => cW (zF (aq w (b+2)) (aq h (b+2))) fun px => fun s => ((⟨kd,w,b+2,px⟩,w),s.odd (decide (kd=0) && fp px))
 else if kd=2 then fW (⟨2,w,0,[]⟩,w)
 else cW (sb 8) fun n => cW (zF (n+1) 1) fun px => fW (⟨3,w,b0 (n+1),mN px⟩,aq w (b0 (n+1)))
def mi (h:Nat):Nat→Nat→List Tr→SM (List Tr × Nat)
 | 0,w,l => fun s => ((l,w),s.fail)
 | k+1,w,l => cW (sb 1) fun u => fun s => if decide (u=0)=true∨s.f=true then ((l,w),s) else
  (cW (sb 2) fun kd => if l.any (·.kind=kd) then fun s => ((l,w),s.fail) else cW (uT kd w h) fun t => mi h k t.2 (l++[t.1])) s
def jF:SM (Nat × Nat):=cW (sb 8) fun m => cW (sb 14) fun w => cW (sb 14) fun h => cW (sb 1) fun _ => cW (sb 3) fun v => fun s => ((w+1,h+1),if decide (m≠47) || decide (v≠0) then s.fail else s)
def iu:SM ((Nat × Nat) × List Tr × List Nat):=cW jF fun q => fun s => if false=true∨s.f=true then ((q,[],[]),s) else
 cW (mi q.2 5 q.1 []) (fun t => fun s => if false=true∨s.f=true then ((q,t.1,[]),s) else cW (jH true t.2 q.2) (fun px => fW (q,t.1,px)) s) s
theorem we (kd w h:Nat):ce (uT kd w h) :=
 cC ((ce.sb 3).bind fun b => (kS _ _).bind fun px => ly (fun _ => _) (fun _ => _)) (cC (ce.ret _) ((ce.sb 8).bind fun n => (kS _ _).bind fun px => ce.ret _))
theorem kx (h:Nat):∀ (k w:Nat) (l:List Tr),ce (mi h k w l)
 | 0,w,l => ce.fail _
 | k+1,w,l => (ce.sb 1).bind fun u => eK (fun _ => (l,w)) (fun _ => decide (u=0)) ((ce.sb 2).bind fun kd => cC (ce.fail _) ((we _ _ _).bind fun t => kx h k _ _))
theorem p7 {cap:Nat}:∀ (ps:List (aM × Nat)) (t t':PT) (q:aM),eJ cap t ps=some t'→iR t' q→q ∈ ps.map (·.1)∨iR t q
 | [],t,t',q,h,hq => by simp only [eJ,Option.some.injEq] at h;subst h;exact .inr hq
 | (p,s) :: ps,t,t',q,h,hq => by
  unfold eJ at h
  cases h1:nY cap t p s with
  | none => rw [h1] at h;cases h
  | some t1 =>
  rw [h1] at h
  rcases p7 ps t1 t' q h hq with h3 | h3
  ·exact .inl (by simp only [List.map_cons,List.mem_cons];exact .inr h3)
  ·rcases je t p q s t1 (gJ h1).1 h3 with rfl | h4
   ·exact .inl (by simp)
   ·exact .inr h4
theorem pQ:∀ (t:PT) (u:T) (R R':aM) (x:Nat),t.toT=some u→u.walk R=some (x,R')→∃ p,R=p++R'∧iR t p
 | .e,u,R,R',x,h,_ => by cases h
 | .l s,u,R,R',x,h,hw => by
  simp only [PT.toT,Option.some.injEq] at h
  subst h
  simp only [T.walk,T.adv,Option.some.injEq,Prod.mk.injEq] at hw
  obtain ⟨_,rfl⟩:=hw
  exact ⟨[],O,s,O⟩
 | .n a b,u,R,R',x,h,hw => by
  simp only [PT.toT] at h
  split at h
  ·rename_i y z hy hz
   simp only [Option.some.injEq] at h
   subst h
   match R with
   | [] => simp [T.walk,T.adv] at hw
   | c :: R =>
    rw [lS] at hw
    cases c with
    | true =>
     obtain ⟨p,rfl,s,hs⟩:=pQ b z R R' x hz hw
     exact ⟨true :: p,O,s,hs⟩
    | false =>
     obtain ⟨p,rfl,s,hs⟩:=pQ a y R R' x hy hw
     exact ⟨false :: p,O,s,hs⟩
  ·cases h
theorem tV {ls:List Nat} (h2:2≤ls.countP (·≠0)) (h15:∀ x ∈ ls,x≤15) (hk:eD ls=2 ^ 15) :
  ∃ u,dX ls=some u∧(∀ s,s<ls.length→ls.getD s 0≠0→∀ Y,u.walk (aB (cS ls s) (ls.getD s 0)++Y)=some (s,Y)) ∧
   (∀ R x R',u.walk R=some (x,R')→∃ s,s<ls.length∧ls.getD s 0≠0∧R=aB (cS ls s) (ls.getD s 0)++R')∧∀ R:aM,15≤R.length→u.walk R≠none:=by
 have hget:∀ s,s<ls.length→ls.getD s 0≤15:=fun s hs => by
  have:ls.getD s 0=ls[s]:=by simp [hs]
  rw [this];exact h15 _ (List.getElem_mem hs)
 obtain ⟨u,hu,hc⟩:=tT h2 h15 hk
 have hb:=hu
 unfold dX at hb
 rw [if_neg ω,if_neg ω,if_neg (by
   intro h
   rw [List.any_eq_true] at h
   obtain ⟨x,hx,hx2⟩:=h
   have:=h15 x hx
   simp only [decide_eq_true_eq] at hx2
   omega),Option.bind_eq_some_iff] at hb
 obtain ⟨t,ht,htu⟩:=hb
 have hmem:∀ p ∈ (dw ls).map (·.1),∃ s,s<ls.length∧ls.getD s 0≠0∧p=aB (cS ls s) (ls.getD s 0):=by
  intro p hp
  obtain ⟨q,hq,rfl⟩:=List.mem_map.1 hp
  unfold dw at hq
  rw [List.mem_filterMap] at hq
  obtain ⟨i,hi,he⟩:=hq
  unfold pq at he
  split at he
  ·cases he
  ·rename_i h0
   simp only [Option.some.injEq] at he
   exact ⟨i,List.mem_range.1 hi,h0,by rw [← he]⟩
 have hread:∀ R x R',u.walk R=some (x,R')→∃ s,s<ls.length∧ls.getD s 0≠0∧R=aB (cS ls s) (ls.getD s 0)++R':=by
  intro R x R' h
  obtain ⟨p,rfl,hp⟩:=pQ t u R R' x htu h
  rcases p7 _ _ _ p ht hp with h1 | ⟨s,h1⟩
  ·obtain ⟨s,hs,h0,rfl⟩:=hmem p h1
   exact ⟨s,hs,h0,O⟩
  ·cases p <;> simp [PT.obs] at h1
 refine ⟨u,hu,hc,hread,fun R hR hn => ?_⟩
 have key:∀ (t:PT) (u:T) (R:aM),t.toT=some u→u.walk R=none→∃ p,iR t (R++p):=by
  intro t
  induction t with
  | e => intro u R h;cases h
  | l s => intro u R h hw;simp only [PT.toT,Option.some.injEq] at h;subst h;simp [T.walk,T.adv] at hw
  | n a b iha ihb =>
   intro u R h hw
   simp only [PT.toT] at h
   split at h
   ·rename_i y z hy hz
    simp only [Option.some.injEq] at h
    subst h
    match R with
    | [] =>
     have leafOf:∀ (t:PT) (u:T),t.toT=some u→∃ p,iR t p:=by
      intro t
      induction t with
      | e => intro u h;cases h
      | l s => intro u h;exact ⟨[],s,rfl⟩
      | n c d ihc _ =>
       intro u h
       simp only [PT.toT] at h
       split at h
       ·rename_i y' z' hy' hz'
        obtain ⟨p,s,hp⟩:=ihc y' hy'
        exact ⟨false :: p,s,hp⟩
       ·cases h
     obtain ⟨p,s,hp⟩:=leafOf a y hy
     exact ⟨false :: p,s,hp⟩
    | true :: R =>
     rw [lS] at hw
     obtain ⟨p,s,hp⟩:=ihb z R hz hw
     exact ⟨p,s,hp⟩
    | false :: R =>
     rw [lS] at hw
     obtain ⟨p,s,hp⟩:=iha y R hy hw
     exact ⟨p,s,hp⟩
   ·cases h
 obtain ⟨p,hp⟩:=key t u R htu hn
 rcases p7 _ _ _ _ ht hp with h1 | ⟨s,h1⟩
 ·obtain ⟨s,hs,h0,he⟩:=hmem _ h1
  have:=congrArg List.length he
  rw [bV,List.length_append] at this
  have hg:=hget s hs
  have hp0:p=[]:=List.length_eq_zero_iff.1 ω
  subst hp0
  rw [List.append_nil] at he
  have:=hc s hs h0 []
  rw [List.append_nil,← he,hn] at this
  cases this
 ·cases hR2:R++p with
  | nil => rw [hR2] at h1;simp [PT.obs] at h1
  | cons c r => rw [hR2] at h1;simp [PT.obs] at h1
theorem EW {ls:List Nat} {s:Nat} (h0:ls.getD s 0≠0):dq ls s=B7 ls s:=by
 obtain ⟨k,hk⟩:∃ k,ls.getD s 0=k+1:=⟨ls.getD s 0 - 1,ω⟩
 have h1:=uV ls k
 have h2:=oM ls (k+1) ω
 unfold dq B7
 rw [hk]
 rw [Nat.mul_comm (ls.count 0)] at h2
 omega
theorem Cj {ls:List Nat} {s:Nat} (hs:s<ls.length) (h0:ls.getD s 0≠0) (h15:ls.getD s 0≤15) (hk:eD ls≤2 ^ 15):dq ls s<2 ^ ls.getD s 0:=by
 have h1:=uA h0 h15
 have h2:=oj hs
 have h3:=oW ls (ls.getD s 0+1)
 rw [EW h0]
 rw [← h1] at h2
 have hr:room (ls.getD s 0)=2 ^ (15 - ls.getD s 0):=by unfold room;rw [if_neg h0]
 rw [hr] at h2
 have h4:(B7 ls s+1) * 2 ^ (15 - ls.getD s 0)≤2 ^ ls.getD s 0 * 2 ^ (15 - ls.getD s 0):=by
  rw [← Nat.pow_add,show ls.getD s 0+(15 - ls.getD s 0)=15 by omega,Nat.succ_mul]
  omega
 have:=Nat.le_of_mul_le_mul_right h4 (Nat.two_pow_pos _)
 omega
theorem nS (n l:Nat) (b:Bool):aB (2 * n+b.toNat) (l+1)=aB n l++[b]:=by
 have hb:b.toNat≤1:=Bool.toNat_le b
 rw [jZ (2 * n+b.toNat) l 1,Nat.shiftRight_eq_div_pow,show (2 * n+b.toNat) / 2 ^ 1=n by omega]
 congr 1
 simp only [aB,Nat.testBit_zero]
 cases b <;> simp <;> omega
theorem C7 (f o:Bool):sb 1 ⟨[],f,o⟩=(0,⟨[],true,o⟩):=rfl
theorem BQ (b:Bool) (R:aM) (f o:Bool):sb 1 ⟨b :: R,f,o⟩=(b.toNat,⟨R,f,o⟩):=by
 unfold sb
 simp [val]
theorem ya {ls:List Nat} {u:T} (h15:∀ s,s<ls.length→ls.getD s 0≤15) (hk:eD ls≤2 ^ 15)
  (hc:∀ s,s<ls.length→ls.getD s 0≠0→∀ Y,u.walk (aB (cS ls s) (ls.getD s 0)++Y)=some (s,Y))
  (hr:∀ R x R',u.walk R=some (x,R')→∃ s,s<ls.length∧ls.getD s 0≠0∧R=aB (cS ls s) (ls.getD s 0)++R')
  (hd:∀ R:aM,15≤R.length→u.walk R≠none) (o:Bool) :
  ∀ (k l n:Nat) (R:aM),k+l=15→n<2 ^ l→(∀ s,s<ls.length→ls.getD s 0≠0→¬ aB (cS ls s) (ls.getD s 0) <+: aB n l) →
   match u.walk (aB n l++R) with
   | some (x,R') => fA ls k (l+1) n ⟨R,false,o⟩=(x,⟨R',false,o⟩)
   | none => (fA ls k (l+1) n ⟨R,false,o⟩).2.f=true:=by
 intro k
 induction k with
 | zero =>
  intro l n R hl hn hA
  cases hw:u.walk (aB n l++R) with
  | none => rfl
  | some q =>
   exfalso
   obtain ⟨x,R'⟩:=q
   obtain ⟨s,hs,h0,he⟩:=hr _ _ _ hw
   refine hA s hs h0 ?_
   have h1:aB (cS ls s) (ls.getD s 0) <+: aB n l++R:=⟨R',he.symm⟩
   exact List.prefix_of_prefix_length_le h1 (List.prefix_append _ _) (by rw [bV,bV];have:=h15 s hs;omega)
 | succ k ih =>
  intro l n R hl hn hA
  match R with
  | [] =>
   have hw:u.walk (aB n l++[])=none:=by
    cases hw:u.walk (aB n l++[]) with
    | none => rfl
    | some q =>
     exfalso
     obtain ⟨x,R'⟩:=q
     obtain ⟨s,hs,h0,he⟩:=hr _ _ _ hw
     rw [List.append_nil] at he
     exact hA s hs h0 ⟨R',he.symm⟩
   rw [hw]
   simp only
   unfold fA cW
   rw [C7]
   simp only
   split
   ·rename_i x hx
    simp only [if_true]
    exact (nR ls k _ _ _).1 O
   ·exact (nR ls k _ _ _).1 O
  | b :: R =>
   have hb:b.toNat≤1:=Bool.toNat_le b
   have hq:aB n l++b :: R=aB (2 * n+b.toNat) (l+1)++R:=by rw [nS,List.append_assoc];rfl
   have hn1:2 * n+b.toNat<2 ^ (l+1):=by rw [Nat.pow_succ];omega
   rw [hq]
   have hstep:fA ls (k+1) (l+1) n ⟨b :: R,false,o⟩=match kO ls (l+1) (2 * n+b.toNat) with
    | some x => (x,⟨R,false,o⟩)
    | none => fA ls k (l+1+1) (2 * n+b.toNat) ⟨R,false,o⟩:=by
    conv => lhs;unfold fA cW
    rw [BQ]
    simp only
    split
    ·rename_i x hx;first|rfl|(rw [hx];rfl)
    ·rename_i hx;first|rfl|rw [hx]
   rw [hstep]
   cases hx:kO ls (l+1) (2 * n+b.toNat) with
   | some x =>
    obtain ⟨hxl,hx1,hx2⟩:=wX hx
    have h0:ls.getD x 0≠0:=ω
    have hp:aB (cS ls x) (ls.getD x 0)=aB (2 * n+b.toNat) (l+1):=by rw [← mZ ls x h0,lq,hx2,hx1]
    have:=hc x hxl h0 R
    rw [hp] at this
    rw [this]
   | none =>
    refine ih (l+1) (2 * n+b.toNat) R ω hn1 fun s hs h0 hp => ?_
    rw [nS] at hp
    rcases List.prefix_concat_iff.1 hp with h1 | h1
    ·have hlen:=congrArg List.length h1
     rw [bV,List.length_append,bV] at hlen
     simp only [List.length_cons,List.length_nil] at hlen
     have h2:aB (dq ls s) (l+1)=aB (2 * n+b.toNat) (l+1):=by
      rw [nS,← h1,← mZ ls s h0,lq,hlen]
     have h3:=j4 _ _ _ h2
     have h4:=Cj hs h0 (h15 s hs) hk
     rw [hlen] at h4
     rw [Nat.mod_eq_of_lt h4,Nat.mod_eq_of_lt hn1] at h3
     unfold kO at hx
     have:=List.find?_eq_none.1 hx s (List.mem_range.2 hs)
     rw [h3] at this
     simp [hlen] at this
     rw [List.getD_eq_getElem?_getD] at hlen
     omega
    ·exact hA s hs h0 h1
def qE (A:Nat) (ls:List Nat) (t:T):Prop:=Ag Eq (jt ls) t.walk∧ls.length=A
theorem vX {ls:List Nat} (h15:∀ x ∈ ls,x≤15) (s:Nat) (hs:s<ls.length):ls.getD s 0≤15:=by
 have:ls.getD s 0=ls[s]:=by simp [hs]
 rw [this];exact h15 _ (List.getElem_mem hs)
theorem CL {ls:List Nat} (h15:∀ x ∈ ls,x≤15) (h2:2≤ls.countP (·≠0)) (hk:eD ls=2 ^ 15):∃ u,dX ls=some u ∧
  (∀ s,s<ls.length→ls.getD s 0≠0→∀ Y,u.walk (aB (cS ls s) (ls.getD s 0)++Y)=some (s,Y))∧Ag Eq (jt ls) u.walk:=by
 obtain ⟨u,hu,hc,hr,hd⟩:=tV h2 h15 hk
 refine ⟨u,hu,hc,fun R ho => ?_⟩
 have h:=ya (fun s hs => vX h15 s hs) ω hc hr hd false 15 0 0 R ω δ (fun s hs h0 hp => by
  have:=hp.length_le
  rw [bV,bV] at this
  omega)
 have he:∀ s,jt ls s=fA ls 15 1 0 s:=fun s => by unfold jt;rw [if_neg ω]
 rw [he]
 simp only [aB,List.nil_append,Nat.zero_add] at h
 cases hw:u.walk R with
 | none =>
  rw [hw] at h
  exact ⟨fun hf => (by rw [h] at hf;cases hf),fun _ => rfl⟩
 | some q =>
  obtain ⟨x,R'⟩:=q
  rw [hw] at h
  simp only at h
  rw [h]
  exact ⟨fun _ => ⟨x,O,O⟩,fun hf => by cases hf⟩
theorem AL {ls:List Nat} (h15:∀ x ∈ ls,x≤15) (h:CX ls=true):∃ u,dX ls=some u∧Ag Eq (jt ls) u.walk:=by
 by_cases h1:ls.countP (·≠0)=1
 ·obtain ⟨s,hs,h0⟩:∃ s,s<ls.length∧ls.getD s 0≠0:=by
   have:0<ls.countP (·≠0):=ω
   obtain ⟨a,ha,ha0⟩:=List.countP_pos_iff.1 this
   obtain ⟨i,hi,rfl⟩:=List.mem_iff_getElem.1 ha
   exact ⟨i,hi,by simpa [hi] using ha0⟩
  have hb:=sz h1 hs h0
  have hb2:dX ls=some (.leaf (j7 ls)):=by unfold dX;rw [if_neg ω,if_pos h1]
  refine ⟨_,hb2,fun R ho => ?_⟩
  unfold jt at ho ⊢
  simp only [h1,if_true] at ho ⊢
  exact ⟨fun _ => ⟨_,O,O⟩,fun hf => (by cases hf)⟩
 ·unfold CX at h
  simp only [h1,decide_false,Bool.false_or,decide_eq_true_eq] at h
  have h2:2≤ls.countP (·≠0):=by
   refine Nat.le_of_not_lt fun hlt => ?_
   have h0:ls.countP (·≠0)=0:=ω
   have:eD ls=0:=by
    unfold eD
    have hz:∀ x ∈ ls,x=0:=fun x hx => by
     have:=List.countP_eq_zero.1 h0 x hx
     simpa using this
    clear h h0 h1 hlt h15
    induction ls with
    | nil => rfl
    | cons a r ih =>
     have ha:=hz a (by simp)
     subst ha
     simp only [List.map_cons,List.sum_cons,ih (fun x hx => hz x (List.mem_cons_of_mem _ hx))]
     rfl
   rw [this] at h
   exact absurd h δ
  obtain ⟨u,hu,_,ha⟩:=CL h15 h2 h
  exact ⟨u,hu,ha⟩
theorem m6:∀ (t:PT) (u:T) (d:Nat),t.toT=some u→t.fits d→t.room d=2 ^ d
 | .e,u,d,h,_ => by cases h
 | .l s,u,d,h,_ => by simp [PT.room]
 | .n a b,u,d,h,hf => by
  simp only [PT.toT] at h
  split at h
  ·rename_i x y hx hy
   cases d with
   | zero => cases hf
   | succ d =>
    obtain ⟨ha,hb⟩:=hf
    simp only [PT.room,m6 a x d hx ha,m6 b y d hy hb,Nat.pow_succ]
    omega
  ·cases h
theorem wW {ls:List Nat} (h15:∀ x ∈ ls,x≤15) (h:CX ls=false) (ho:qw ls=false):dX ls=none:=by
 unfold CX at h
 unfold qw at ho
 simp only [Bool.or_eq_false_iff,decide_eq_false_iff_not] at h ho
 obtain ⟨h1,hk⟩:=h
 by_cases h0:ls.countP (·≠0)=0
 ·unfold dX
  rw [if_pos h0]
 have hlt:eD ls<2 ^ 15:=ω
 have hget:=vX h15
 cases hb:dX ls with
 | none => rfl
 | some u =>
  exfalso
  unfold dX at hb
  rw [if_neg h0,if_neg h1,if_neg (by
   intro h
   rw [List.any_eq_true] at h
   obtain ⟨x,hx,hx2⟩:=h
   have:=h15 x hx
   simp only [decide_eq_true_eq] at hx2
   omega),Option.bind_eq_some_iff] at hb
  obtain ⟨t,ht,htu⟩:=hb
  have hpw:((dw ls).map (·.1)).Pairwise pH:=by
   unfold dw
   rw [List.pairwise_map,List.pairwise_filterMap]
   refine (List.pairwise_lt_range (n:=ls.length)).imp_of_mem ?_
   intro i j hi hj hij x hx y hy
   rw [List.mem_range] at hi hj
   unfold pq at hx hy
   split at hx
   ·cases hx
   ·split at hy
    ·cases hy
    ·rename_i h1 h2
     simp only [Option.some.injEq] at hx hy
     subst hx hy
     exact u6 hi hj ω h1 h2 (hget i hi) (hget j hj) ω
  have hmem:∀ p ∈ dw ls,p.1.length≤15:=by
   intro p hp
   unfold dw at hp
   rw [List.mem_filterMap] at hp
   obtain ⟨i,hi,he⟩:=hp
   unfold pq at he
   split at he
   ·cases he
   ·simp only [Option.some.injEq] at he
    subst he
    rw [bV]
    exact hget i (List.mem_range.1 hi)
  obtain ⟨t',g1,g2,g3,g4,g5,g6⟩:=qr (cap:=0) (dw ls) .e hpw (fun p hp => ⟨hmem p hp,fun q ⟨s',hq⟩ => by cases q <;> simp [PT.obs] at hq⟩) trivial (fun p hp => by cases p <;> simp [PT.obs] at hp) (fun _ _ => trivial)
  have hroom:=nX ls _ 0 rfl
  rw [kK,List.drop_zero] at hroom
  rw [hroom] at g3
  have hsame:∀ (cap:Nat) (ps:List (aM × Nat)) (a b c:PT),eJ cap a ps=some b→eJ (2 * c.inner+1) a ps=some c→b=c:=by
   intro cap ps
   induction ps with
   | nil =>
    intro a b c h1 h2
    simp only [eJ,Option.some.injEq] at h1 h2
    rw [← h1,← h2]
   | cons p ps ih =>
    intro a b c h1 h2
    unfold eJ at h1 h2
    cases e1:nY cap a p.1 p.2 with
    | none => rw [e1] at h1;cases h1
    | some t1 =>
     cases e2:nY (2 * c.inner+1) a p.1 p.2 with
     | none => rw [e2] at h2;cases h2
     | some t2 =>
      rw [e1] at h1
      rw [e2] at h2
      have:=(gJ e1).1.symm.trans (gJ e2).1
      simp only [Option.some.injEq] at this
      subst this
      exact ih _ _ _ h1 h2
  have htt:=hsame _ _ _ _ _ ht (g1 _ (Nat.le_refl _))
  subst htt
  have:=m6 t u 15 htu g2
  rw [this] at g3
  simp only [PT.room] at g3
  omega
theorem zv {A:Nat} {ls:List Nat} (h15:∀ x ∈ ls,x≤15) (hl:ls.length=A):Ag (qE A) (kg ls) (xQ (dX ls)):=by
 intro R ho
 unfold kg at ho ⊢
 cases hk:CX ls with
 | true =>
  obtain ⟨u,hu,ha⟩:=AL h15 hk
  rw [hu]
  simp only [hk,Bool.not_true,Bool.false_eq_true,if_false]
  exact ⟨fun _ => ⟨u,O,ha,hl⟩,fun hf => by cases hf⟩
 | false =>
  simp only [hk,Bool.not_false,if_true,RS.bad,Bool.false_or] at ho ⊢
  rw [wW h15 hk ho]
  exact ⟨fun hf => (by cases hf),fun _ => rfl⟩
theorem Ev:∀ (k i:Nat) (f:Nat→Nat),(∀ j,f j≤15)→Ag (fun a b => a=b∧∀ j,a j≤15) (sZ k i f) (lG k i f)
 | 0,i,f,h => Ag.ret ⟨rfl,h⟩
 | k+1,i,f,h => jq (fun v => v<8) (Ag.sb 3) (fun s => fG 3 s) (fun v => sT _ _ _) fun v u hv hp => by
  subst hv
  exact Ev k (i+1) _ fun j => by
   by_cases hj:j=ry i
   ·simp only [hj,if_true];omega
   ·simp only [hj,if_false];exact h j
theorem GI (n:Nat):Ag Eq (ot n) (oy n):=by
 refine y3 ?_ (wq n)
 refine Ag.bind (Ag.sb 1) (fun u => cC (ce.ret n) ((ce.sb 3).bind fun k => (ce.sb _).bind fun ms => gM (fun _ => ms+2) (fun _ => decide (n<ms+2)))) fun u u' hu => ?_
 subst hu
 refine kN (fun _ => Ag.ret O) fun _ => (Ag.bind (Ag.sb 3) (fun k => (ce.sb _).bind fun ms => gM (fun _ => ms+2) (fun _ => decide (n<ms+2))) fun k k' hk => ?_)
 subst hk
 refine Ag.bind (Ag.sb _) (fun ms => gM (fun _ => ms+2) (fun _ => decide (n<ms+2))) fun ms ms' hms => ?_
 subst hms
 by_cases h:n<ms+2
 ·simp only [h,decide_true,if_true]
  exact Ag.no
 ·simp only [h,decide_false,if_false,Bool.false_eq_true]
  exact Ag.ret O
theorem p9 {own:List Nat} {t:T} (n:Nat) (ht:Ag Eq (jt own) t.walk) (hl:own.length=19):∀ (k:Nat) (acc:List Nat) (left before:Nat),n - acc.length≤k→acc.length≤n→(∀ x ∈ acc,x≤15)→before≤15 →
  Ag (fun a b => sQ n a=b∧b.length=n∧∀ x ∈ b,x≤15) (cT own n k acc left before) (il t n k acc left before)
 | 0,acc,left,before,hk,ha,h15,hb => by
  refine y3 (Ag.ret ⟨?_,ω,h15⟩) fun R => rfl
  unfold sQ
  rw [show n - acc.length=0 by omega]
  simp
 | k+1,acc,left,before,hk,ha,h15,hb => by
  refine y3 ?_ (un t n k acc left before)
  by_cases hn:n≤acc.length
  ·rw [if_pos hn]
   refine jN (n:=fW acc) (Ag.ret ⟨?_,ω,h15⟩) fun R => by unfold cT;simp only [hn,decide_true,Bool.true_or,true_or,if_true];rfl
   unfold sQ
   rw [show n - acc.length=0 by omega]
   simp
  rw [if_neg hn]
  by_cases h0:left=0
  ·rw [if_pos h0]
   refine jN (n:=fW acc) (Ag.ret ⟨O,by simp;omega,fun x hx => ?_⟩) fun R => by unfold cT;simp only [h0,decide_true,Bool.or_true,true_or,if_true];rfl
   rw [List.mem_append] at hx
   rcases hx with hx | hx
   ·exact h15 x hx
   ·rw [(List.mem_replicate.1 hx).2];omega
  rw [if_neg h0]
  refine jN (n:=cW (jt own) fun c => if c<16 then cT own n k (acc++[c]) (left - 1) (if c≠0 then c else before)
   else cW (sb (repB (c - 16))) fun v => if n<acc.length+(v+repO (c - 16)) then fun s => (acc,s.fail) else
    cT own n k (acc++List.replicate (v+repO (c - 16)) (if c=16 then before else 0)) (left - 1) before) ?_ fun R => by rw [cT];exact if_neg (by simp [hn,h0])
  refine jq (fun c => c<19) ht (fun s => by have:=lK (ls:=own) ω s;omega) (fun c => cC (fk own n k _ _ _) ((ce.sb _).bind fun v => cC (ce.fail _) (fk own n k _ _ _))) fun c c' hc hc19 => ?_
  subst hc
  refine kN (fun h16 => ?_) fun h16 => ?_
  ·refine p9 n ht hl k _ _ _ (by simp;omega) (by simp;omega) (fun x hx => ?_) (by split <;> omega)
   rw [List.mem_append,List.mem_singleton] at hx
   rcases hx with hx | rfl
   ·exact h15 x hx
   ·omega
  ·refine Ag.bind (Ag.sb _) (fun v => cC (ce.fail _) (fk own n k _ _ _)) fun v v' hv => ?_
   subst hv
   have hO:=qn (c - 16) ω
   refine kN (fun _ => Ag.no) fun h => ?_
   refine p9 n ht hl k _ _ _ (by simp;omega) (by simp;omega) (fun x hx => ?_) hb
   rw [List.mem_append] at hx
   rcases hx with hx | hx
   ·exact h15 x hx
   ·rw [(List.mem_replicate.1 hx).2];split <;> omega
end Go.Proofs.YtmgemcffhbnpfaaGreatDoor
