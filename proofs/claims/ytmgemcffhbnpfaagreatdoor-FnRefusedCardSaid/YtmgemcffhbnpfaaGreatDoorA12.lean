/-
  A picture is written and read: part 12 of 13 (SNum, SPut, SPix, SUndo, SDec).
-/
import Derived.Test.YtmgemcffhbnpfaaGreatDoorA11
set_option linter.unusedVariables false
set_option linter.unusedSimpArgs false
set_option maxRecDepth 100000
set_option maxHeartbeats 1000000
namespace Go.Proofs.YtmgemcffhbnpfaaGreatDoor
open Go
theorem ww {x:Nat} (st:RS) (h:x<4):pJ x st=(x+1,st):=by unfold pJ;rw [if_pos h];rfl
theorem BI {x:Nat} (st:RS) (h:¬ x<4) {v:Nat} {dV:RS} (h1:Go.Proofs.YtmgemcffhbnpfaaGreatDoor.sb ((x - 2) / 2) st=(v,dV)):pJ x st=((2+x % 2) * 2 ^ ((x - 2) / 2)+v+1,dV):=by
 unfold pJ
 rw [if_neg h]
 unfold cW
 rw [h1]
 rfl
theorem AF {x:Nat} (hx:x<40) (st:RS):1≤(pJ x st).1∧(pJ x st).1≤1048576:=by
 by_cases h:x<4
 ·rw [ww st h]
  simp only
  omega
 ·obtain ⟨v,dV,e⟩:∃ v dV,sb ((x - 2) / 2) st=(v,dV):=⟨_,_,rfl⟩
  have hv:=fG ((x - 2) / 2) st
  rw [e] at hv
  rw [BI st h e]
  simp only at hv ⊢
  have hp:2 ^ ((x - 2) / 2)≤2 ^ 18:=Nat.pow_le_pow_right ω ω
  have h3:=Nat.mul_le_mul (show 2+x % 2≤3 by omega) hp
  omega
theorem Dj (W:World) (rb sb so c x:Nat) (s:List Nat) (st:RS) (hr:(cy rb sb so c s st).pred W) (I:xo sb so s W) (hne:sb≠rb) (hx:x<40) :
  Calls Tryz.prog 66 #[pT rb,iT x] W fun e w' => e=.returned (iT ((pJ x st).1))∧(cy rb sb so c s (pJ x st).2).pred w'∧cf [rb] W w':=by
 have H:St W [rb] [cy rb sb so c s st] W:=St.one hr (eM _ _ _ _ _ _) (by simp [cy])
 have hS:sb ∉ [rb]:=by simpa using hne
 refine enter (m:=23) Tryz.func66 O Tryz.ntmps66 O (Cy (az O (Lt ?_)))
 by_cases h4:x<4
 case pos =>
  rw [ww st h4]
  refine Cs (Cy (ai O (Lp (dy (b:=true) O O (decide_eq_true ω)) (Lt ?_))))
  refine Cp O ?_
  refine Cy (ai O (ao (r:=((x+1:Nat):Int)) O O (ck (b:=1) ω) (az O (Lt (Ct (aE ?_))))))
  exact ak O O ⟨O,H.get (i:=0) rfl,H.frm⟩
 obtain ⟨v,dV,e1⟩:∃ v dV,Go.Proofs.YtmgemcffhbnpfaaGreatDoor.sb ((x - 2) / 2) st=(v,dV):=⟨_,_,rfl⟩
 have hv:=fG ((x - 2) / 2) st
 rw [e1] at hv
 rw [BI st h4 e1]
 obtain ⟨k,hk⟩:∃ k,k=(x - 2) / 2:=⟨_,rfl⟩
 rw [← hk] at hv e1 ⊢
 simp only at hv
 have hp:2 ^ k≤2 ^ 18:=Nat.pow_le_pow_right ω ω
 have h3:=Nat.mul_le_mul (show 2+x % 2≤3 by omega) hp
 refine Cs (Cy (ai O (Lp (dy (b:=false) O O (decide_eq_false ω)) (Lt (Cq O (Ck (tn (Cy (ai O (bw (r:=((x - 2:Nat):Int)) O O (iw (b:=2) ω) (Lp (ki (r:=(k:Int)) O O ω (by rw [hk];exact Dt (b:=2) ω)) (az O (Lt (Cs ?_))))))))))))))
 refine VC.held (cf [rb] W) aJ (by with_reducible repeat (first | refine fB ?_ | refine eP.blk ?_ | refine fy ?_ | refine dP ?_ | exact eP.done)) ?_
 intro w hsame
 replace H:=H.same hsame
 refine Ht 0 O κ κ κ O H.frm (fun w hI => YI O) (Ht 1 O κ κ κ O H.frm (fun w hI => gI (r:=((x % 2:Nat):Int)) O O ω O) (Ht 2 O κ κ κ O H.frm (fun w hI => oC (r:=((2+x % 2:Nat):Int)) O O (ck (a:=2) ω)) (Ht 3 O κ κ κ O H.frm (fun w hI => YI O) (Ht 4 O κ κ κ O H.frm (fun w hI => ed (r:=(((2+x % 2) * 2 ^ k:Nat):Int)) O O ω (x7 ⟨ω,ω⟩)) (Ht 5 O κ κ κ O H.frm (fun w hI => YP O) (Ht 6 O κ κ κ O H.frm (fun w hI => YI O) (gA 7 O κ O CE (uN w rb sb so c s st k ω (H.get (i:=0) O) (I.keep H.frm hS) hne) O ?_)))))))
 rintro e w ⟨he,hP,hf⟩
 replace H:=H.rdr 0 rfl hP hf
 rw [e1] at he H
 simp only [List.set] at H
 refine ⟨_,he,H.frm,?_⟩
 refine Ht 8 O κ κ κ O H.frm (fun w hI => oC (r:=(((2+x % 2) * 2 ^ k+v:Nat):Int)) O O (ck ω)) (Ht 9 O κ κ κ O H.frm (fun w hI => oC (r:=(((2+x % 2) * 2 ^ k+v+1:Nat):Int)) O O (ck (b:=1) ω)) (Ht 10 O κ κ κ O H.frm (fun w hI => AI O) (g7 κ (tn (Ct ?_)))))
 exact ak O O ⟨O,H.get (i:=0) rfl,H.frm⟩
section
variable {w0 w:World} {S:List Nat} {l:List e_} {rb sb so c:Nat} {s ls:List Nat} {st:RS}
variable {nn:Nat} {ops:Array Oper} {lo:List Oper} {Q:cY} {rest:List Oper} {ρ:dK} {ty t:TypeId} {pos:String} {after:Array Edge} {x y:Operand} {d:Nat} {ts:Array TypeId}
theorem yM (H:St w0 S l w) (i q:Nat) (I:xo sb so s w) (hne:sb≠rb) (hq:q<40) (hi:l[i]?=some (cy rb sb so c s st)) (hd:Nat.blt d nn=true) (hx:ev ρ x=pT rb) (hy:ev ρ y=iT q)
  (h:∀ w',cf [rb] w w'→St w0 S (l.set i (cy rb sb so c s (pJ q st).2)) w'→VL Tryz.prog nn ops Q rest (eW ρ d (iT ((pJ q st).1))) w') :
  VL Tryz.prog nn ops Q (⟨some d,.call ⟨.value (.func 66),#[x,y],ts⟩,ty,pos,after,none⟩ :: rest) ρ w :=
 aS hd Ku (Dj w rb sb so c q s st (H.get hi) I hne hq) (by simp [hx,hy]) fun e w' ⟨he,hP,hf⟩ => ⟨_,he,h _ hf (H.rdr i hi hP hf)⟩
end
theorem y6 (W:World) (p q:Nat) (hp:p<2 ^ 32) (hq:q<2 ^ 32) :
  Calls Tryz.prog 46 #[.int .u32 (p:Nat),.int .u32 (q:Nat)] W fun e w' => e=.returned (.int .u32 (da p q:Nat))∧w'=W:=by
 have a1:=bz p 24
 have a2:=bz p 16
 have a3:=bz p 8
 have a4:=bz p 0
 have b1:=bz q 24
 have b2:=bz q 16
 have b3:=bz q 8
 have b4:=bz q 0
 have e:da p q=fQ ((aI p 24+aI q 24) % 256) ((aI p 16+aI q 16) % 256) ((aI p 8+aI q 8) % 256) ((aI p 0+aI q 0) % 256):=by
  unfold da
  rw [j0,j0,jw,jw,jX,jX,jy,jy]
 rw [e]
 refine enter (m:=26) Tryz.func46 O Tryz.ntmps46 O (Cy (az O (Lt (Cy (ai O (b_ p 24 hp ω O O O (ai O (b_ q 24 hq ω O O O (ao O O (ck ω) (ai O (b_ p 16 hp ω O O O (ai O (b_ q 16 hq ω O O O (ao O O (ck ω) (ai O (b_ p 8 hp ω O O O ?_))))))))))))))))
 refine ai O (b_ q 8 hq ω O O O (ao O O (ck ω) (ai O (b_ p 0 hp ω O O O (ai O (b_ q 0 hq ω O O O (ao O O (ck ω) (jr ((aI p 24+aI q 24) % 256) ((aI p 16+aI q 16) % 256) ((aI p 8+aI q 8) % 256) ((aI p 0+aI q 0) % 256) ω ω ω ω O O O O O (az O (Lt (Ct ?_)))))))))))
 exact ak O O ⟨O,O⟩
theorem vC (W:World) (rb sb so c:Nat) (s:List Nat) (st:RS) (hr:(cy rb sb so c s st).pred W) (I:xo sb so s W) (hne:sb≠rb) :
  Calls Tryz.prog 43 #[pT rb] W fun e w' => ∃ st',e=.returned (.tuple #[iT ((jF st).1.1),iT ((jF st).1.2),.bool (!(jF st).2.f)])∧(cy rb sb so c s st').pred w'∧st'.o=(jF st).2.o∧((jF st).2.f=false→st'=(jF st).2)∧cf [rb] W w':=by
 have H:St W [rb] [cy rb sb so c s st] W:=St.one hr (eM _ _ _ _ _ _) (by simp [cy])
 have hS:sb ∉ [rb]:=by simpa using hne
 obtain ⟨m,dV,e1⟩:∃ m dV,Go.Proofs.YtmgemcffhbnpfaaGreatDoor.sb 8 st=(m,dV):=⟨_,_,rfl⟩
 obtain ⟨wd,st2,e2⟩:∃ wd st2,Go.Proofs.YtmgemcffhbnpfaaGreatDoor.sb 14 dV=(wd,st2):=⟨_,_,rfl⟩
 obtain ⟨ht,st3,e3⟩:∃ ht st3,Go.Proofs.YtmgemcffhbnpfaaGreatDoor.sb 14 st2=(ht,st3):=⟨_,_,rfl⟩
 obtain ⟨al,st4,e4⟩:∃ al st4,Go.Proofs.YtmgemcffhbnpfaaGreatDoor.sb 1 st3=(al,st4):=⟨_,_,rfl⟩
 obtain ⟨vn,st5,e5⟩:∃ vn st5,Go.Proofs.YtmgemcffhbnpfaaGreatDoor.sb 3 st4=(vn,st5):=⟨_,_,rfl⟩
 have hw:wd<16384:=by have:=fG 14 dV;rw [e2] at this;exact this
 have hh:ht<16384:=by have:=fG 14 st2;rw [e3] at this;exact this
 have hm:m<256:=by have:=fG 8 st;rw [e1] at this;exact this
 have hv:vn<8:=by have:=fG 3 st4;rw [e5] at this;exact this
 have hE:jF st=((wd+1,ht+1),if decide (m≠47) || decide (vn≠0) then st5.fail else st5):=by
  unfold jF cW
  rw [e1]
  simp only
  rw [e2]
  simp only
  rw [e3]
  simp only
  rw [e4]
  simp only
  rw [e5]
 rw [hE]
 refine enter (m:=34) Tryz.func43 O Tryz.ntmps43 O (Cy (az O (az O (cU O (Lt (Cy (bH O (dC H 0 8 (I.keep H.frm hS) hne O ω O O O ?_))))))))
 intro w _ H
 rw [e1] at H ⊢
 simp only [List.set] at H
 refine az O (Lt (Cy (bH O (dC H 0 14 (I.keep H.frm hS) hne O ω O O O ?_))))
 intro w _ H
 rw [e2] at H ⊢
 simp only [List.set] at H
 refine ao (r:=((wd+1:Nat):Int)) O O (ck (b:=1) ω) (bH O (dC H 0 14 (I.keep H.frm hS) hne O ω O O O ?_))
 intro w _ H
 rw [e3] at H ⊢
 simp only [List.set] at H
 refine ao (r:=((ht+1:Nat):Int)) O O (ck (b:=1) ω) (az O (az O (Lt (Cy (bH O (dC H 0 1 (I.keep H.frm hS) hne O ω O O O ?_))))))
 intro w _ H
 rw [e4] at H ⊢
 simp only [List.set] at H
 refine Lt (Cy (bH O (dC H 0 3 (I.keep H.frm hS) hne O ω O O O ?_)))
 intro w _ H
 rw [e5] at H ⊢
 simp only [List.set] at H
 refine az O (Lt ?_)
 have hcf:=H.rdF 0 rfl
 cases hf:st5.f with
 | true =>
  rw [hf] at hcf
  have hff:(if decide (m≠47) || decide (vn≠0) then st5.fail else st5).f=true:=by split <;> simp [RS.fail,hf]
  have hoo:(if decide (m≠47) || decide (vn≠0) then st5.fail else st5).o=st5.o:=by split <;> rfl
  rw [hff]
  refine Cy (ai O (ai O (bH O (aK O (aU dL O (aC jz O hcf (Lp (fT O) (dh O (Lk (Lk (ay O O (dh O (Lk (Lk (ay O O (az O (az O (cU O ?_))))))))))))))))))
  refine Lt (Ct ?_)
  exact km O O O O ⟨st5,O,H.get (i:=0) rfl,hoo.symm,fun h => (by cases h),H.frm⟩
 | false =>
  rw [hf] at hcf
  by_cases h47:m=47
  case neg =>
   rw [show (decide (m≠47) || decide (vn≠0))=true by simp [h47]]
   refine Cy (ai O (ai O (bH O (aK O (aU dL O (aC jz O hcf (Lp (fT O) (dh O (Lg (YI O) (Lg (bR (b:=false) O O (decide_eq_false ω)) (ay O O (dh O (Lk (Lk (ay O O (az O (az O (cU O ?_))))))))))))))))))
   refine Lt (Ct ?_)
   exact km O O O O ⟨st5,O,H.get (i:=0) rfl,O,fun h => (by cases h),H.frm⟩
  by_cases hv0:vn=0
  case neg =>
   rw [show (decide (m≠47) || decide (vn≠0))=true by simp [hv0]]
   refine Cy (ai O (ai O (bH O (aK O (aU dL O (aC jz O hcf (Lp (fT O) (dh O (Lg (YI O) (Lg (bR (b:=true) O O (decide_eq_true ω)) (ay O O (dh O (Lg (YI O) (Lg (bR (b:=false) O O (decide_eq_false ω)) (ay O O (az O (az O (cU O ?_))))))))))))))))))
   refine Lt (Ct ?_)
   exact km O O O O ⟨st5,O,H.get (i:=0) rfl,O,fun h => (by cases h),H.frm⟩
  rw [show (decide (m≠47) || decide (vn≠0))=false by simp [h47,hv0]]
  refine Cy (ai O (ai O (bH O (aK O (aU dL O (aC jz O hcf (Lp (fT O) (dh O (Lg (YI O) (Lg (bR (b:=true) O O (decide_eq_true ω)) (ay O O (dh O (Lg (YI O) (Lg (bR (b:=true) O O (decide_eq_true ω)) (ay O O (az O (az O (cU O ?_))))))))))))))))))
  refine Lt (Ct ?_)
  refine km O O O O ⟨st5,?_,H.get (i:=0) rfl,O,fun _ => rfl,H.frm⟩
  show _=Ending.returned (.tuple #[_,_,.bool (!st5.f)])
  rw [hf]
  rfl
end Go.Proofs.YtmgemcffhbnpfaaGreatDoor
set_option maxHeartbeats 4000000
namespace Go.Proofs.YtmgemcffhbnpfaaGreatDoor
open Go
theorem zM {w0 w:World} {S:List Nat} {rs l:List e_} {r:e_} (H:St w0 S (rs++l) w) (hr:(∀ q ∈ rs,q.pred w)→r.pred w) (hl:r.Local∧r.In) (hfoot:∀ b ∈ r.foot,∃ q ∈ rs,b ∈ q.foot):St w0 S (r :: l) w:=by
 have hap:=List.pairwise_append.1 H.apart
 refine H.right.cons (hr fun q hq => H.has q (List.mem_append_left _ hq)) hl (fun b hb => ?_) (fun s hs b hb => ?_)
 ·obtain ⟨q,hq,hbq⟩:=hfoot b hb
  exact H.own q (List.mem_append_left _ hq) b hbq
 ·obtain ⟨q,hq,hbq⟩:=hfoot b hb
  exact hap.2.2 q hq s hs b hbq
def l9 (q:Nat × List Nat):List Value:=[.map (some q.1),.int .i64 (iG q.2)]
def vi (gs:List Nat) (ms:List (Nat × List Nat)):e_:=⟨gs++ms.map (·.1),fun w => (∀ q ∈ ms,DA w q.1 (dO q.2 q.2.length))∧∀ i g,gs[i]?=some g→ff w g (((ms.drop (5 * i)).take 5).flatMap l9) 134⟩
theorem yK (gs:List Nat) (ms:List (Nat × List Nat)):(vi gs ms).Local∧(vi gs ms).In:=by
 refine ⟨fun w w' h ⟨h1,h2⟩ => ⟨fun q hq => ?_,fun i g hg => (h g (List.mem_append_left _ (List.mem_of_getElem? hg))).trans (h2 i g hg)⟩,fun w ⟨h1,h2⟩ b hb => ?_⟩
 ·exact (lj _ _).1 w w' (fun b hb => h b (by
   simp only [f_,List.mem_singleton] at hb
   subst hb
   exact List.mem_append_right _ (List.mem_map_of_mem hq))) (h1 q hq)
 ·rcases List.mem_append.1 hb with hb | hb
  ·obtain ⟨i,hi⟩:=List.mem_iff_getElem?.1 hb
   exact (h2 i b hi).lt
  ·obtain ⟨q,hq,rfl⟩:=List.mem_map.1 hb
   exact (lj q.1 (dO q.2 q.2.length)).2 w (h1 q hq) q.1 (by simp [f_])
theorem St.ts0 {w0 w:World} {S:List Nat} {l:List e_} (H:St w0 S l w):St w0 S (vi [] [] :: l) w :=
 H.cons ⟨fun q hq => (by cases hq),fun i g hg => (by simp at hg)⟩ (yK _ _) (by simp [vi]) (by simp [vi])
theorem HY {w0 w:World} {S:List Nat} {l:List e_} {gb m0 m1 m2 m3 m4:Nat} {l0 l1 l2 l3 l4:List Nat} {gs:List Nat} {ms:List (Nat × List Nat)} (hlen:ms.length=5 * gs.length)
  (H:St w0 S (aa gb ([(m0,l0),(m1,l1),(m2,l2),(m3,l3),(m4,l4)].flatMap l9) 134 :: f_ m4 (dO l4 l4.length) :: f_ m3 (dO l3 l3.length) :: f_ m2 (dO l2 l2.length) :: f_ m1 (dO l1 l1.length) :: f_ m0 (dO l0 l0.length) :: vi gs ms :: l) w) :
  St w0 S (vi (gs++[gb]) (ms++[(m0,l0),(m1,l1),(m2,l2),(m3,l3),(m4,l4)]) :: l) w:=by
 refine zM (rs:=[aa gb ([(m0,l0),(m1,l1),(m2,l2),(m3,l3),(m4,l4)].flatMap l9) 134,f_ m4 (dO l4 l4.length),f_ m3 (dO l3 l3.length),f_ m2 (dO l2 l2.length),f_ m1 (dO l1 l1.length),f_ m0 (dO l0 l0.length),vi gs ms]) H (fun h => ?_) (yK _ _) (fun b hb => ?_)
 ·have hb:=h _ (List.mem_cons_self ..)
  have h4:=h (f_ m4 (dO l4 l4.length)) (by simp)
  have h3:=h (f_ m3 (dO l3 l3.length)) (by simp)
  have h2:=h (f_ m2 (dO l2 l2.length)) (by simp)
  have h1:=h (f_ m1 (dO l1 l1.length)) (by simp)
  have h0:=h (f_ m0 (dO l0 l0.length)) (by simp)
  obtain ⟨t1,t2⟩:=h (vi gs ms) (by simp)
  refine ⟨fun q hq => ?_,fun i g hg => ?_⟩
  ·simp only [List.mem_append,List.mem_cons,List.not_mem_nil,or_false] at hq
   rcases hq with hq | rfl | rfl | rfl | rfl | rfl
   ·exact t1 q hq
   ·exact h0
   ·exact h1
   ·exact h2
   ·exact h3
   ·exact h4
  ·by_cases hi:i<gs.length
   ·rw [List.getElem?_append_left hi] at hg
    have:=t2 i g hg
    rw [List.drop_append_of_le_length ω,List.take_append_of_le_length (by rw [List.length_drop];omega)]
    exact this
   ·rw [List.getElem?_append_right ω] at hg
    obtain ⟨hi2,hg2⟩:=List.getElem?_eq_some_iff.1 hg
    simp only [List.length_cons,List.length_nil] at hi2
    have h0:i - gs.length=0:=ω
    simp only [h0,List.getElem_cons_zero] at hg2
    subst hg2
    have h5:5 * i=ms.length:=ω
    rw [h5,List.drop_left,List.take_of_length_le (by simp)]
    exact hb
 ·simp only [vi,List.map_append,List.map_cons,List.map_nil,List.mem_append,List.mem_cons,List.not_mem_nil,or_false] at hb
  rcases hb with (hb | rfl) | hb | rfl | rfl | rfl | rfl | rfl
  ·exact ⟨vi gs ms,by simp,List.mem_append_left _ hb⟩
  ·exact ⟨_,List.mem_cons_self ..,by simp [aa]⟩
  ·exact ⟨vi gs ms,by simp,List.mem_append_right _ hb⟩
  ·exact ⟨f_ b (dO l0 l0.length),by simp,by simp [f_]⟩
  ·exact ⟨f_ b (dO l1 l1.length),by simp,by simp [f_]⟩
  ·exact ⟨f_ b (dO l2 l2.length),by simp,by simp [f_]⟩
  ·exact ⟨f_ b (dO l3 l3.length),by simp,by simp [f_]⟩
  ·exact ⟨f_ b (dO l4 l4.length),by simp,by simp [f_]⟩
theorem E1 {gs:List Nat} {ms:List (Nat × List Nat)} {w:World} (h:(vi gs ms).pred w) {i j g:Nat} {q:Nat × List Nat} (hg:gs[i]?=some g) (hj:j<5) (hq:ms[5 * i+j]?=some q):∀ k,k<2→w.cell? ⟨g,2 * j+k,none⟩=(l9 q)[k]?:=by
 have hb:=h.2 i g hg
 intro k hk
 rw [hb.cell]
 have hdrop:((ms.drop (5 * i)).take 5)[j]?=some q:=by rw [List.getElem?_take,if_pos hj,List.getElem?_drop];exact hq
 generalize (ms.drop (5 * i)).take 5=l at hdrop
 clear hb hq hj hg h
 induction l generalizing j with
 | nil => simp at hdrop
 | cons a r ih =>
  rw [List.flatMap_cons]
  cases j with
  | zero =>
   simp only [List.getElem?_cons_zero,Option.some.injEq] at hdrop
   subst hdrop
   rw [List.getElem?_append_left (by simp [l9];omega)]
   simp
  | succ j =>
   rw [List.getElem?_cons_succ] at hdrop
   rw [List.getElem?_append_right (by simp [l9];omega),show 2 * (j+1)+k - (l9 a).length=2 * j+k by simp [l9];omega]
   exact ih hdrop
def wN (a:Option Addr) (c bo bc bb be cc:Nat) (cv:Value) (acc:List Nat):List e_ :=
 [aA a c 36 1 acc.length (nums .u32 acc),aa bo [.slice a acc.length c] 22,aa bc [cv] 22,eB cc be (dv cc acc),aa bb [iT cc] 3]
theorem Gs (W:World) (T:List Nat) (a:Option Addr) (c bo bc bb be cc p:Nat) (cv:Value) (acc:List Nat) (H:St W T (wN a c bo bc bb be cc cv acc) W) (hcv:CV cc be cv) (hcc:cc≤11) (hp:p<2 ^ 32) (hn:acc.length≤1000000) :
  Calls Tryz.prog 64 #[.int .u32 (p:Nat),pT bo,pT bb,pT bc] W fun e w' => e=.returned (.tuple #[])∧∃ a' c',St W T (wN a' c' bo bc bb be cc cv (acc++[p])) w':=by
 unfold wN at H
 refine enter (m:=17) Tryz.func64 O Tryz.ntmps64 O (Cy (aC gw O (H.cell 1 O O) (ai O (cH H gj (nums .u32 [p]) O O δ δ κ ?_))))
 intro w b7 hn7 hb7 H
 refine dH H 1 gj δ O O O O (news:=nums .u32 [p]) O (fun j u hj => by rw [Nat.zero_add];exact H.cell 0 O hj) (fD _ _) (by simp only [maxLen];omega) ω ?_
 intro a' c' w hfa H
 refine kB H 2 vp O O O O ?_
 intro w H
 simp only [List.set] at H
 refine Lt ?_
 have hl:acc.length+1=(acc++[p]).length:=by simp
 rw [← dT,hl] at H
 replace H:St W T [aA a' c' 36 1 (acc++[p]).length (nums .u32 (acc++[p])),aa bo [.slice a' (acc++[p]).length c'] 22,aa bc [cv] 22,eB cc be (dv cc acc),aa bb [iT cc] 3] w:=H.sub [1,2,3,4,5] rfl (by simp)
 by_cases hc0:cc=0
 case pos =>
  subst hc0
  refine Cy (aC a_ O (H.cell 4 O O) (Lp (bE (b:=false) O O (decide_eq_false ω)) (Lt (Cq O (Ck ?_)))))
  exact lu O ⟨O,a',c',H⟩
 have hcp:0<cc:=ω
 obtain ⟨h0,_⟩ | ⟨_,hcv⟩:=hcv
 ·omega
 subst hcv
 have hh:dZ cc p<2 ^ cc:=mM hcp hcc
 rw [jn hcp] at H
 refine Cy (aC a_ O (H.cell 4 O O) (Lp (bE (b:=true) O O (decide_eq_true ω)) (Lt ?_)))
 refine Cp O ?_
 refine VC.held ((fun w => ∃ f',St W T [aA a' c' 36 1 (acc++[p]).length (nums .u32 (acc++[p])),aa bo [.slice a' (acc++[p]).length c'] 22,aa bc [.slice (aT be) (2 ^ cc) (2 ^ cc)] 22,aa be (bM .u32 f' (2 ^ cc)) 36,aa bb [iT cc] 3] w)) aJ (by with_reducible repeat (first | refine fB ?_ | refine eP.blk ?_ | refine fy ?_ | refine dP ?_ | exact eP.done)) ?_
 intro w hsame
 replace H:=H.same hsame
 refine Ht 0 O κ κ κ O ⟨_,H⟩ (fun w hI => ef gw O (by obtain ⟨f',hI⟩:=hI;exact hI.cell 2 O O)) (Ht 1 O κ κ κ O ⟨_,H⟩ (fun w hI => YI O) (Ht 2 O κ κ κ O ⟨_,H⟩ (fun w hI => ef a_ O (by obtain ⟨f',hI⟩:=hI;exact hI.cell 4 O O)) (Ht 4 O κ κ κ O ⟨_,H⟩ (fun w hI => YI O) (kR 3 O κ O DJ (ur _ p cc hp hcp hcc) O ⟨_,H⟩ (Ht 5 O κ κ κ O ⟨_,H⟩ (fun w hI => bO (dZ cc p) aZ O O O hh) ?_)))))
 have H2:=H.put 3 (off:=dZ cc p) (.int .u32 (p:Nat)) rfl
 simp only [List.set] at H2
 rw [jQ (g:=dv cc (acc++[p])) (by rw [qC,if_pos rfl]) (fun j _ hne => by rw [qC,if_neg hne])] at H2
 refine y7 6 O κ (td dY O O O (H.cell 3 O (af hh)) (H.fz 3 O)) ⟨_,H2⟩ (g7 κ ?_)
 refine lu O ⟨O,a',c',?_⟩
 unfold wN
 rw [jn hcp]
 exact H2
theorem z_ {w0 w:World} {S:List Nat} {l:List e_} {nn:Nat} {ops:Array Oper} {Q:cY} {rest:List Oper} {ρ:dK} {ty:TypeId} {pos:String} {after:Array Edge} {x cl:Operand} {d:Nat} {ts:Array TypeId} {a:Option Addr} {c bo bc bb be cc p:Nat} {cv:Value} {acc:List Nat}
  (H:St w0 S (wN a c bo bc bb be cc cv acc++l) w) (hcv:CV cc be cv) (hcc:cc≤11) (hp:p<2 ^ 32) (hn:acc.length≤1000000) (hd:Nat.blt d nn=true) (hcl:ev ρ cl=.func (.func 64) ([]:List Value).toArray [pT bo,pT bb,pT bc].toArray) (hx:ev ρ x=.int .u32 (p:Nat))
  (h:∀ w' a' c',St w0 S (wN a' c' bo bc bb be cc cv (acc++[p])++l) w'→VL Tryz.prog nn ops Q rest (eW ρ d (.tuple #[])) w') :
  VL Tryz.prog nn ops Q (⟨some d,.call ⟨.value cl,#[x],ts⟩,ty,pos,after,none⟩ :: rest) ρ w:=by
 have hT:∀ r ∈ wN a c bo bc bb be cc cv acc,∀ b ∈ r.foot,b ∈ (wN a c bo bc bb be cc cv acc).flatMap (·.foot):=fun r hr b hb => List.mem_flatMap.2 ⟨r,hr,hb⟩
 refine tK (fs:=[]) (vs:=[.int .u32 (p:Nat)]) (cs:=[pT bo,pT bb,pT bc]) hd K2 hcl (Gs w _ a c bo bc bb be cc p cv acc (H.part _ hT) hcv hcc hp hn) (by simp [hx]) fun e w' ⟨he,a',c',H2⟩ => ⟨_,he,h w' a' c' (H.callee H2 fun b hb => List.mem_flatMap.1 hb)⟩
end Go.Proofs.YtmgemcffhbnpfaaGreatDoor
set_option maxHeartbeats 8000000
namespace Go.Proofs.YtmgemcffhbnpfaaGreatDoor
open Go
theorem GC {P:Program} {e:Operand→Value} {d:Option Tmp} {ty:TypeId} {pos:String} {after:Array Edge} {g:Option (Nat × Bool)} {w:World} {t t' el n c:Nat} {x:Operand} {a:Addr} (F:P.underlying t=some (.slice el)) (hx:e x=.slice (some a) n c) (hy:e (.const (.slice none 0 0))=.slice none 0 0) :
  dE P e ⟨d,.binOp .neq t x (.const (.slice none 0 0)) t',ty,pos,after,g⟩ w (.bool true) w:=by
 unfold dE
 simp only [execOp,hx,hy,Sem.run_bind]
 have hg:(eqGuard .neq t x (.const (.slice none 0 0)) (.slice (some a) n c) (.slice none 0 0)).run P w=.ok () w:=by simp [eqGuard]
 have h:(Op.equal t (.slice (some a) n c) (.slice none 0 0)).run P w=.ok false w:=by
  have h:∀ d:Nat,(Op.equalIn (d+1) t (.slice (some a) n c) (.slice none 0 0)).run P w=.ok false w:=fun d => by simp [Op.equalIn,run_underlying F]
  exact h 9999
 simp only [hg,Result.andThen_ok,binOp,Sem.run_bind,h]
 rfl
theorem GJ {P:Program} {e:Operand→Value} {d:Option Tmp} {ty:TypeId} {pos:String} {after:Array Edge} {g:Option (Nat × Bool)} {w:World} {t t' el n c:Nat} {x:Operand} (F:P.underlying t=some (.slice el)) (hx:e x=.slice none n c) (hy:e (.const (.slice none 0 0))=.slice none 0 0) :
  dE P e ⟨d,.binOp .neq t x (.const (.slice none 0 0)) t',ty,pos,after,g⟩ w (.bool false) w:=by
 unfold dE
 simp only [execOp,hx,hy,Sem.run_bind]
 have hg:(eqGuard .neq t x (.const (.slice none 0 0)) (.slice none n c) (.slice none 0 0)).run P w=.ok () w:=by simp [eqGuard]
 have h:(Op.equal t (.slice none n c) (.slice none 0 0)).run P w=.ok true w:=by
  have h:∀ d:Nat,(Op.equalIn (d+1) t (.slice none n c) (.slice none 0 0)).run P w=.ok true w:=fun d => by simp [Op.equalIn,run_underlying F]
  exact h 9999
 simp only [hg,Result.andThen_ok,binOp,Sem.run_bind,h]
 rfl
theorem IK {P:Program} {e:Operand→Value} {d:Option Tmp} {ty:TypeId} {pos:String} {after:Array Edge} {g:Option (Nat × Bool)} {w:World} {t t' el n c:Nat} {x:Operand} {a:Option Addr} (F:P.underlying t=some (.slice el)) (hx:e x=.slice a n c) (hy:e (.const (.slice none 0 0))=.slice none 0 0) :
  dE P e ⟨d,.binOp .neq t x (.const (.slice none 0 0)) t',ty,pos,after,g⟩ w (.bool a.isSome) w:=by
 cases a with
 | none => exact GJ F hx hy
 | some b => exact GC F hx hy
section
variable {w0 w:World} {S:List Nat} {l:List e_} {rb sb so c:Nat} {s:List Nat} {st:RS}
variable {nn:Nat} {ops:Array Oper} {lo:List Oper} {Q:cY} {rest:List Oper} {ρ:dK} {ty t:TypeId} {pos:String} {after:Array Edge} {x y:Operand} {d:Nat} {ts:Array TypeId} {j dj:Nat} {bo:Bool}
theorem E0 (H:St w0 S l w) (i n:Nat) (I:xo sb so s w) (hne:sb≠rb) (hi:l[i]?=some (cy rb sb so c s st)) (hn:n≤62) (hj:(lo[j]?).bind (·.dst)=some dj) (hdj:Nat.blt dj nn=true) (hb:ρ dj=.bool bo) (hd:Nat.blt d nn=true) (hx:ev ρ x=pT rb) (hy:ev ρ y=iT n)
  (h:∀ w',cf [rb] w w'→St w0 S (l.set i (cy rb sb so c s (Go.Proofs.YtmgemcffhbnpfaaGreatDoor.sb n st).2)) w'→VL Tryz.prog nn lo.toArray Q rest (eW ρ d (iT ((Go.Proofs.YtmgemcffhbnpfaaGreatDoor.sb n st).1))) w') :
  VL Tryz.prog nn lo.toArray Q (⟨some d,.call ⟨.value (.func 44),#[x,y],ts⟩,ty,pos,after,some (j,bo)⟩ :: rest) ρ w :=
 kV hj hdj hb hd CE (uN w rb sb so c s st n hn (H.get hi) I hne) (by simp [hx,hy]) fun e w' ⟨he,hP,hf⟩ => ⟨_,he,h _ hf (H.rdr i hi hP hf)⟩
theorem qa (H:St w0 S l w) (i n:Nat) (I:xo sb so s w) (hne:sb≠rb) (hi:l[i]?=some (cy rb sb so c s st)) (hn1:1≤n) (hn:n≤4096) (hd:Nat.blt d nn=true) (hx:ev ρ x=pT rb) (hy:ev ρ y=iT n)
  (h:∀ w' mb,w.heap.size≤mb→cf [rb] w w'→St w0 S (f_ mb (dO (fP n st).1 (fP n st).1.length) :: l.set i (cy rb sb so c s (fP n st).2)) w'→VL Tryz.prog nn ops Q rest (eW ρ d (xz mb (fP n st).1)) w') :
  VL Tryz.prog nn ops Q (⟨some d,.call ⟨.value (.func 63),#[x,y],ts⟩,ty,pos,after,none⟩ :: rest) ρ w :=
 aS hd KO (Fs w rb sb so c n s st (H.get hi) I hne hn1 hn) (by simp [hx,hy]) fun e w' ⟨mb,hmb,he,hM,hP,hf⟩ => ⟨_,he,h _ mb hmb hf (H.growR (r':=cy rb sb so c s (fP n st).2) hi hf hP (eM _ _ _ _ _ _) rfl hM (lj _ _) (by simpa [f_] using hmb))⟩
end
theorem St.ne {w0 w:World} {S:List Nat} {l:List e_} (H:St w0 S l w) {i j b b':Nat} {r r':e_} (hij:i≠j) (hi:l[i]?=some r) (hj:l[j]?=some r') (hb:b ∈ r.foot) (hb':b' ∈ r'.foot):b≠b':=by
 rintro rfl
 obtain ⟨h1,e1⟩:=List.getElem?_eq_some_iff.1 hi
 obtain ⟨h2,e2⟩:=List.getElem?_eq_some_iff.1 hj
 have hap:=List.pairwise_iff_getElem.1 H.apart
 rcases Nat.lt_or_gt_of_ne hij with h | h
 ·exact hap i j h1 h2 h b (by rw [e1];exact hb) (by rw [e2];exact hb')
 ·exact hap j i h2 h1 h b (by rw [e2];exact hb') (by rw [e1];exact hb)
def GT (top:Bool):Prop:=∀ (W:World) (rb sb so c wd ht:Nat) (s:List Nat) (st:RS),(cy rb sb so c s st).pred W→xo sb so s W→sb≠rb→1≤wd→wd≤16384→1≤ht→ht≤16384→wd * ht≤1000000 →
 Calls Tryz.prog 45 #[pT rb,iT wd,iT ht,.bool top] W fun e w' => ∃ a cap,e=.returned (.slice a (jH top wd ht st).1.length cap)∧bT w' a cap 36 1 (jH top wd ht st).1.length (nums .u32 (jH top wd ht st).1) ∧
  (∀ b ∈ bQ a,W.heap.size≤b)∧(cy rb sb so c s (jH top wd ht st).2).pred w'∧cf [rb] W w'
def KG (top:Bool) (wd ht:Nat):SM (Nat × List Nat):=if top then rF wd ht else fW (0,[])
theorem EB (top:Bool) (wd ht:Nat) (st:RS) {dV:RS} (h:Go.Proofs.YtmgemcffhbnpfaaGreatDoor.sb 1 st=(0,dV)):jH top wd ht st=nF (KG top wd ht) wd ht 0 dV:=by
 unfold jH rQ cW
 rw [h]
 rfl
theorem Bm (top:Bool) (wd ht:Nat) (st:RS) {u cn:Nat} {dV st2:RS} (hu:u≠0) (h:Go.Proofs.YtmgemcffhbnpfaaGreatDoor.sb 1 st=(u,dV)) (h2:Go.Proofs.YtmgemcffhbnpfaaGreatDoor.sb 4 dV=(cn,st2)) (hc:cn<1∨11<cn):jH top wd ht st=([],st2.fail):=by
 unfold jH rQ cW
 rw [h]
 simp only [hu,if_false]
 rw [h2]
 simp only
 rw [if_pos hc]
theorem E_ (top:Bool) (wd ht:Nat) (st:RS) {u cn:Nat} {dV st2:RS} (hu:u≠0) (h:Go.Proofs.YtmgemcffhbnpfaaGreatDoor.sb 1 st=(u,dV)) (h2:Go.Proofs.YtmgemcffhbnpfaaGreatDoor.sb 4 dV=(cn,st2)) (hc:¬ (cn<1∨11<cn)):jH top wd ht st=nF (KG top wd ht) wd ht cn st2:=by
 unfold jH rQ cW
 rw [h]
 simp only [hu,if_false]
 rw [h2]
 simp only
 rw [if_neg hc]
 rfl
theorem Do (wd ht:Nat) (st:RS) {dV:RS} (h:Go.Proofs.YtmgemcffhbnpfaaGreatDoor.sb 1 st=(0,dV)):rF wd ht st=((0,[]),dV):=by
 unfold rF cW
 rw [h]
 rfl
theorem FD (wd ht:Nat) (st:RS) {u b:Nat} {px:List Nat} {dV st2 st3:RS} (hu:u≠0) (h:Go.Proofs.YtmgemcffhbnpfaaGreatDoor.sb 1 st=(u,dV)) (h2:Go.Proofs.YtmgemcffhbnpfaaGreatDoor.sb 3 dV=(b,st2)) (h3:zF (aq wd (b+2)) (aq ht (b+2)) st2=(px,st3)):rF wd ht st=((b+2,px),st3):=by
 unfold rF cW
 rw [h]
 simp only [hu,if_false]
 rw [h2]
 simp only
 rw [h3]
 rfl
theorem Bg {mt:SM (Nat × List Nat)} {wd ht cc:Nat} {st dV st2:RS} {m:Nat × List Nat} {ts:List (List Nat)} (h1:mt st=(m,dV)) (h2:fw cc (bB m.2+1) dV=(ts,st2)):nF mt wd ht cc st=if st2.f=true then ([],st2) else fh wd (wd * ht) cc (A3 wd m ts) (wd * ht) [] st2:=by
 unfold nF cW
 rw [h1]
 simp only
 rw [h2]
 simp
theorem HD {cc:Nat} {s0 s1 s2 s3 s4 s5:RS} {a b c d e:List Nat} (h0:fP (bm cc 0) s0=(a,s1)) (h1:fP 256 s1=(b,s2)) (h2:fP 256 s2=(c,s3)) (h3:fP 256 s3=(d,s4)) (h4:fP 40 s4=(e,s5)):nN cc s0=([a,b,c,d,e],s5):=by
 unfold nN cW
 rw [h0]
 simp only [show bm cc 1=256 from rfl,show bm cc 2=256 from rfl,show bm cc 3=256 from rfl,show bm cc 4=40 from rfl,h1,h2,h3,h4]
 rfl
theorem Cw {cc k:Nat} {st:RS} (h:k=0∨st.f=true):fw cc k st=([],st):=by
 cases k with
 | zero => rfl
 | succ k =>
  unfold fw
  rcases h with h | h
  ·cases h
  ·exact if_pos (.inr h)
theorem EX {cc k:Nat} {st dV:RS} {g:List (List Nat)} (h:st.f=false) (h1:nN cc st=(g,dV)):fw cc (k+1) st=(g++(fw cc k dV).1,(fw cc k dV).2):=by
 conv => lhs;unfold fw
 rw [if_neg (by simp [h])]
 unfold cW
 rw [h1]
 rfl
theorem K7 {P:Program} {e:Operand→Value} {d:Option Tmp} {ty:TypeId} {pos:String} {after:Array Edge} {g:Option (Nat × Bool)} {w:World} {fn:Fn} {a b c:Operand} {va vb vc:Value} (h1:e a=va) (h2:e b=vb) (h3:e c=vc) :
  dE P e ⟨d,.makeFunc fn #[] #[a,b,c],ty,pos,after,g⟩ w (.func fn ([]:List Value).toArray [va,vb,vc].toArray) w:=AQ rfl (by simp [h1,h2,h3])
theorem jO {w n cc:Nat} {grp:Nat→Nat→List Nat} {k:Nat} {acc:List Nat} {st:RS} (h:k=0∨n≤acc.length∨st.f=true):fh w n cc grp k acc st=(acc,st):=by
 cases k with
 | zero => rfl
 | succ k =>
  unfold fh
  refine if_pos ?_
  rcases h with h | h | h
  ·cases h
  ·exact .inl (by simp [h])
  ·exact .inr h
theorem lO {w n cc:Nat} {grp:Nat→Nat→List Nat} {k:Nat} {acc l:List Nat} {st dV:RS} (h:acc.length<n) (hf:st.f=false) (h1:jv w n cc (grp acc.length) acc st=(l,dV)):fh w n cc grp (k+1) acc st=fh w n cc grp k l dV:=by
 conv => lhs;unfold fh
 rw [if_neg (by simp [hf];omega)]
 unfold cW
 rw [h1]
theorem JQ {cc cb:Nat} {cv:Value} (h:CV cc cb cv):∃ ca cp,cv=.slice ca (bm cc 0 - 280) cp∧(0<cc→cv=.slice (aT cb) (2 ^ cc) (2 ^ cc)):=by
 have ha:bm cc 0=280+(if cc=0 then 0 else 2 ^ cc):=rfl
 rcases h with ⟨rfl,rfl⟩ | ⟨h,rfl⟩
 ·exact ⟨none,0,O,fun h => absurd h ω⟩
 ·have he:bm cc 0 - 280=2 ^ cc:=by
   rw [ha,if_neg (show ¬ cc=0 by omega)]
   exact Nat.add_sub_cancel_left 280 (2 ^ cc)
  rw [he]
  exact ⟨_,_,O,fun _ => rfl⟩
theorem j8 {w0 w:World} {S:List Nat} {l:List e_} {gs:List Nat} {ms:List (Nat × List Nat)} {rb sb so c:Nat} {s:List Nat} {st:RS} {g gg j:Nat} (H:St w0 S l w) (h6:l[6]?=some (vi gs ms)) (h8:l[8]?=some (cy rb sb so c s st)) (hgg:gs[g]?=some gg) (hj:j<5) (hlen:5 * g+j<ms.length) :
  (∀ k,k<2→w.cell? ⟨gg,0+j * 2+k,none⟩=(l9 (ms.getD (5 * g+j) (0,[])))[k]?)∧DA w (ms.getD (5 * g+j) (0,[])).1 (dO (ms.getD (5 * g+j) (0,[])).2 (ms.getD (5 * g+j) (0,[])).2.length)∧(ms.getD (5 * g+j) (0,[])).1≠rb:=by
 have hq:ms[5 * g+j]?=some (ms.getD (5 * g+j) (0,[])):=by simp [hlen]
 have hT:(vi gs ms).pred w:=H.get h6
 refine ⟨fun k hk => ?_,hT.1 _ (List.mem_of_getElem? hq),H.ne (i:=6) (j:=8) δ h6 h8 ?_ (by simp [cy])⟩
 ·rw [show 0+j * 2+k=2 * j+k by omega]
  exact E1 hT hgg hj hq k hk
 ·exact List.mem_append_right _ (List.mem_map_of_mem (List.mem_of_getElem? hq))
def yO (g:Nat):Value:=.slice (aT g) 5 5
theorem vt (top:Bool) (OK:top=true→GT false):GT top:=by
 intro W rb sb so c wd ht s st hr I hne hw1 hw2 hh1 hh2 hwh
 have H:St W [rb] [cy rb sb so c s st] W:=St.one hr (eM _ _ _ _ _ _) (by simp [cy])
 have hS:sb ∉ [rb]:=by simpa using hne
 have hrbW:=(eM rb sb so c s st).2 W hr rb (by simp [cy])
 obtain ⟨u,dV,e1⟩:∃ u dV,Go.Proofs.YtmgemcffhbnpfaaGreatDoor.sb 1 st=(u,dV):=⟨_,_,rfl⟩
 have hu:u<2:=by have:=fG 1 st;rw [e1] at this;exact this
 refine enter (m:=230) Tryz.func45 O Tryz.ntmps45 O (Cy (bI O (Lt (Cy (cE H GS O ?_)))))
 intro w b9 hn9 hb9 H
 refine bC H 0 k_ O O O O ?_
 intro w H
 try simp only [List.set,List.eraseIdx] at H
 refine Lt (Cs (Cy (bH O (dC H 1 1 (I.keep H.frm hS) hne O ω O O O ?_))))
 intro w _ H
 rw [e1] at H ⊢
 simp only [List.set] at H
 refine Lp (bR (b:=decide (u≠0)) O O (decide_eq_decide.2 ω)) (Lt ?_)
 refine aH (fun ρ w' => ∃ cc st2,cc≤11∧jH top wd ht st=nF (KG top wd ht) wd ht cc st2∧ρ 0=pT rb∧ρ 1=iT wd∧ρ 2=iT ht∧ρ 3=.bool top∧ρ 9=pT b9 ∧
  St W [rb] [aa b9 [iT cc] 3,cy rb sb so c s st2] w') ?_ ?_
 case refine_1 =>
  by_cases hu0:u=0
  case pos =>
   subst hu0
   refine Cq O (Ck (tn ?_))
   exact ⟨0,dV,ω,EB top wd ht st e1,O,O,O,O,O,H⟩
  obtain ⟨cn,st2,e2⟩:∃ cn st2,Go.Proofs.YtmgemcffhbnpfaaGreatDoor.sb 4 dV=(cn,st2):=⟨_,_,rfl⟩
  have hcn:cn<16:=by have:=fG 4 dV;rw [e2] at this;exact this
  have hb:decide (u≠0)=true:=decide_eq_true hu0
  rw [hb]
  refine Cp O ?_
  refine Cy (bH O (dC H 1 4 (I.keep H.frm hS) hne O ω O O O ?_))
  intro w _ H
  rw [e2] at H ⊢
  refine bC (m:=(cn:Int)) H 0 k_ O O O O ?_
  intro w H
  simp only [List.set] at H
  refine Lt ?_
  by_cases hlo:cn<1
  case pos =>
   have hP:=Bm top wd ht st hu0 e1 e2 (.inl hlo)
   refine Cy (aC a_ O (H.cell 0 O O) (Lp (dy (b:=true) O O (decide_eq_true ω)) (dh O (Lk (Lk (ay O O (Lt ?_)))))))
   refine Cp O ?_
   refine Cy (bH O (aK O (aU dL O (g_ H 1 lU O O O ?_))))
   intro w H
   simp only [List.set] at H
   refine Lt (Cy (bI O (Lt (Ct (aE ?_)))))
   rw [hP]
   exact ak O O ⟨none,0,O,.inl ⟨O,O,O,O⟩,by simp [bQ],H.get (i:=1) rfl,H.frm⟩
  by_cases hhi:11<cn
  case pos =>
   have hP:=Bm top wd ht st hu0 e1 e2 (.inr hhi)
   refine Cy (aC a_ O (H.cell 0 O O) (Lp (dy (b:=false) O O (decide_eq_false ω)) (dh O (Lg (ef a_ O (H.cell 0 O O)) (Lg (bE (b:=true) O O (decide_eq_true ω)) (ay O O (Lt ?_)))))))
   refine Cp O ?_
   refine Cy (bH O (aK O (aU dL O (g_ H 1 lU O O O ?_))))
   intro w H
   simp only [List.set] at H
   refine Lt (Cy (bI O (Lt (Ct (aE ?_)))))
   rw [hP]
   exact ak O O ⟨none,0,O,.inl ⟨O,O,O,O⟩,by simp [bQ],H.get (i:=1) rfl,H.frm⟩
  refine Cy (aC a_ O (H.cell 0 O O) (Lp (dy (b:=false) O O (decide_eq_false ω)) (dh O (Lg (ef a_ O (H.cell 0 O O)) (Lg (bE (b:=false) O O (decide_eq_false ω)) (ay O O (Lt (Cq O (Ck (tn ?_))))))))))
  exact ⟨cn,st2,ω,E_ top wd ht st hu0 e1 e2 ω,O,O,O,O,O,H⟩
 case refine_2 =>
 clear H
 rintro ρ w5 ⟨cc,st2,hcc,hP,r0,r1,r2,r3,r9,H⟩
 rw [hP]
 clear hP
 refine Cy (bI O (Lt (Cy (az O (az O (Lt ?_))))))
 obtain ⟨m,st3,em⟩:∃ m st3,KG top wd ht st2=(m,st3):=⟨_,_,rfl⟩
 obtain ⟨GF,hGF⟩:∃ GF:Option Addr→Prop,GF=fun pa => m.1≤9∧(m.1=0→m.2=[]∧pa=none)∧(∀ p ∈ m.2,p<2 ^ 32)∧m.2.length≤1000000∧(m.1≠0→st3.f=false→m.2.length=aq wd m.1 * aq ht m.1):=⟨_,rfl⟩
 refine Cs (Cs ?_)
 refine aH (fun ρ w' => ∃ st4 b46,ρ 46=.bool b46∧ρ 0=pT rb∧ρ 1=iT wd∧ρ 2=iT ht∧ρ 9=pT b9∧ρ 10=.slice none 0 0∧ρ 11=iT 0∧ρ 12=iT 1 ∧
  ((b46=false∧KG top wd ht st2=((0,[]),st4))∨(b46=true∧top=true∧∃ u2,u2≠0∧Go.Proofs.YtmgemcffhbnpfaaGreatDoor.sb 1 st2=(u2,st4)))∧St W [rb] [aa b9 [iT cc] 3,cy rb sb so c s st4] w') ?_ ?_
 case refine_1 =>
  cases top with
  | false =>
   refine Cr (dh r3 (dh O (Lk (Lk (Lk (ay O O (Lt ?_)))))))
   exact ⟨st2,false,O,r0,r1,r2,r9,O,O,O,.inl ⟨O,O⟩,H⟩
  | true =>
  obtain ⟨u2,st4,e4⟩:∃ u2 st4,Go.Proofs.YtmgemcffhbnpfaaGreatDoor.sb 1 st2=(u2,st4):=⟨_,_,rfl⟩
  have hu2:u2<2:=by have:=fG 1 st2;rw [e4] at this;exact this
  refine Cr (dh r3 (dh O (Lg (YP η) (E0 H 1 1 (I.keep H.frm hS) hne O ω O O O O O O ?_))))
  intro w _ H
  rw [e4] at H ⊢
  simp only [List.set] at H
  refine Lg (bR (b:=decide (u2≠0)) O O (decide_eq_decide.2 ω)) (ay O O (Lt ?_))
  refine ⟨st4,decide (u2≠0),O,r0,r1,r2,r9,O,O,O,?_,H⟩
  by_cases hu0:u2=0
  ·subst hu0
   exact .inl ⟨O,Do wd ht st2 e4⟩
  ·exact .inr ⟨decide_eq_true hu0,O,u2,hu0,by first | exact e4 | rfl⟩
 case refine_2 =>
 clear H r0 r1 r2 r3 r9
 rintro ρ w6 ⟨st4,b46,r46,r0,r1,r2,r9,r10,r11,r12,hor,H⟩
 refine aH (fun ρ w' => ∃ pa pc,GF pa∧ρ 0=pT rb∧ρ 1=iT wd∧ρ 2=iT ht∧ρ 9=pT b9∧ρ 10=.slice pa m.2.length pc∧ρ 11=iT m.1∧ρ 12=iT (bB m.2+1) ∧
  St W [rb] [aA pa pc 36 1 m.2.length (nums .u32 m.2),aa b9 [iT cc] 3,cy rb sb so c s st3] w') ?_ ?_
 case refine_1 =>
  rw [hGF]
  rcases hor with ⟨rfl,h4⟩ | ⟨rfl,rfl,u2,hu0,e4⟩
  ·rw [h4] at em
   simp only [Prod.mk.injEq] at em
   obtain ⟨rfl,rfl⟩:=em
   refine Cq r46 (Ck (tn ?_))
   exact ⟨none,0,⟨by simp,fun _ => ⟨O,O⟩,by simp,by simp,fun h => absurd O h⟩,r0,r1,r2,r9,r10,r11,r12,H.vec0 36 1⟩
  replace em:rF wd ht st2=(m,st3):=em
  obtain ⟨hb,st5,e5⟩:∃ hb st5,Go.Proofs.YtmgemcffhbnpfaaGreatDoor.sb 3 st4=(hb,st5):=⟨_,_,rfl⟩
  have hhb:hb<8:=by have:=fG 3 st4;rw [e5] at this;exact this
  obtain ⟨px,st6,e6⟩:∃ px st6,zF (aq wd (hb+2)) (aq ht (hb+2)) st5=(px,st6):=⟨_,_,rfl⟩
  rw [FD wd ht st2 hu0 e4 e5 e6] at em
  simp only [Prod.mk.injEq] at em
  obtain ⟨rfl,rfl⟩:=em
  have htw:=cu (b:=hb+2) hw1
  have hth:=cu (b:=hb+2) hh1
  have hmul:=Nat.mul_le_mul htw.2 hth.2
  have hcols:=wY (aq wd (hb+2)) (aq ht (hb+2)) st5
  have hsh:=z6 (aq wd (hb+2)) (aq ht (hb+2)) st5
  rw [e6] at hcols hsh
  obtain ⟨hcl,hc32⟩:=hcols
  simp only at hcl hc32 hsh
  refine Cp r46 ?_
  refine Cy (bH η (dC H 1 3 (I.keep H.frm hS) hne O ω O O O ?_))
  intro w _ H
  rw [e5] at H ⊢
  simp only [List.set] at H
  refine ao (r:=((hb+2:Nat):Int)) O O (ck (b:=2) ω) (az O (Lt (Cy (bH η (ai η (ai O (bZ O ke (eN _ wd (hb+2) ω ω) O (ai η (ai O (bZ O ke (eN _ ht (hb+2) ω ω) O (aS O Gn (OK O w rb sb so c (aq wd (hb+2)) (aq ht (hb+2)) s st5 (H.get (i:=1) O) (I.keep H.frm hS) hne htw.1 ω hth.1 ω ω) O fun e w' hres => ?_)))))))))))
  rw [show jH false (aq wd (hb+2)) (aq ht (hb+2)) st5=(px,st6) from e6] at hres
  obtain ⟨a,cap,he,hV,hfa,hP2,hf⟩:=hres
  refine ⟨_,he,?_⟩
  replace H:=H.growR (i:=1) (r':=cy rb sb so c s st6) (q:=aA a cap 36 1 px.length (nums .u32 px)) rfl hf hP2 (eM _ _ _ _ _ _) rfl hV (cI _ _ _ _ _ _) hfa
  simp only [List.set] at H
  refine gS O (Lt (Cy (bU O (bG aZ O (ai O (Lt (Cb ?_)))))))
  refine Cl (fun mm ρ w' => ∃ i,i≤px.length∧mm=px.length - i∧ρ 0=pT rb∧ρ 1=iT wd∧ρ 2=iT ht∧ρ 9=pT b9∧ρ 10=.slice a px.length cap∧ρ 11=iT (hb+2)∧ρ 12=iT (bB (px.take i)+1) ∧
   ρ 58=.slice a px.length cap∧ρ 59=iT px.length∧ρ 60=iT i∧St W [rb] [aA a cap 36 1 px.length (nums .u32 px),aa b9 [iT cc] 3,cy rb sb so c s st6] w') px.length
   ⟨0,Nat.zero_le _,rfl,r0,r1,r2,r9,rfl,rfl,r12,rfl,rfl,rfl,H⟩ ?_
  clear H r0 r1 r2 r9 r10 r11 r12 r46 hfa hV hP2 hf
  rintro mm ρ w6 ⟨i,hi,hmm,r0,r1,r2,r9,r10,r11,r12,r58,r59,r60,H⟩
  refine Cy (bP η η (Lt ?_))
  by_cases hy:i=px.length
  case pos =>
   subst hy
   refine Cs (CF O ω (Cx (ax (ax (br (tn ?_))))))
   rw [List.take_length] at r12
   exact ⟨a,cap,⟨by simp;omega,fun h => by simp at h,hc32,by simp only;omega,fun _ hf => hsh hf⟩,r0,r1,r2,r9,r10,r11,r12,H⟩
  have hlt:i<px.length:=ω
  obtain ⟨g,rfl,_⟩:=(H.get (i:=0) rfl:bT _ _ _ _ _ _ _).cell ω
  have hp32:px[i]<2 ^ 32:=hc32 _ (List.getElem_mem hlt)
  have hcell:(nums .u32 px)[i]?=some (.int .u32 (px[i]:Nat)):=by simp [nums,hlt]
  have hmt:=rR hlt
  rw [show px.getD i 0=px[i] by simp [hlt]] at hmt
  have hmg:=lV (px.take i)
  have hand:px[i] / 2 ^ 8 &&& 65535=px[i] / 256 % 65536:=Nat.and_two_pow_sub_one_eq_mod _ 16
  have hdv:px[i] / 2 ^ 8≤px[i]:=Nat.div_le_self _ _
  refine Cs (CT O ω (Ck (tn (Cs (Cb (Cy (Lp (bO i aZ r58 r60 O hlt) (aC bD O (bT.cellS (H.get (i:=0) O) hcell) (az O (Lt (Cr (ai η (ai O (Lp (d6 (r:=((px[i] / 2 ^ 8:Nat):Int)) O O ω (jd (k:=.u32) (b:=8) δ)) (Lp (gZ O O (G0 (b:=65535) ⟨ω,ω⟩)) (cm (r:=((px[i] / 256 % 65536:Nat):Int)) jT O (by rw [hand];exact Mn ω) (ao (r:=((px[i] / 256 % 65536+1:Nat):Int)) O O (ck (b:=1) ω) ?_)))))))))))))))))
  refine Lp (xY (r:=((bB (px.take (i+1))+1:Nat):Int)) O O (by rw [hmt];split <;> omega)) (az O (Ln (aF (tn (Cr (ao (r:=((i+1:Nat):Int)) r60 O (ck (b:=1) ω) (ai O (Lt ?_))))))))
  exact ⟨px.length - (i+1),ω,i+1,ω,O,r0,r1,r2,r9,r10,r11,O,r58,r59,O,H⟩
 case refine_2 =>
 clear H r0 r1 r2 r9 r10 r11 r12 r46 hor
 rintro ρ w6 ⟨pa,pc,hG,r0,r1,r2,r9,r10,r11,r12,H⟩
 rw [hGF] at hG
 obtain ⟨hm9,hm0,hm32,hml,hmt⟩:=hG
 clear hGF
 obtain ⟨many,hmany⟩:∃ many,many=bB m.2+1:=⟨_,rfl⟩
 have hmg:=lV m.2
 rw [← hmany] at r12
 have hp2:2 ^ cc≤2 ^ 11:=Nat.pow_le_pow_right ω hcc
 have hpc:0<2 ^ cc:=Nat.two_pow_pos cc
 have hal0:bm cc 0=280+(if cc=0 then 0 else 2 ^ cc):=rfl
 have hal1:280≤bm cc 0∧bm cc 0≤2328:=by rw [hal0];split <;> omega
 refine Cy (aC a_ r9 (H.cell 1 O O) (Lp (ed (r:=((2 ^ cc:Nat):Int)) O O ω (by have:=x7 (a:=1) (b:=cc) ⟨ω,ω⟩;rwa [Nat.one_mul] at this)) (iJ H gj (2 ^ cc) (2 ^ cc) O O O O (Nat.le_refl _) ω ω O ?_)))
 intro w cb hcb1 hcb H
 rw [dz,fK] at H
 refine cE H Dr O ?_
 intro w b15 hn15 hb15 H
 refine kB H 0 vp O O O O ?_
 intro w H
 simp only [List.set] at H
 refine Lt (Cs (Cy (aC a_ r9 (H.cell 3 O O) (bF O O (Lt ?_)))))
 refine aH (fun ρ w' => ∃ cv,CV cc cb cv∧ρ 0=pT rb∧ρ 1=iT wd∧ρ 2=iT ht∧ρ 9=pT b9∧ρ 10=.slice pa m.2.length pc∧ρ 11=iT m.1∧ρ 12=iT many∧ρ 15=pT b15 ∧
  St W [rb] [aa b15 [cv] 22,eB cc cb (dv cc []),aA pa pc 36 1 m.2.length (nums .u32 m.2),aa b9 [iT cc] 3,cy rb sb so c s st3] w') ?_ ?_
 case refine_1 =>
  by_cases hc0:cc=0
  case pos =>
   subst hc0
   refine CT O ω (Cr (kB (a:=none) (m:=0) (c:=0) H 0 vp O O O O ?_))
   intro w H
   simp only [List.set] at H
   refine Lt ?_
   have H1:St W [rb] [aa b15 [.slice none 0 0] 22,aA pa pc 36 1 m.2.length (nums .u32 m.2),aa b9 [iT 0] 3,cy rb sb so c s st3] w:=H.sub [0,2,3,4] rfl (by simp)
   have H2:=H1.cons (r:=eB 0 cb (dv 0 [])) trivial (tv _ _ _) (by simp [eB]) (by simp [eB])
   exact ⟨.slice none 0 0,.inl ⟨O,O⟩,r0,r1,r2,r9,r10,r11,r12,O,H2.sub [1,0,2,3,4] O (by simp)⟩
  have hc1:0<cc:=ω
  refine CF O ω (Ck (tn ?_))
  refine ⟨.slice (aT cb) (2 ^ cc) (2 ^ cc),.inr ⟨hc1,O⟩,r0,r1,r2,r9,r10,r11,r12,O,?_⟩
  rw [jn hc1]
  exact H
 case refine_2 =>
 clear H r0 r1 r2 r9 r10 r11 r12
 rintro ρ w7 ⟨cv,hCV,r0,r1,r2,r9,r10,r11,r12,r15,H⟩
 obtain ⟨ca,cp,hcv,hcvp⟩:=JQ hCV
 obtain ⟨TS,hTS⟩:∃ TS,fw cc many st3=TS:=⟨_,rfl⟩
 have hal:∀ j,1≤bm cc j:=m5 cc
 refine Cy (bI O (Lt (Cs (Cy (ai r12 (ai O (Lt ?_)))))))
 refine aH (fun ρ w' => ∃ gs ms st5 ta tc,gs.length=many∧ms.length=5 * many∧II cc many (ms.map (·.2))∧TS=(ms.map (·.2),st5)∧ρ 0=pT rb∧ρ 1=iT wd∧ρ 2=iT ht∧ρ 9=pT b9∧ρ 10=.slice pa m.2.length pc∧ρ 11=iT m.1∧ρ 15=pT b15∧ρ 16=.slice ta many tc ∧
  St W [rb] [aA ta tc 136 1 many (gs.map yO),vi gs ms,aa b15 [cv] 22,eB cc cb (dv cc []),aA pa pc 36 1 m.2.length (nums .u32 m.2),aa b9 [iT cc] 3,cy rb sb so c s st5] w') ?_ ?_
 case refine_1 =>
  refine Cb ?_
  refine Cl (fun mm ρ w' => ∃ i gs ms st' ta tc,i≤many∧mm=many - i∧gs.length=i∧ms.length=5 * i∧II cc i (ms.map (·.2))∧TS=(ms.map (·.2)++(fw cc (many - i) st').1,(fw cc (many - i) st').2)∧ρ 0=pT rb∧ρ 1=iT wd∧ρ 2=iT ht∧ρ 9=pT b9∧ρ 10=.slice pa m.2.length pc∧ρ 11=iT m.1∧ρ 15=pT b15∧ρ 16=.slice ta i tc∧ρ 77=iT many∧ρ 78=iT i ∧
   St W [rb] [aA ta tc 136 1 i (gs.map yO),vi gs ms,aa b15 [cv] 22,eB cc cb (dv cc []),aA pa pc 36 1 m.2.length (nums .u32 m.2),aa b9 [iT cc] 3,cy rb sb so c s st'] w') many
   ⟨0,[],[],st3,none,0,Nat.zero_le _,rfl,rfl,rfl,⟨rfl,fun j hj => ω⟩,by rw [Nat.sub_zero,hTS];simp,r0,r1,r2,r9,r10,r11,r15,rfl,rfl,rfl,H.ts0.vec0 136 1⟩ ?_
  clear H r0 r1 r2 r9 r10 r11 r12 r15
  rintro mm ρ w8 ⟨i,gs,ms,st',ta,tc,hi,hmm,hgl,hml5,hgp,hT,r0,r1,r2,r9,r10,r11,r15,r16,r77,r78,H⟩
  refine Cy (bP η η (Lt ?_))
  by_cases hy:i=many
  case pos =>
   subst hy
   refine Cs (CF O ω (Cx (ax (ax (br (tn ?_))))))
   rw [Nat.sub_self] at hT
   simp only [fw,fW,List.append_nil] at hT
   exact ⟨gs,ms,st',ta,tc,hgl,hml5,hgp,hT,r0,r1,r2,r9,r10,r11,r15,r16,H⟩
  have hlt:i<many:=ω
  obtain ⟨k,hk⟩:∃ k,many - i=k+1:=⟨many - i - 1,ω⟩
  have hcf:=H.rdF 6 rfl
  cases hf:st'.f with
  | true =>
   rw [hf] at hcf
   refine Cs (CT O ω (Ck (tn (Cs (Cb (Cs (Cy (bH η (aK O (aU dL O (aC jz O hcf (Lt ?_))))))))))))
   refine Cp O ?_
   refine Cy (bI O (Lt (Ct (aE (bL (aE (aE (bL (aE ?_)))))))))
   rw [Cw (.inr hf)] at hT
   have hb:nF (KG top wd ht) wd ht cc st2=([],st'):=by rw [Bg (ts:=ms.map (·.2)++[]) (st2:=st') em (by rw [← hmany,hTS,hT]),if_pos hf]
   rw [hb]
   exact ak O O ⟨none,0,O,.inl ⟨O,O,O,O⟩,by simp [bQ],H.get (i:=6) rfl,H.frm⟩
  | false =>
  rw [hf] at hcf
  obtain ⟨l0,s1,t0⟩:∃ l0 s1,fP (bm cc 0) st'=(l0,s1):=⟨_,_,rfl⟩
  obtain ⟨l1,s2,t1⟩:∃ l1 s2,fP 256 s1=(l1,s2):=⟨_,_,rfl⟩
  obtain ⟨l2,s3,t2⟩:∃ l2 s3,fP 256 s2=(l2,s3):=⟨_,_,rfl⟩
  obtain ⟨l3,s4,t3⟩:∃ l3 s4,fP 256 s3=(l3,s4):=⟨_,_,rfl⟩
  obtain ⟨l4,s5,t4⟩:∃ l4 s5,fP 40 s4=(l4,s5):=⟨_,_,rfl⟩
  have h5:=HD t0 t1 t2 t3 t4
  have hg5:=yX cc st'
  rw [h5] at hg5
  rw [hk,EX hf h5] at hT
  refine Cs (CT O ω (Ck (tn (Cs (Cb (Cs (Cy (bH η (aK O (aU dL O (aC jz O hcf (Lt (Cq O (Ck (tn (Cr (bU r16 (bH η ?_))))))))))))))))))
  refine aC (v:=.slice ca (bm cc 0 - 280) cp) gw r15 (H.cell 2 O (by rw [hcv];rfl)) (bG aZ O (ao (r:=((bm cc 0:Nat):Int)) O O (by rw [fg ω];omega) (qa H 6 (bm cc 0) (I.keep H.frm hS) hne O (hal 0) ω O O O ?_)))
  intro w m0 hm0 _ H
  rw [t0] at H ⊢
  simp only [List.set] at H
  refine bH η (qa H 7 256 (I.keep H.frm hS) hne O ω ω O O O ?_)
  intro w m1 hm1 _ H
  rw [t1] at H ⊢
  simp only [List.set] at H
  refine bH η (qa H 8 256 (I.keep H.frm hS) hne O ω ω O O O ?_)
  intro w m2 hm2 _ H
  rw [t2] at H ⊢
  simp only [List.set] at H
  refine bH η (qa H 9 256 (I.keep H.frm hS) hne O ω ω O O O ?_)
  intro w m3 hm3 _ H
  rw [t3] at H ⊢
  simp only [List.set] at H
  refine bH η (qa H 10 40 (I.keep H.frm hS) hne O ω ω O O O ?_)
  intro w m4 hm4 _ H
  rw [t4] at H ⊢
  refine cH H KC ([(m0,l0),(m1,l1),(m2,l2),(m3,l3),(m4,l4)].flatMap l9) O O δ δ κ ?_
  intro w gb hgb1 hgb H
  refine cH H F8 [yO gb] O O δ δ κ ?_
  intro w b99 hn99 hb99 H
  refine dH H 7 F8 δ O O O O (news:=[yO gb]) O (fun j u hj => by rw [Nat.zero_add];exact H.cell 0 O hj) (by simp [yO,Value.oneCell']) (by simp only [maxLen];omega) ω ?_
  intro ta' tc' w hfa H
  simp only [List.set] at H
  have H1:St W [rb] (aa gb ([(m0,l0),(m1,l1),(m2,l2),(m3,l3),(m4,l4)].flatMap l9) 134 :: f_ m4 (dO l4 l4.length) :: f_ m3 (dO l3 l3.length) :: f_ m2 (dO l2 l2.length) :: f_ m1 (dO l1 l1.length) :: f_ m0 (dO l0 l0.length) :: vi gs ms :: [aA ta' tc' 136 1 (i+1) (gs.map yO++[yO gb]),aa b15 [cv] 22,eB cc cb (dv cc []),aA pa pc 36 1 m.2.length (nums .u32 m.2),aa b9 [iT cc] 3,cy rb sb so c s s5]) w:=H.sub [1,2,3,4,5,6,8,7,9,10,11,12,13] rfl (by simp)
  have H2:=HY (by rw [hml5,hgl]) H1
  refine gS O (Ln (aF (tn (Cr (ao (r:=((i+1:Nat):Int)) r78 O (ck (b:=1) ω) (ai O (Lt ?_)))))))
  have hmap:gs.map yO++[yO gb]=(gs++[gb]).map yO:=by simp
  rw [hmap] at H2
  refine ⟨many - (i+1),ω,i+1,gs++[gb],ms++[(m0,l0),(m1,l1),(m2,l2),(m3,l3),(m4,l4)],s5,ta',tc',ω,O,by simp [hgl],by simp [hml5];omega,?_,?_,r0,r1,r2,r9,r10,r11,r15,O,r77,O,H2.sub [1,0,2,3,4,5,6] O (by simp)⟩
  ·rw [List.map_append]
   exact hgp.append hg5
  ·rw [hT,show many - (i+1)=k by omega,List.map_append,List.append_assoc]
   rfl
 case refine_2 =>
 clear H r0 r1 r2 r9 r10 r11 r12 r15
 rintro ρ w8 ⟨gs,ms,st5,ta,tc,hgl,hml5,hgp,hT,r0,r1,r2,r9,r10,r11,r15,r16,H⟩
 obtain ⟨tg,rfl,_⟩:=(H.get (i:=0) rfl:bT _ _ _ _ _ _ _).cell ω
 obtain ⟨ts,hts⟩:∃ ts,ts=ms.map (·.2):=⟨_,rfl⟩
 rw [← hts] at hgp hT
 obtain ⟨E,hE0⟩:∃ E,fh wd (wd * ht) cc (A3 wd m ts) (wd * ht) [] st5=E:=⟨_,rfl⟩
 have hbody:nF (KG top wd ht) wd ht cc st2=E:=by
  rw [Bg (ts:=ts) (st2:=st5) em (by rw [← hmany,hTS,hT]),← hE0]
  split
  ·rename_i h
   rw [jO (.inr (.inr h))]
  ·rfl
 have hst35:st5.f=false→st3.f=false:=fun h => by
  cases h3:st3.f with
  | false => rfl
  | true =>
   have:=(ka cc many st3).1 h3
   rw [hTS,hT] at this
   rw [h] at this
   cases this
 rw [hbody]
 refine Cy (cE H Dr O ?_)
 intro w b17 hn17 hb17 H
 refine Lt (Cy (Lp (K7 O r9 r15) (bI O (Lt ?_))))
 obtain ⟨n,hn⟩:∃ n,n=wd * ht:=⟨_,rfl⟩
 have hn1:1≤n:=by rw [hn];exact Nat.mul_le_mul hw1 hh1
 rw [← hn] at hE0
 obtain ⟨G,hG⟩:∃ G,G=A3 wd m ts:=⟨_,rfl⟩
 rw [← hG] at hE0
 have hlens:∀ i j,j<5→wj (bm cc j) (G i j):=fun i j hj => by rw [hG];exact uS (by rw [← hmany];exact hgp) i j hj
 replace H:St W [rb] [aA none 0 36 1 ([]:List Nat).length (nums .u32 []),aa b17 [.slice none ([]:List Nat).length 0] 22,aa b15 [cv] 22,eB cc cb (dv cc []),aa b9 [iT cc] 3,aA (aT tg) tc 136 1 many (gs.map yO),vi gs ms,aA pa pc 36 1 m.2.length (nums .u32 m.2),cy rb sb so c s st5] w:=(H.vec0 36 1).sub [0,1,4,5,7,2,3,6,8] rfl (by simp)
 refine Cs ?_
 refine aH (fun ρ w' => ∃ acc a ac st',E=(acc,st')∧ρ 17=pT b17∧St W [rb] [aA a ac 36 1 acc.length (nums .u32 acc),aa b17 [.slice a acc.length ac] 22,cy rb sb so c s st'] w') ?_ ?_
 case refine_1 =>
  refine Cb ?_
  refine Cl (fun mm ρ w' => ∃ k acc a ac st',ru n acc∧n≤acc.length+k∧mm=k∧(st'.f=false→st5.f=false)∧E=fh wd n cc G k acc st'∧ρ 0=pT rb∧ρ 1=iT wd∧ρ 2=iT ht∧ρ 10=.slice pa m.2.length pc∧ρ 11=iT m.1∧ρ 15=pT b15∧ρ 16=.slice (aT tg) many tc∧ρ 17=pT b17 ∧
   ρ 18=.func (.func 64) ([]:List Value).toArray [pT b17,pT b9,pT b15].toArray ∧
   St W [rb] [aA a ac 36 1 acc.length (nums .u32 acc),aa b17 [.slice a acc.length ac] 22,aa b15 [cv] 22,eB cc cb (dv cc acc),aa b9 [iT cc] 3,aA (aT tg) tc 136 1 many (gs.map yO),vi gs ms,aA pa pc 36 1 m.2.length (nums .u32 m.2),cy rb sb so c s st'] w') n
   ⟨n,[],none,0,st5,⟨Nat.zero_le _,by simp⟩,by simp,rfl,id,hE0.symm,r0,r1,r2,r10,r11,r15,r16,rfl,rfl,H⟩ ?_
  clear H r0 r1 r2 r9 r10 r11 r15 r16
  rintro mm ρ w9 ⟨k,acc,a,ac,st',hc,hk,hmm,hst,hE,r0,r1,r2,r10,r11,r15,r16,r17,r18,H⟩
  have hcf:=H.rdF 8 rfl
  by_cases hA:acc.length<n
  case neg =>
   refine Cs (Cy (aC gw r17 (H.cell 1 O O) (bG aZ O (ai η (ai η (Lp (cX (r:=(n:Int)) O O (by rw [hn];exact pK ω)) (Lp (dy (b:=false) O O (decide_eq_false ω)) (dh O (Lk (Lk (Lk (Lk (Lk (ay O O (Lt (Cq O (Cx (ax (ax (br (tn ?_)))))))))))))))))))))
   rw [jO (.inr (.inl ω))] at hE
   exact ⟨acc,a,ac,st',hE,r17,H.sub [0,1,8] O (by simp)⟩
  cases hf:st'.f with
  | true =>
   rw [hf] at hcf
   refine Cs (Cy (aC gw r17 (H.cell 1 O O) (bG aZ O (ai η (ai η (Lp (cX (r:=(n:Int)) O O (by rw [hn];exact pK ω)) (Lp (dy (b:=true) O O (decide_eq_true ω)) (dh O (Lg (YP η) (Lg (iL O) (Lg (iQ dL O) (Lg (ef jz O hcf) (Lg (fT O) (ay O O (Lt (Cq O (Cx (ax (ax (br (tn ?_)))))))))))))))))))))
   rw [jO (.inr (.inr hf))] at hE
   exact ⟨acc,a,ac,st',hE,r17,H.sub [0,1,8] O (by simp)⟩
  | false =>
  rw [hf] at hcf
  obtain ⟨k,rfl⟩:∃ j,k=j+1:=⟨k - 1,ω⟩
  obtain ⟨g,hg⟩:∃ g,g=dF m.1 (aq wd m.1) m.2 wd acc.length:=⟨_,rfl⟩
  have hgm:g<many:=by have:=sP m.1 (aq wd m.1) m.2 wd acc.length;omega
  obtain ⟨gg,hgg⟩:∃ gg,gs[g]?=some gg:=⟨_,List.getElem?_eq_getElem ω⟩
  have hGj:∀ j,j<5→G acc.length j=(ms.getD (5 * g+j) (0,[])).2:=fun j hj => by
   rw [hG,hts,hg]
   unfold A3
   rw [← hg]
   have:5 * g+j<ms.length:=ω
   simp [this]
  have hlt5:∀ j,j<5→5 * g+j<ms.length:=fun j hj => ω
  refine Cs (Cy (aC gw r17 (H.cell 1 O O) (bG aZ O (ai η (ai η (Lp (cX (r:=(n:Int)) O O (by rw [hn];exact pK ω)) (Lp (dy (b:=true) O O (decide_eq_true ω)) (dh O (Lg (YP η) (Lg (iL O) (Lg (iQ dL O) (Lg (ef jz O hcf) (Lg (fT O) (ay O O (Lt ?_)))))))))))))))
  refine Cp O ?_
  refine Ck (tn (Cb ?_))
  obtain ⟨g0,hg0⟩:∃ g0,gs[0]?=some g0:=⟨_,List.getElem?_eq_getElem ω⟩
  refine Cy (bU r16 (Lp (bO 0 Hj O O O ω) ?_))
  refine aC (v:=yO g0) Gd O (bT.cellS (H.get (i:=5) O) (by rw [List.getElem?_map,hg0];rfl)) ?_
  refine gS O (Lt (Cs (Cy (bU r10 (Lp (IK Tryz.underlying22 O O) (Lt ?_))))))
  refine aH (fun ρ w' => ρ 19=.slice (aT gg) 5 5∧ρ 0=pT rb∧ρ 1=iT wd∧ρ 2=iT ht∧ρ 10=.slice pa m.2.length pc∧ρ 11=iT m.1∧ρ 15=pT b15∧ρ 16=.slice (aT tg) many tc∧ρ 17=pT b17∧ρ 18=.func (.func 64) ([]:List Value).toArray [pT b17,pT b9,pT b15].toArray∧St W [rb] [aA a ac 36 1 acc.length (nums .u32 acc),aa b17 [.slice a acc.length ac] 22,aa b15 [cv] 22,eB cc cb (dv cc acc),aa b9 [iT cc] 3,aA (aT tg) tc 136 1 many (gs.map yO),vi gs ms,aA pa pc 36 1 m.2.length (nums .u32 m.2),cy rb sb so c s st'] w') ?_ ?_
  case refine_1 =>
   by_cases hm1:m.1=0
   case pos =>
    obtain ⟨hm2,hpa⟩:=hm0 hm1
    subst hpa
    have hg00:g=0:=by rw [hg];unfold dF;rw [if_pos hm1]
    rw [hg00,hg0] at hgg
    simp only [Option.some.injEq] at hgg
    subst hgg
    refine CB (b:=false) O (fun h => nomatch h) (fun _ => (Ck (tn ?_)))
    exact ⟨O,r0,r1,r2,r10,r11,r15,r16,r17,r18,H⟩
   have hml3:=hmt hm1 (hst35 (hst hf))
   have htw:=cu (b:=m.1) hw1
   have hth:=cu (b:=m.1) hh1
   have hpos:=Nat.mul_le_mul htw.1 hth.1
   obtain ⟨pg,rfl,_⟩:=(H.get (i:=7) rfl:bT _ _ _ _ _ _ _).cell ω
   have hbl:dS wd m.1 acc.length<m.2.length:=by rw [hml3];exact xB hw1 (by rw [← hn];exact hA)
   obtain ⟨ix,hix⟩:∃ ix,ix=dS wd m.1 acc.length:=⟨_,rfl⟩
   rw [← hix] at hbl
   have hp32:m.2[ix]<2 ^ 32:=hm32 _ (List.getElem_mem hbl)
   have hcell:(nums .u32 m.2)[ix]?=some (.int .u32 (m.2[ix]:Nat)):=by simp [nums,hbl]
   have hand:m.2[ix] / 2 ^ 8 &&& 65535=g:=by
    rw [hg]
    unfold dF
    rw [if_neg hm1,← show dS wd m.1 acc.length=aq wd m.1 * (acc.length / wd / 2 ^ m.1)+acc.length % wd / 2 ^ m.1 from rfl,← hix]
    rw [show m.2.getD ix 0=m.2[ix] by simp [hbl]]
    exact Nat.and_two_pow_sub_one_eq_mod _ 16
   have hdv:m.2[ix] / 2 ^ 8≤m.2[ix]:=Nat.div_le_self _ _
   have hac:=hc.1
   have hd1:acc.length / wd≤acc.length:=Nat.div_le_self _ _
   have hd2:acc.length / wd / 2 ^ m.1≤acc.length / wd:=Nat.div_le_self _ _
   have hd3:acc.length % wd / 2 ^ m.1≤acc.length % wd:=Nat.div_le_self _ _
   have hd4:acc.length % wd<wd:=Nat.mod_lt _ ω
   have hd5:=Nat.mul_le_mul (show acc.length / wd / 2 ^ m.1≤1000000 by omega) (show aq wd m.1≤16384 by omega)
   refine CB (b:=true) O (fun _ => ?_) (fun h => nomatch h)
   refine Cy (aC gw r17 (H.cell 1 O O) (bG aZ O (az O (Lt ?_))))
   refine VC.held ((fun w => St W [rb] [aA a ac 36 1 acc.length (nums .u32 acc),aa b17 [.slice a acc.length ac] 22,aa b15 [cv] 22,eB cc cb (dv cc acc),aa b9 [iT cc] 3,aA (aT tg) tc 136 1 many (gs.map yO),vi gs ms,aA (aT pg) pc 36 1 m.2.length (nums .u32 m.2),cy rb sb so c s st'] w)) aJ (by with_reducible repeat (first | refine fB ?_ | refine eP.blk ?_ | refine fy ?_ | refine dP ?_ | exact eP.done)) ?_
   intro w hsame
   replace H:=H.same hsame
   refine Ht 0 O κ κ κ O H (fun w hI => YS r16) (Ht 1 O κ κ κ O H (fun w hI => YS r10) (Ht 2 O κ κ κ O H (fun w hI => YI O) (Ht 3 O κ κ κ O H (fun w hI => YI r1) (Ht 4 O κ κ κ O H (fun w hI => ki (r:=((acc.length / wd:Nat):Int)) O O ω (Dt ω)) (Ht 5 O κ κ κ O H (fun w hI => YI r11) (Ht 6 O κ κ κ O H (fun w hI => d6 (r:=((acc.length / wd / 2 ^ m.1:Nat):Int)) O O ω (jd (k:=.i64) (by show _≤64;omega))) (Ht 7 O κ κ κ O H (fun w hI => YI r1) (Ht 8 O κ κ κ O H (fun w hI => YI r11) (Ht 11 O κ κ κ O H (fun w hI => YI O) (Ht 12 O κ κ κ O H (fun w hI => YI r1) (Ht 13 O κ κ κ O H (fun w hI => gI (r:=((acc.length % wd:Nat):Int)) O O ω O) (Ht 14 O κ κ κ O H (fun w hI => YI r11) (Ht 15 O κ κ κ O H (fun w hI => d6 (r:=((acc.length % wd / 2 ^ m.1:Nat):Int)) O O ω (jd (k:=.i64) (by show _≤64;omega))) (kR 9 O κ O ke (eN _ wd m.1 ω hm9) O H (Ht 10 O κ κ κ O H (fun w hI => cX (r:=((acc.length / wd / 2 ^ m.1 * aq wd m.1:Nat):Int)) O O (pK ω)) (Ht 16 O κ κ κ O H (fun w hI => oC (r:=(ix:Int)) O O (by rw [ck ω,hix];unfold dS;rw [Nat.mul_comm])) (Ht 17 O κ κ κ O H (fun w hI => bO ix aZ O O O hbl) (Ht 18 O κ κ κ O H (fun w hI => ef bD O (bT.cellS (hI.get (i:=7) O) hcell)) (Ht 19 O κ κ κ O H (fun w hI => d6 (r:=((m.2[ix] / 2 ^ 8:Nat):Int)) O O ω (jd (k:=.u32) (b:=8) δ)) ?_)))))))))))))))))))
   refine Ht 20 O κ κ κ O H (fun w hI => gZ (r:=(g:Int)) O O (by have:=G0 (a:=m.2[ix] / 2 ^ 8) (b:=65535) ⟨ω,ω⟩;rw [hand] at this;exact this)) (Ht 21 O κ κ κ O H (fun w hI => bO g Hj O O O hgm) ?_)
   refine Ht 22 O κ κ κ O H (fun w hI => ef (v:=yO gg) Gd O (bT.cellS (hI.get (i:=5) O) (by rw [List.getElem?_map,hgg];rfl))) ?_
   refine Ht 23 O κ κ κ O H (fun w hI => AS O) (g7 κ (tn ?_))
   exact ⟨O,r0,r1,r2,r10,r11,r15,r16,r17,r18,H⟩
  case refine_2 =>
  clear H hcf r0 r1 r2 r10 r11 r15 r16 r17 r18
  rintro ρ w10 ⟨r19,r0,r1,r2,r10,r11,r15,r16,r17,r18,H⟩
  obtain ⟨x,q1,ex⟩:∃ x q1,jt (G acc.length 0) st'=(x,q1):=⟨_,_,rfl⟩
  have hL0:=hlens acc.length 0 ω
  have hx:x<bm cc 0:=by have:=lK (ls:=G acc.length 0) (by rw [hL0.1];exact hal 0) st';rw [ex,hL0.1] at this;exact this
  have hq1:q1.f=false→st5.f=false:=fun h => hst (by
   cases h2:st'.f with
   | false => rfl
   | true => exact h2 ▸ hf)
  have hac:=hc.1
  have hn6:n≤1000000:=by rw [hn];exact hwh
  refine Cy (bH η (bU r19 (Lp (gm 0 xD O O O δ) (Lp (fH (cs:=l9 (ms.getD (5 * g+0) (0,[]))) j6 O O (j8 H O O hgg ω (hlt5 0 ω)).1) (mG H 8 (I.keep H.frm hS) hne (j8 H O O hgg ω (hlt5 0 ω)).2.1 (j8 H O O hgg ω (hlt5 0 ω)).2.2 O O O O ?_)))))
  intro w _ H
  rw [← hGj 0 ω,ex] at H ⊢
  simp only [List.set] at H
  refine az O (Lt ?_)
  have hcols:=sq (w:=wd) (n:=n) (hlens acc.length) hA hc.2 st'
  refine Cb ?_
  by_cases h256:x<256
  case pos =>
   obtain ⟨r,q2,er⟩:∃ r q2,jt (G acc.length 1) q1=(r,q2):=⟨_,_,rfl⟩
   have hr':r<256:=by have h:=lK (ls:=G acc.length 1) (by rw [(hlens acc.length 1 ω).1];exact hal 1) q1;rw [er,(hlens acc.length 1 ω).1] at h;exact h
   obtain ⟨bl,q3,ebl⟩:∃ bl q3,jt (G acc.length 2) q2=(bl,q3):=⟨_,_,rfl⟩
   have hbl:bl<256:=by have h:=lK (ls:=G acc.length 2) (by rw [(hlens acc.length 2 ω).1];exact hal 2) q2;rw [ebl,(hlens acc.length 2 ω).1] at h;exact h
   obtain ⟨al,q4,eal⟩:∃ al q4,jt (G acc.length 3) q3=(al,q4):=⟨_,_,rfl⟩
   have hal':al<256:=by have h:=lK (ls:=G acc.length 3) (by rw [(hlens acc.length 3 ω).1];exact hal 3) q3;rw [eal,(hlens acc.length 3 ω).1] at h;exact h
   have htok:jv wd n cc (G acc.length) acc st'=(acc++[fQ al r x bl],q4):=by
    unfold jv cW
    rw [ex]
    simp only [h256,if_true]
    rw [er]
    simp only
    rw [ebl]
    simp only
    rw [eal]
    rfl
   rw [htok] at hcols
   rw [lO hA hf htok] at hE
   refine Cy (ai O (Lp (dy (b:=true) O O (decide_eq_true ω)) (cU O (Lt ?_))))
   refine Cp O ?_
   refine Cy (bH η (bU r19 (Lp (gm 1 xD O O O δ) (Lp (fH (cs:=l9 (ms.getD (5 * g+1) (0,[]))) j6 O O (j8 H O O hgg ω (hlt5 1 ω)).1) (mG H 8 (I.keep H.frm hS) hne (j8 H O O hgg ω (hlt5 1 ω)).2.1 (j8 H O O hgg ω (hlt5 1 ω)).2.2 O O O O ?_)))))
   intro w _ H
   rw [← hGj 1 ω,er] at H ⊢
   simp only [List.set] at H
   refine az O (Lt (Cy (bH η (bU r19 (Lp (gm 2 xD O O O δ) (Lp (fH (cs:=l9 (ms.getD (5 * g+2) (0,[]))) j6 O O (j8 H O O hgg ω (hlt5 2 ω)).1) (mG H 8 (I.keep H.frm hS) hne (j8 H O O hgg ω (hlt5 2 ω)).2.1 (j8 H O O hgg ω (hlt5 2 ω)).2.2 O O O O ?_)))))))
   intro w _ H
   rw [← hGj 2 ω,ebl] at H ⊢
   simp only [List.set] at H
   refine az O (Lt (Cy (bH η (bU r19 (Lp (gm 3 xD O O O δ) (Lp (fH (cs:=l9 (ms.getD (5 * g+3) (0,[]))) j6 O O (j8 H O O hgg ω (hlt5 3 ω)).1) (mG H 8 (I.keep H.frm hS) hne (j8 H O O hgg ω (hlt5 3 ω)).2.1 (j8 H O O hgg ω (hlt5 3 ω)).2.2 O O O O ?_)))))))
   intro w _ H
   rw [← hGj 3 ω,eal] at H ⊢
   simp only [List.set] at H
   refine az O (Lt (Cr (db r18 (ai O (ai O (ai O (ai O (jr al r x bl ω ω ω ω O O O O O (z_ (show St W [rb] (wN a ac b17 b15 b9 cb cc cv acc++[aA (aT tg) tc 136 1 many (gs.map yO),vi gs ms,aA pa pc 36 1 m.2.length (nums .u32 m.2),cy rb sb so c s q4]) w from H) hCV hcc (Aa (by exact ‹al<256›) (by exact ‹r<256›) h256 (by exact ‹bl<256›)) ω O O O ?_)))))))))
   intro w a' ac' H
   refine Ln (aF (aF (tn ?_)))
   exact ⟨k,ω,k,acc++[fQ al r x bl],a',ac',q4,hcols,by simp;omega,O,fun _ => hst hf,hE,r0,r1,r2,r10,r11,r15,r16,r17,r18,H⟩
  by_cases h280:x<280
  case pos =>
   obtain ⟨ln,q2,eln⟩:∃ ln q2,pJ (x - 256) q1=(ln,q2):=⟨_,_,rfl⟩
   have hln:1≤ln∧ln≤1048576:=by have h:=AF (x:=x - 256) ω q1;rw [eln] at h;exact h
   obtain ⟨ds,q3,eds⟩:∃ ds q3,jt (G acc.length 4) q2=(ds,q3):=⟨_,_,rfl⟩
   have hds:ds<40:=by have h:=lK (ls:=G acc.length 4) (by rw [(hlens acc.length 4 ω).1];exact hal 4) q2;rw [eds,(hlens acc.length 4 ω).1] at h;exact h
   obtain ⟨dn,q4,edn⟩:∃ dn q4,pJ ds q3=(dn,q4):=⟨_,_,rfl⟩
   have hdn:1≤dn∧dn≤1048576:=by have h:=AF (x:=ds) hds q3;rw [edn] at h;exact h
   obtain ⟨dist,hdist⟩:∃ dist,dist=eX wd dn:=⟨_,rfl⟩
   have hdp:1≤dist:=by rw [hdist];exact w_ _ _
   have htok0:jv wd n cc (G acc.length) acc st'=(if acc.length<dist∨n<acc.length+ln then fun st => ([],st.fail) else fW (fN dist ln acc)) q4:=by
    unfold jv cW
    rw [ex]
    simp only [h256,h280,if_true,if_false]
    rw [eln]
    simp only
    rw [eds]
    simp only
    rw [edn]
    simp only
    rw [← hdist]
   refine Cy (ai O (Lp (dy (b:=false) O O (decide_eq_false ω)) (cU O (Lt (Cq O (Cy (ai O (Lp (dy (b:=true) O O (decide_eq_true ω)) (cU O (Lt ?_))))))))))
   refine Cp O ?_
   refine Cy (bH η (ai O (bw (r:=((x - 256:Nat):Int)) O O (iw (b:=256) ω) (yM H 8 (x - 256) (I.keep H.frm hS) hne ω O O O O ?_))))
   intro w _ H
   rw [eln] at H ⊢
   simp only [List.set] at H
   refine az O (Lt (Cy (bH η (bH η (bU r19 (Lp (gm 4 xD O O O δ) (Lp (fH (cs:=l9 (ms.getD (5 * g+4) (0,[]))) j6 O O (j8 H O O hgg ω (hlt5 4 ω)).1) (mG H 8 (I.keep H.frm hS) hne (j8 H O O hgg ω (hlt5 4 ω)).2.1 (j8 H O O hgg ω (hlt5 4 ω)).2.2 O O O O ?_))))))))
   intro w _ H
   rw [← hGj 4 ω,eds] at H ⊢
   simp only [List.set] at H
   refine yM H 8 ds (I.keep H.frm hS) hne hds O O O O ?_
   intro w _ H
   rw [edn] at H ⊢
   simp only [List.set] at H
   refine ai r1 ?_
   refine aS O FJ (yx _ dn wd hdn.1 hdn.2 ω) O fun e w' ⟨he,hfd⟩ => ⟨_,he,?_⟩
   rw [← hdist]
   replace H:=H.quiet hfd
   refine az O (Lt ?_)
   by_cases hfar:acc.length<dist
   case pos =>
    rw [if_pos (.inl hfar)] at htok0
    rw [lO hA hf htok0,jO (.inr (.inr rfl))] at hE
    refine Cs (Cy (ai O (aC gw r17 (H.cell 1 O O) (bG aZ O (Lp (bE (b:=true) O O (decide_eq_true ω)) (dh O (Lk (Lk (Lk (Lk (Lk (Lk (Lk (Lk (ay O O (Lt ?_))))))))))))))))
    refine Cp O ?_
    refine Cy (bH η (aK O (aU dL O (g_ H 8 lU O O O ?_))))
    intro w H
    simp only [List.set] at H
    refine Lt (Cy (bI O (Lt (Ct (aE (bL (bL (aE (bL (aE ?_))))))))))
    rw [hE]
    exact ak O O ⟨none,0,O,.inl ⟨O,O,O,O⟩,by simp [bQ],H.get (i:=8) rfl,H.frm⟩
   by_cases hov:n<acc.length+ln
   case pos =>
    rw [if_pos (.inr hov)] at htok0
    rw [lO hA hf htok0,jO (.inr (.inr rfl))] at hE
    refine Cs (Cy (ai O (aC gw r17 (H.cell 1 O O) (bG aZ O (Lp (bE (b:=false) O O (decide_eq_false ω)) (dh O (Lg (ef gw r17 (H.cell 1 O O)) (Lg (dx aZ O) (Lg (YI O) (Lg (oC O O (ck ω)) (Lg (YI r1) (Lg (YI r2) (Lg (cX (r:=(n:Int)) O O (by rw [hn];exact pK ω)) (Lg (bE (b:=true) O O (decide_eq_true ω)) (ay O O (Lt ?_))))))))))))))))
    refine Cp O ?_
    refine Cy (bH η (aK O (aU dL O (g_ H 8 lU O O O ?_))))
    intro w H
    simp only [List.set] at H
    refine Lt (Cy (bI O (Lt (Ct (aE (bL (bL (aE (bL (aE ?_))))))))))
    rw [hE]
    exact ak O O ⟨none,0,O,.inl ⟨O,O,O,O⟩,by simp [bQ],H.get (i:=8) rfl,H.frm⟩
   rw [if_neg ω] at htok0
   replace htok0:jv wd n cc (G acc.length) acc st'=(fN dist ln acc,q4):=htok0
   rw [htok0] at hcols
   rw [lO hA hf htok0] at hE
   refine Cs (Cy (ai O (aC gw r17 (H.cell 1 O O) (bG aZ O (Lp (bE (b:=false) O O (decide_eq_false ω)) (dh O (Lg (ef gw r17 (H.cell 1 O O)) (Lg (dx aZ O) (Lg (YI O) (Lg (oC O O (ck ω)) (Lg (YI r1) (Lg (YI r2) (Lg (cX (r:=(n:Int)) O O (by rw [hn];exact pK ω)) (Lg (bE (b:=false) O O (decide_eq_false ω)) (ay O O (Lt (Cq O (Ck ?_))))))))))))))))))
   refine tn (Cy (ai O (ai O (Lt (Cb ?_)))))
   refine Cl (fun mm ρ w' => ∃ i cur a ac,i≤ln∧mm=ln - i∧fN dist ln acc=fN dist (ln - i) cur∧cur.length=acc.length+i∧(∀ p ∈ cur,p<2 ^ 32)∧ρ 0=pT rb∧ρ 1=iT wd∧ρ 2=iT ht∧ρ 10=.slice pa m.2.length pc∧ρ 11=iT m.1∧ρ 15=pT b15∧ρ 16=.slice (aT tg) many tc∧ρ 17=pT b17∧ρ 18=.func (.func 64) ([]:List Value).toArray [pT b17,pT b9,pT b15].toArray∧ρ 26=iT dist∧ρ 216=iT ln∧ρ 217=iT i∧St W [rb] [aA a ac 36 1 cur.length (nums .u32 cur),aa b17 [.slice a cur.length ac] 22,aa b15 [cv] 22,eB cc cb (dv cc cur),aa b9 [iT cc] 3,aA (aT tg) tc 136 1 many (gs.map yO),vi gs ms,aA pa pc 36 1 m.2.length (nums .u32 m.2),cy rb sb so c s q4] w') ln
    ⟨0,acc,a,ac,Nat.zero_le _,rfl,rfl,rfl,hc.2,r0,r1,r2,r10,r11,r15,r16,r17,r18,rfl,rfl,rfl,H⟩ ?_
   clear H r0 r1 r2 r10 r11 r15 r16 r17 r18 r19
   rintro mm ρ w11 ⟨i,cur,a,ac,hi,hmm2,hcp,hcl,hc32,r0,r1,r2,r10,r11,r15,r16,r17,r18,r26,r216,r217,H⟩
   refine Cy (bP η η (Lt ?_))
   by_cases hy:i=ln
   case pos =>
    subst hy
    refine Cs (CF O ω (Cx (ax (ax (br (aF (aF (tn ?_))))))))
    rw [Nat.sub_self] at hcp
    replace hcp:fN dist i acc=cur:=hcp
    rw [hcp] at hcols hE
    exact ⟨k,ω,k,cur,a,ac,q4,hcols,ω,O,fun _ => hst hf,hE,r0,r1,r2,r10,r11,r15,r16,r17,r18,H⟩
   have hlt:i<ln:=ω
   obtain ⟨ga,rfl,_⟩:=(H.get (i:=0) rfl:bT _ _ _ _ _ _ _).cell ω
   have hix:cur.length - dist<cur.length:=ω
   have hcell:=de (k:=.u32) hix
   have hpv:cur.getD (cur.length - dist) 0<2 ^ 32:=by
    have:cur.getD (cur.length - dist) 0=cur[cur.length - dist]:=by simp [hix]
    rw [this]
    exact hc32 _ (List.getElem_mem hix)
   refine Cs (CT O ω (Ck (tn (Cs (Cb (Cr (db r18 (aC gw r17 (H.cell 1 O O) (aC gw r17 (H.cell 1 O O) (bG aZ O (ai r26 (bw (r:=((cur.length - dist:Nat):Int)) O O (iw ω) (Lp (bO (cur.length - dist) aZ O O O hix) (aC bD O (bT.cellS (H.get (i:=0) O) hcell) (z_ (show St W [rb] (wN (aT ga) ac b17 b15 b9 cb cc cv cur++[aA (aT tg) tc 136 1 many (gs.map yO),vi gs ms,aA pa pc 36 1 m.2.length (nums .u32 m.2),cy rb sb so c s q4]) w11 from H) hCV hcc hpv ω O O O ?_)))))))))))))))
   intro w a' ac' H
   refine Ln (aF (tn (Cr (ao (r:=((i+1:Nat):Int)) r217 O (ck (b:=1) ω) (ai O (Lt ?_))))))
   rw [show ln - i=(ln - (i+1))+1 by omega] at hcp
   exact ⟨ln - (i+1),ω,i+1,cur++[cur.getD (cur.length - dist) 0],a',ac',ω,O,hcp,by simp;omega,fun p hp => by
    rw [List.mem_append,List.mem_singleton] at hp
    rcases hp with hp | rfl
    ·exact hc32 p hp
    ·exact hpv,r0,r1,r2,r10,r11,r15,r16,r17,r18,r26,r216,O,H⟩
  have hc1:0<cc:=by
   refine Nat.pos_of_ne_zero fun h0 => ?_
   rw [hal0,if_pos h0] at hx
   omega
  have hx2:x - 280<2 ^ cc:=by
   rw [hal0,if_neg (show ¬ cc=0 by omega)] at hx
   omega
  have htok:jv wd n cc (G acc.length) acc st'=(acc++[dv cc acc (x - 280)],q1):=by
   unfold jv cW
   rw [ex]
   simp only [h256,h280,if_false]
   rfl
  rw [htok] at hcols
  rw [lO hA hf htok] at hE
  have hcb:ff w cb (bM .u32 (dv cc acc) (2 ^ cc)) 36:=by have h:=H.get (i:=3) rfl;rw [jn hc1] at h;exact h
  refine Cy (ai O (Lp (dy (b:=false) O O (decide_eq_false ω)) (cU O (Lt (Cq O (Cy (ai O (Lp (dy (b:=false) O O (decide_eq_false ω)) (cU O (Lt (Cq O (Cr (db r18 (aC (v:=.slice (aT cb) (2 ^ cc) (2 ^ cc)) gw r15 (H.cell 2 O (by rw [hcvp hc1];rfl)) (ai O ?_)))))))))))))))
  refine bw (r:=((x - 280:Nat):Int)) O O (iw (b:=280) ω) (Lp (bO (x - 280) aZ O O O hx2) (aC bD O (hcb.cellv (af hx2)) (z_ (show St W [rb] (wN a ac b17 b15 b9 cb cc cv acc++[aA (aT tg) tc 136 1 many (gs.map yO),vi gs ms,aA pa pc 36 1 m.2.length (nums .u32 m.2),cy rb sb so c s q1]) w from H) hCV hcc (uv acc hc.2 _) ω O O O ?_)))
  intro w a' ac' H
  refine Ln (aF (aF (tn ?_)))
  exact ⟨k,ω,k,acc++[dv cc acc (x - 280)],a',ac',q1,hcols,by simp;omega,O,fun _ => hst hf,hE,r0,r1,r2,r10,r11,r15,r16,r17,r18,H⟩
 case refine_2 =>
 clear H r0 r1 r2 r9 r10 r11 r15 r16
 rintro ρ w9 ⟨acc,a,ac,st',hE,r17,H⟩
 rw [hE]
 refine Cy (aC gw r17 (H.cell 1 O O) (gS O (Lt (Ct ?_))))
 exact ak O O ⟨a,ac,O,H.get (i:=0) rfl,fun b hb => by
  rcases H.own _ (List.mem_cons_self ..) b hb with h | h
  ·have:=H.ne (i:=0) (j:=2) δ rfl rfl hb (show b ∈ (cy rb sb so c s st').foot by simpa [cy] using h)
   exact absurd O this
  ·exact h,H.get (i:=2) rfl,H.frm⟩
end Go.Proofs.YtmgemcffhbnpfaaGreatDoor
set_option maxHeartbeats 4000000
namespace Go.Proofs.YtmgemcffhbnpfaaGreatDoor
open Go
theorem LB (x:Int) {b:Nat} (h:x % 256=(b:Int)):IntKind.i8.wrap x=sg b:=by
 have hb:b<256:=ω
 rw [← JT hb,← h]
 unfold IntKind.wrap
 show (if _ then _ else _)=(if _ then _ else _)
 rw [show (x % 256) % (2 ^ IntKind.i8.bits:Int)=x % (2 ^ IntKind.i8.bits:Int) from Int.emod_emod_of_dvd x (Int.dvd_refl 256)]
theorem DB (W:World) (x y:Int) (a b:Nat) (ha:x % 256=(a:Int)) (hb:y % 256=(b:Int)) :
  Calls Tryz.prog 42 #[.int .i64 x,.int .i64 y] W fun e w' => e=.returned (.int .i64 (sg a * sg b / 32))∧w'=W:=by
 have sa:-128≤sg a∧sg a≤127:=by unfold sg;split <;> omega
 have sb:-128≤sg b∧sg b≤127:=by unfold sg;split <;> omega
 have hm:-16384≤sg a * sg b∧sg a * sg b≤16384:=by
  have h1:=Int.natAbs_mul (sg a) (sg b)
  have h2:(sg a).natAbs * (sg b).natAbs≤128 * 128:=Nat.mul_le_mul ω ω
  omega
 refine enter (m:=13) Tryz.func42 O Tryz.ntmps42 O (Cy (az O (Lt (Cy (ai O (cm (r:=sg a) qQ O (LB x ha) (cm (r:=sg a) qL O (fg ω) (ai O (cm (r:=sg b) qQ O (LB y hb) (cm (r:=sg b) qL O (fg ω) (Lp (cX (r:=sg a * sg b) O O (fg ω)) (Lp (d6 (r:=sg a * sg b / 32) O O ω (HA _)) (az O (Lt (Ct ?_)))))))))))))))
 exact ak O O ⟨O,O⟩
section
variable {P:Program} {w w0:World} {S:List Nat} {l:List e_}
theorem IQ {t e:Nat} {c m g:Nat} {xs:List Value} {v:Value} {nn:Nat} {lo:List Oper} {Q:cY} {I:World→Prop} {fuel:Nat} {listed:Array Bool} {ρ:dK} {ty:TypeId} {pos:String} {after:Array Edge} {x y:Operand}
  (k:Nat) (hio:lo[k]?=some ⟨none,.store t x y,ty,pos,after,none⟩) (hrd:Region.ready .any lo.toArray listed=[k]) (H:St w0 S l w) (i j:Nat) (F:vK P t) (hx:ev ρ x=.pointer (some ⟨g,j,none⟩)) (hi:l[i]?=some (aA (aT g) c e 1 m xs)) (hy:ev ρ y=v) (hv:v.oneCell'=true) (hj:j<m)
  (hI:∀ w',St w0 S (l.set i (aA (aT g) c e 1 m (xs.set j v))) w'→I w')
  (h:∀ w',St w0 S (l.set i (aA (aT g) c e 1 m (xs.set j v))) w'→VH P nn lo.toArray Q I fuel (listed.setIfInBounds k true) ρ w'):VH P nn lo.toArray Q I (fuel+1) listed ρ w:=by
 rcases H.get hi with ⟨h0,_⟩ | ⟨g',cur,h0,h1,h2,h3,h4,h5⟩
 ·cases h0
 ·cases h0
  have hc:w.cell? ⟨g,j,none⟩=some cur[j]:=h1.cellv (List.getElem?_eq_getElem ω)
  have H':=H.turn (r':=aA (aT g) c e 1 m (xs.set j v)) hi (cf.put w _ v (by simp [aA,bQ])) (.inr ⟨g,cur.set j v,rfl,h1.put j v,h2,h3,by rw [List.length_set];exact h4,by rw [List.take_set,h5]⟩) (cI _ _ _ _ _ _) (fun b hb => .inl hb)
  exact y7 k hio hrd (td F hx hy hv hc (h1.fz _)) (hI _ H') (h _ H')
end
theorem GG {w m i:Nat} {px:List Nat} (h:∀ p ∈ px,p<2 ^ 32):nH w m px i<2 ^ 32:=by
 unfold nH
 split
 ·split
  ·decide
  ·exact ft h _
 ·split
  ·exact ft h _
  ·exact vL (ft h _) (ft h _)
theorem EE (W:World) (t:Tr) (ht pb po pc:Nat) (px:List Nat) (iv:Value) (hk:t.kind≤3) (hw1:1≤t.wd) (hwd:t.wd≤16384) (hht:1≤ht) (hht2:ht≤16384) (hb:t.kind≤1→t.bits≤9) (hb3:t.kind=3→t.bits≤3) (hr:l7 W .u32 pb po px) (h32:∀ p ∈ px,p<2 ^ 32) (hl:px.length=i0 t * ht) (hn:t.wd * ht≤1000000)
  (hiv:t.kind≠2→∃ ib ic,iv=.slice (aT ib) t.px.length ic∧l7 W .u32 ib 0 t.px) (h01:t.kind≤1→t.px.length=aq t.wd t.bits * aq ht t.bits) (hT:∀ p ∈ t.px,p<2 ^ 32) :
  Calls Tryz.prog 47 #[.agg (gW t.kind t.bits t.wd iv).toArray,.slice (some ⟨pb,po,none⟩) px.length pc,iT ht] W fun e w' => ∃ a c out,e=.returned (.slice a out.length c)∧bT w' a c 36 1 out.length (nums .u32 out)∧(∀ x ∈ bQ a,W.heap.size≤x)∧cf [] W w' ∧
   out.length=t.wd * ht∧(∀ p ∈ out,p<2 ^ 32)∧((t.kind=0→fp t.px=false)→out=l_ ht t px):=by
 obtain ⟨kind,wd,bits,tpx⟩:=t
 simp only at hk hw1 hwd hb hb3 hl hn hiv h01 hT ⊢
 have htn:kind≤1→tpx.length≤1000000:=fun h => by
  rw [h01 h]
  exact Nat.le_trans (Nat.mul_le_mul (cu hw1).2 (cu hht).2) hn
 have H:St W [] [] W:=St.nil W []
 have hpb:pb ∉ ([]:List Nat):=List.not_mem_nil
 have hcell:∀ i,i<px.length→W.cell? ⟨pb,po+i,none⟩=some (.int .u32 ((px.getD i 0:Nat):Int))∧px.getD i 0<2 ^ 32:=fun i hi => by
  have e:px.getD i 0=px[i]:=by simp [hi]
  rw [e]
  exact ⟨hr i hi,h32 _ (List.getElem_mem hi)⟩
 have hblk:kind≤1→∀ i,i<wd * ht→dS wd bits i<tpx.length:=fun h i hi => by
  rw [h01 h]
  exact xB hw1 ω
 refine enter (m:=182) Tryz.func47 O Tryz.ntmps47 O (Cy (fM H (cs:=gW kind bits wd iv) O O O ?_))
 intro w b3 hn3 hb3' H
 refine bI O (Lt (Cy (bI O (Lt ?_))))
 replace H:=H.vec0 36 1
 refine Cs (Cy (aU gU O (aC a_ O (H.cell 1 (v:=iT kind) O O) (Lt ?_))))
 refine aH (fun ρ w' => ∃ a c out rs,ρ 7=.slice a out.length c∧St W [] (aA a c 36 1 out.length (nums .u32 out) :: rs) w'∧out.length=wd * ht∧(∀ p ∈ out,p<2 ^ 32)∧((kind=0→fp tpx=false)→out=l_ ht ⟨kind,wd,bits,tpx⟩ px)) ?_ ?_
 case refine_2 =>
  clear H
  rintro ρ w5 ⟨a,c,out,rs,h7,H,ho⟩
  refine Cy (bU η (gS O (Lt (Ct ?_))))
  obtain ⟨q1,q2,q3⟩:=D7 H
  exact ak O O ⟨a,c,out,O,q1,q2,q3,ho⟩
 case refine_1 =>
 refine Cb ?_
 by_cases hk0:kind=0
 case pos =>
  subst hk0
  obtain ⟨ib,ic,rfl,hri⟩:=hiv δ
  replace hl:px.length=wd * ht:=hl
  replace hb:=hb δ
  replace htn:=htn δ
  have hfw:l_ ht ⟨0,wd,bits,tpx⟩ px=i4 (pz wd bits tpx) [] px:=rfl
  rw [hfw,← om]
  refine Cy (bF O O (cU O (Lt (CT O ω (Cy (bU O (bG aZ O (ai O (Lt (Cb ?_))))))))))
  refine Cl (fun mm ρ w' => ∃ out a c,out.length≤px.length∧mm=px.length - out.length∧(∀ p ∈ out,p<2 ^ 32)∧(fp tpx=false→out=gN (pz wd bits tpx) px out.length)∧ρ 1=.slice (some ⟨pb,po,none⟩) px.length pc∧ρ 3=pT b3∧ρ 7=.slice a out.length c∧ρ 28=.slice (some ⟨pb,po,none⟩) px.length pc∧ρ 29=iT px.length∧ρ 30=iT out.length ∧
    St W [] [aA a c 36 1 out.length (nums .u32 out),aa b3 (gW 0 bits wd (.slice (aT ib) tpx.length ic)) 47] w') px.length
   ⟨[],none,0,by simp,rfl,by simp,fun _ => rfl,rfl,rfl,rfl,rfl,rfl,rfl,H⟩ ?_
  clear H
  rintro mm ρ w5 ⟨out,a,c,hi,hmm,ho32,homade,r1,r3,r7,r28,r29,r30,H⟩
  refine Cy (bP r30 r29 (Lt ?_))
  by_cases hlt:out.length<px.length
  case neg =>
   have heq:out.length=px.length:=ω
   refine Cs (CF O ω (Cx (ax (ax (br (aF (tn ?_)))))))
   exact ⟨a,c,out,_,r7,H,ω,ho32,fun h => by rw [← heq];exact homade (h O)⟩
  obtain ⟨hc1,hp32⟩:=hcell _ hlt
  obtain ⟨i,hii⟩:∃ i,i=out.length:=⟨_,rfl⟩
  have hbl:=hblk δ i ω
  have hT32:tpx.getD (dS wd bits i) 0<2 ^ 32:=ft hT _
  have hol:(out++[0]).length=i+1:=by rw [hii];simp
  have ho0:∀ p ∈ out++[0],p<2 ^ 32:=fun p hp => by
   rw [List.mem_append,List.mem_singleton] at hp
   rcases hp with hp | rfl
   ·exact ho32 p hp
   ·decide
  obtain ⟨q,hq⟩:∃ q,q=da (px.getD i 0) (nH wd (z1 (pG (tpx.getD (dS wd bits i) 0))) (out++[0]) i):=⟨_,rfl⟩
  have hq32:q<2 ^ 32:=by rw [hq];exact xV _ _
  have hps32:nH wd (z1 (pG (tpx.getD (dS wd bits i) 0))) (out++[0]) i<2 ^ 32:=GG ho0
  have hmade:fp tpx=false→out++[q]=gN (pz wd bits tpx) px (i+1):=fun h => by
   have hm14:pG (tpx.getD (dS wd bits i) 0)<14:=by
    have e:tpx.getD (dS wd bits i) 0=tpx[dS wd bits i]:=by simp [hbl]
    rw [e]
    have:=List.any_eq_false.1 h _ (List.getElem_mem hbl)
    simp only [decide_eq_true_eq] at this
    unfold pG
    omega
   rw [qO ω,hii,← homade h,← hii,hq]
   unfold pz
   have e:=A9 (b:=bits) (tpx:=tpx) (px:=out++[0]) (i:=i) hw1 ω hm14
   rw [show List.take i (out++[0])=out by rw [hii];simp] at e
   rw [e,show z1 (pG (tpx.getD (dS wd bits i) 0))=_ from if_pos hm14]
  have hset:(nums .u32 (out++[0])).set i (.int .u32 (q:Nat))=nums .u32 (out++[q]):=by rw [hii];simp [nums]
  rw [← hii] at hc1 hp32 hlt hmm hi r7 r30 H homade
  refine Cs (CT O ω (Ck (tn (Cs (Cb (Cy (ai r30 (Lp (ci i aZ r28 r30 O hlt) (aC bD O (H.old hc1 hpb) (az O (az O (Lt (Cy (bU r7 (cH H gj (nums .u32 [0]) O O δ δ κ ?_)))))))))))))))
  intro w b12 hn12 hb12 H
  refine dH H 1 gj δ O O O O (news:=nums .u32 [0]) O (fun j u hj => by rw [Nat.zero_add];exact H.cell 0 O hj) (fD _ _) (by simp only [maxLen];omega) ω ?_
  intro a' c' w hfa H
  replace H:St W [] [aA a' c' 36 1 (i+1) (nums .u32 (out++[0])),aa b3 (gW 0 bits wd (.slice (aT ib) tpx.length ic)) 47] w:=by rw [dT];exact H.sub [1,2] rfl δ
  refine gS O (Lt ?_)
  refine iC (fun ρ w' => ∃ a' c',ρ 1=.slice (some ⟨pb,po,none⟩) px.length pc∧ρ 3=pT b3∧ρ 7=.slice a' (i+1) c'∧ρ 28=.slice (some ⟨pb,po,none⟩) px.length pc∧ρ 29=iT px.length∧ρ 30=iT i ∧
    St W [] [aA a' c' 36 1 (i+1) (nums .u32 (out++[q])),aa b3 (gW 0 bits wd (.slice (aT ib) tpx.length ic)) 47] w') ?_ ?_
  case refine_1 =>
   obtain ⟨g,hga,hgc⟩:=(H.get (i:=0) rfl:bT _ _ _ _ _ _ _).cell ω
   subst hga
   have hrow0:=fun {w':World} (h:St W [] [aA (aT g) c' 36 1 (i+1) (nums .u32 (out++[0])),aa b3 (gW 0 bits wd (.slice (aT ib) tpx.length ic)) 47] w') => lH (xs:=out++[0]) (g:=g) (c:=c') (by rw [hol];exact h.get (i:=0) rfl)
   refine VC.held ((fun w' => ff w' b3 (gW 0 bits wd (.slice (aT ib) tpx.length ic)) 47)) aJ (by with_reducible repeat (first | refine fB ?_ | refine eP.blk ?_ | refine fy ?_ | refine dP ?_ | exact eP.done)) ?_
   intro w hsame
   replace H:=H.same hsame
   refine Ht 0 O κ κ κ O (H.blk (i:=1) O) (fun w hI => YS O) (Ht 1 O κ κ κ O (H.blk (i:=1) O) (fun w hI => YI O) (Ht 2 O κ κ κ O (H.blk (i:=1) O) (fun w hI => YI O) (Ht 3 O κ κ κ O (H.blk (i:=1) O) (fun w hI => YS O) (Ht 4 O κ κ κ O (H.blk (i:=1) O) (fun w hI => iQ kF r3) (Ht 5 O κ κ κ O (H.blk (i:=1) O) (fun w hI => ef a_ O (hI.cellv (v:=iT wd) O)) (Ht 6 O κ κ κ O (H.blk (i:=1) O) (fun w hI => YI O) (Ht 7 O κ κ κ O (H.blk (i:=1) O) (fun w hI => fH (cs:=gW 0 bits wd (.slice (aT ib) tpx.length ic)) pf r3 O (fun j hj => by rw [Nat.zero_add];exact hI.cell j)) (Ht 8 O κ κ κ O (H.blk (i:=1) O) (fun w hI => YI O) (gA 9 O κ O z3 (q9 w 0 bits wd ib ic i tpx (hri.keep H.frm List.not_mem_nil) hw1 ω hb ω hbl ω) O ?_)))))))))
   rintro e w ⟨he,hf⟩
   replace H:=H.quiet hf
   refine ⟨_,he,H.blk (i:=1) rfl,?_⟩
   refine gA 10 O κ O wU (qH w _ 8 hT32 δ) O ?_
   rintro e w ⟨he,rfl⟩
   refine ⟨_,he,H.blk (i:=1) rfl,?_⟩
   refine gA 11 O κ O F_ (rE w g 0 c' (out++[0]) wd i _ (hrow0 H) ho0 hw1 ω ω ω) (by rw [hol];rfl) ?_
   rintro e w ⟨he,hf⟩
   replace H:=H.quiet hf
   refine ⟨_,he,H.blk (i:=1) rfl,?_⟩
   refine gA 12 O κ O HN (y6 w _ _ hp32 hps32) O ?_
   rintro e w ⟨he,rfl⟩
   rw [← hq] at he
   refine ⟨_,he,H.blk (i:=1) rfl,?_⟩
   refine Ht 13 O κ κ κ O (H.blk (i:=1) O) (fun w hI => bO i aZ O O O ω) (IQ (v:=.int .u32 (q:Nat)) 14 O κ H 0 i dY O O O O ω (fun _ H => H.blk (i:=1) O) ?_)
   intro w H
   replace H:St W [] [aA (aT g) c' 36 1 (i+1) (nums .u32 (out++[q])),aa b3 (gW 0 bits wd (.slice (aT ib) tpx.length ic)) 47] w:=by rw [← hset];exact H
   refine g7 κ (aF (tn ?_))
   exact ⟨_,c',r1,r3,O,r28,r29,r30,H⟩
  case refine_2 =>
  clear H r1 r3 r7 r28 r29 r30
  rintro ρ w6 ⟨a',c',r1,r3,r7,r28,r29,r30,H⟩
  refine Cr (ao (r:=((i+1:Nat):Int)) r30 O (ck (b:=1) ω) (ai O (Lt ?_)))
  have hl2:(out++[q]).length=i+1:=by rw [hii];simp
  exact ⟨px.length - (i+1),ω,out++[q],a',c',ω,by rw [hl2],fun p hp => by
   rw [List.mem_append,List.mem_singleton] at hp
   rcases hp with hp | rfl
   ·exact ho32 p hp
   ·exact hq32,fun h => by rw [hl2];exact hmade h,r1,r3,by rw [hl2];exact r7,r28,r29,by rw [hl2];rfl,by rw [hl2];exact H⟩
 refine Cy (bF O O (cU O (Lt (CF O ω (Cy (bF O O (cU O (Lt ?_))))))))
 by_cases hk1:kind=1
 case pos =>
  subst hk1
  obtain ⟨ib,ic,rfl,hri⟩:=hiv δ
  replace hl:px.length=wd * ht:=hl
  replace hb:=hb δ
  replace htn:=htn δ
  have hfw:l_ ht ⟨1,wd,bits,tpx⟩ px=i4 (kz wd bits tpx) [] px:=rfl
  rw [hfw,← om]
  refine CT O ω (Cy (bU O (bG aZ O (ai O (Lt (Cb ?_))))))
  refine Cl (fun mm ρ w' => ∃ i a c,i≤px.length∧mm=px.length - i∧ρ 3=pT b3∧ρ 7=.slice a i c∧ρ 55=.slice (some ⟨pb,po,none⟩) px.length pc∧ρ 56=iT px.length∧ρ 57=iT i ∧
    St W [] [aA a c 36 1 i (nums .u32 (gN (kz wd bits tpx) px i)),aa b3 (gW 1 bits wd (.slice (aT ib) tpx.length ic)) 47] w') px.length
   ⟨0,none,0,ω,rfl,rfl,rfl,rfl,rfl,rfl,H⟩ ?_
  clear H
  rintro mm ρ w5 ⟨i,a,c,hi,hmm,r3,r7,r55,r56,r57,H⟩
  refine Cy (bP r57 r56 (Lt ?_))
  by_cases hlt:i<px.length
  case neg =>
   obtain rfl:i=px.length:=ω
   have hml:=eu (f:=kz wd bits tpx) (Nat.le_refl px.length)
   refine Cs (CF O ω (Cx (ax (ax (br (aF (tn ?_)))))))
   exact ⟨a,c,gN (kz wd bits tpx) px px.length,_,by rw [hml];exact r7,by rw [hml];exact H,by rw [hml,hl],by rw [om];exact oD (f:=kz wd bits tpx) (P:=fun p => p<2 ^ 32) (fun acc p _ => (rV _ _).2.2.2.2) px [] h32 (by simp),fun _ => rfl⟩
  obtain ⟨hc1,hp32⟩:=hcell i hlt
  have hbl:=hblk δ i ω
  have hT32:tpx.getD (dS wd bits i) 0<2 ^ 32:=ft hT _
  obtain ⟨m,hm⟩:∃ m,m=tpx.getD (dS wd bits i) 0:=⟨_,rfl⟩
  obtain ⟨p,hp⟩:∃ p,p=px.getD i 0:=⟨_,rfl⟩
  have hsti:gN (kz wd bits tpx) px (i+1)=gN (kz wd bits tpx) px i++[iV m p]:=by
   rw [qO hlt,← hp]
   unfold kz
   rw [eu hi,← hm]
  rw [← hp] at hc1 hp32
  rw [← hm] at hT32
  obtain ⟨a1,a2,a3,a4⟩:=bX p
  have d1:=mD (pB m) (pG p)
  have d2:=mD (pG m) (pG p)
  have sB:=Lb (bX m).2.2.2 a3
  have sG:=Lb (bX m).2.2.1 a3
  obtain ⟨rr,hrr⟩:∃ rr,rr=(pR p+dA (pB m) (pG p)) % 256:=⟨_,rfl⟩
  have hr256:rr<256:=ω
  have d3:=mD (pR m) rr
  have sR:=Lb (bX m).2.1 hr256
  have em:(((pR p:Nat):Int)+sg (pB m) * sg (pG p) / 32) % 256=(rr:Int):=ω
  have ec:iV m p=fQ (pA p) rr (pG p) ((pB p+dA (pG m) (pG p)+dA (pR m) rr) % 256):=by unfold iV;rw [← hrr]
  rw [ec] at hsti
  refine Cs (CT O ω (Ck (tn (Cs (Cb (Cy (ai r57 (Lp (ci i aZ r55 r57 O hlt) (aC bD O (H.old hc1 hpb) (az O (az O (Lt (Cy (Lp (fH (cs:=gW 1 bits wd (.slice (aT ib) tpx.length ic)) pf r3 O (fun j hj => by rw [Nat.zero_add];exact (H.blk (i:=1) O).cell j)) (ai O (aS O z3 (q9 w5 1 bits wd ib ic i tpx (hri.keep H.frm List.not_mem_nil) hw1 ω hb ω hbl ω) O ?_))))))))))))))))
  rintro e w ⟨he,hf⟩
  replace H:=H.quiet hf
  rw [← hm] at he
  refine ⟨_,he,?_⟩
  refine ai O (b_ p 8 hp32 δ O O O (az O (az O (Lt (Cy (ai O (b_ p 16 hp32 δ O O O (ai O (b_ m 0 hT32 δ O O O (ai O (bZ O uD (np _ (aI m 0) (aI p 8) (bz _ _) (bz _ _)) O (ao (r:=((pR p:Nat):Int)+sg (pB m) * sg (pG p) / 32) (show _=Value.int .i64 ((pR p:Nat):Int) from O) (show _=Value.int .i64 (sg (pB m) * sg (pG p) / 32) by show Value.int .i64 (sg (aI m 0) * sg (aI p 8) / 32)=_;rw [uR];rfl) (fg ω) (az O (Lt (Cr (bU r7 ?_))))))))))))))))
  refine ai O (b_ p 24 hp32 δ O O O (ai O (ai O (ai O (b_ p 0 hp32 δ O O O (ai O (b_ m 8 hT32 δ O O O (ai O (bZ O uD (np _ (aI m 8) (aI p 8) (bz _ _) (bz _ _)) O (ao (r:=((pB p:Nat):Int)+sg (pG m) * sg (pG p) / 32) (show _=Value.int .i64 ((pB p:Nat):Int) by show Value.int .i64 ((aI p 0:Nat):Int)=_;rw [uR]) (show _=Value.int .i64 (sg (pG m) * sg (pG p) / 32) from O) (fg ω) (ai O (b_ m 16 hT32 δ O O O (ai O (bZ O uD (DB _ (aI m 16:Nat) (((pR p:Nat):Int)+sg (pB m) * sg (pG p) / 32) (pR m) rr (by have:=(bX m).2.1;rw [jw];omega) em) O (ao (r:=((pB p:Nat):Int)+sg (pG m) * sg (pG p) / 32+sg (pR m) * sg rr / 32) O (show _=Value.int .i64 (sg (pR m) * sg rr / 32) from O) (fg ω) (jr (pA p) rr (pG p) ((pB p+dA (pG m) (pG p)+dA (pR m) rr) % 256) (i:=((pA p:Nat):Int)) (j:=((pR p:Nat):Int)+sg (pB m) * sg (pG p) / 32) (k:=((pG p:Nat):Int)) (l:=((pB p:Nat):Int)+sg (pG m) * sg (pG p) / 32+sg (pR m) * sg rr / 32) ω em ω ω O O O O O (cH H gj (nums .u32 [fQ (pA p) rr (pG p) ((pB p+dA (pG m) (pG p)+dA (pR m) rr) % 256)]) O O δ δ κ ?_)))))))))))))))))
  intro w b12 hn12 hb12 H
  refine dH H 1 gj δ O O O O (news:=nums .u32 [fQ (pA p) rr (pG p) ((pB p+dA (pG m) (pG p)+dA (pR m) rr) % 256)]) O (fun j u hj => by rw [Nat.zero_add];exact H.cell 0 O hj) (fD _ _) (by simp only [maxLen];omega) ω ?_
  intro a' c' w hfa H
  replace H:St W [] [aA a' c' 36 1 (i+1) (nums .u32 (gN (kz wd bits tpx) px (i+1))),aa b3 (gW 1 bits wd (.slice (aT ib) tpx.length ic)) 47] w:=by rw [hsti,dT];exact H.sub [1,2] rfl δ
  refine gS O (Ln (aF (tn (Cr (ao (r:=((i+1:Nat):Int)) r57 O (ck (b:=1) ω) (ai O (Lt ?_)))))))
  exact ⟨px.length - (i+1),ω,i+1,a',c',ω,O,r3,O,r55,r56,O,H⟩
 refine CF O ω (Cy (bF O O (cU O (Lt ?_))))
 by_cases hk2:kind=2
 case pos =>
  subst hk2
  replace hl:px.length=wd * ht:=hl
  have hfw:l_ ht ⟨2,wd,bits,tpx⟩ px=i4 iO [] px:=rfl
  rw [hfw,← om]
  refine CT O ω (Cy (bU O (bG aZ O (ai O (Lt (Cb ?_))))))
  refine Cl (fun mm ρ w' => ∃ i a c,i≤px.length∧mm=px.length - i∧ρ 7=.slice a i c∧ρ 97=.slice (some ⟨pb,po,none⟩) px.length pc∧ρ 98=iT px.length∧ρ 99=iT i ∧
    St W [] [aA a c 36 1 i (nums .u32 (gN iO px i)),aa b3 (gW 2 bits wd iv) 47] w') px.length
   ⟨0,none,0,ω,rfl,rfl,rfl,rfl,rfl,H⟩ ?_
  clear H
  rintro mm ρ w5 ⟨i,a,c,hi,hmm,r7,r97,r98,r99,H⟩
  refine Cy (bP r99 r98 (Lt ?_))
  by_cases hlt:i<px.length
  case neg =>
   obtain rfl:i=px.length:=ω
   have hml:=eu (f:=iO) (Nat.le_refl px.length)
   refine Cs (CF O ω (Cx (ax (ax (br (aF (tn ?_)))))))
   exact ⟨a,c,gN iO px px.length,_,by rw [hml];exact r7,by rw [hml];exact H,by rw [hml,hl],by rw [om];exact oD (f:=iO) (P:=fun p => p<2 ^ 32) (fun acc p _ => (rZ p).2.2.2.2) px [] h32 (by simp),fun _ => rfl⟩
  obtain ⟨hc1,hp32⟩:=hcell i hlt
  obtain ⟨p,hp⟩:∃ p,p=px.getD i 0:=⟨_,rfl⟩
  have hsti:gN iO px (i+1)=gN iO px i++[i6 p]:=by rw [qO hlt,← hp];rfl
  rw [← hp] at hc1 hp32
  obtain ⟨a1,a2,a3,a4⟩:=bX p
  refine Cs (CT O ω (Ck (tn (Cs (Cb (Cy (Lp (ci i aZ r97 r99 O hlt) (aC bD O (H.old hc1 hpb) (az O (Lt (Cy (ai O (b_ p 8 hp32 δ O O O (az O (Lt ?_)))))))))))))))
  refine Cr (bU r7 (ai O (b_ p 24 hp32 δ O O O (ai O (b_ p 16 hp32 δ O O O (ai O (ao (r:=((pR p+pG p:Nat):Int)) (show _=Value.int .i64 ((pR p:Nat):Int) from O) (show _=Value.int .i64 ((pG p:Nat):Int) from O) (ck ω) (ai O (ai O (b_ p 0 hp32 δ O O O (ai O (ao (r:=((pB p+pG p:Nat):Int)) (show _=Value.int .i64 ((pB p:Nat):Int) by show Value.int .i64 ((aI p 0:Nat):Int)=_;rw [uR]) (show _=Value.int .i64 ((pG p:Nat):Int) from O) (ck ω) (jr (pA p) ((pR p+pG p) % 256) (pG p) ((pB p+pG p) % 256) (i:=((pA p:Nat):Int)) (j:=((pR p+pG p:Nat):Int)) (k:=((pG p:Nat):Int)) (l:=((pB p+pG p:Nat):Int)) ω ω ω ω O O O O O (cH H gj (nums .u32 [i6 p]) O O δ δ κ ?_))))))))))))))
  intro w b12 hn12 hb12 H
  refine dH H 1 gj δ O O O O (news:=nums .u32 [i6 p]) O (fun j u hj => by rw [Nat.zero_add];exact H.cell 0 O hj) (fD _ _) (by simp only [maxLen];omega) ω ?_
  intro a' c' w hfa H
  replace H:St W [] [aA a' c' 36 1 (i+1) (nums .u32 (gN iO px (i+1))),aa b3 (gW 2 bits wd iv) 47] w:=by rw [hsti,dT];exact H.sub [1,2] rfl δ
  refine gS O (Ln (aF (tn (Cr (ao (r:=((i+1:Nat):Int)) r99 O (ck (b:=1) ω) (ai O (Lt ?_)))))))
  exact ⟨px.length - (i+1),ω,i+1,a',c',ω,O,O,r97,r98,O,H⟩
 obtain rfl:kind=3:=ω
 obtain ⟨ib,ic,rfl,hri⟩:=hiv δ
 replace hb3:=hb3 rfl
 have hpow:2 ^ bits≤2 ^ 3:=Nat.pow_le_pow_right ω hb3
 have hpow1:1≤2 ^ bits:=Nat.two_pow_pos _
 have heach8:8 / 2 ^ bits≤8:=Nat.div_le_self _ _
 have htl:=cu (b:=bits) hw1
 have hfw:l_ ht ⟨3,wd,bits,tpx⟩ px=(List.range (ht * wd)).map (lY wd bits tpx px):=by rw [Nat.mul_comm];rfl
 rw [hfw]
 obtain ⟨sw,hsw⟩:∃ sw,sw=aq wd bits:=⟨_,rfl⟩
 replace hl:px.length=sw * ht:=by rw [hsw];exact hl
 rw [← hsw] at htl
 obtain ⟨ea,hea⟩:∃ ea,ea=8 / 2 ^ bits:=⟨_,rfl⟩
 have hpe:2 ^ ea≤2 ^ 8:=Nat.pow_le_pow_right ω ω
 have hpe1:1≤2 ^ ea:=Nat.two_pow_pos _
 have hidx:∀ y x,x<wd→lY wd bits tpx px (y * wd+x)=tpx.getD (pG (px.getD (y * sw+x / 2 ^ bits) 0) / 2 ^ (ea * (x % 2 ^ bits)) % 2 ^ ea) 0:=fun y x hx => by
  unfold lY
  rw [← hsw,← hea,show (y * wd+x) / wd=y by rw [Nat.mul_comm,Nat.mul_add_div ω,Nat.div_eq_of_lt hx,Nat.add_zero],show (y * wd+x) % wd=x by rw [Nat.mul_comm,Nat.mul_add_mod,Nat.mod_eq_of_lt hx]]
 have hi32:∀ i,lY wd bits tpx px i<2 ^ 32:=fun i => ft hT _
 refine CF O ω (Cy (bF O O (cU O (Lt (CT O ω (Cs (Cd aJ κ ?_)))))))
 intro w hsame
 replace H:=H.same hsame
 refine dD kF O (aD a_ O (H.cell 1 (v:=iT wd) O O) (dD eV O (aD a_ O (H.cell 1 (v:=iT bits) O O) (bJ O ke (eN _ wd bits ω ω) O (dD eV O (aD a_ O (H.cell 1 (v:=iT bits) O O) (Sp (d6 (r:=((8 / 2 ^ bits:Nat):Int)) O O ω (jd (a:=8) (k:=.i64) (by show _≤(64:Nat);omega))) (oZ O (oZ O (Sn (tn ?_)))))))))))
 rw [← hsw,← hea]
 refine Cy (ai O (ai O (Lt (Cb ?_))))
 refine Cl (fun mm ρ w' => ∃ y a c,y≤ht∧mm=ht - y∧ρ 1=.slice (some ⟨pb,po,none⟩) px.length pc∧ρ 3=pT b3∧ρ 7=.slice a (y * wd) c∧ρ 18=iT sw∧ρ 19=iT ea∧ρ 131=iT ht∧ρ 132=iT y ∧
   St W [] [aA a c 36 1 (y * wd) (nums .u32 ((List.range (y * wd)).map (lY wd bits tpx px))),aa b3 (gW 3 bits wd (.slice (aT ib) tpx.length ic)) 47] w') ht
  ⟨0,none,0,ω,rfl,rfl,rfl,by rw [Nat.zero_mul];rfl,rfl,rfl,rfl,rfl,by rw [Nat.zero_mul];exact H⟩ ?_
 clear H
 rintro mm ρ w6 ⟨y,a,c,hy,hmm,r1,r3,r7,r18,r19,r131,r132,H⟩
 refine Cy (bP r132 r131 (Lt ?_))
 by_cases hlt:y<ht
 case neg =>
  obtain rfl:y=ht:=ω
  refine Cs (CF O ω (Cx (ax (ax (br (aF (tn ?_)))))))
  exact ⟨a,c,(List.range (y * wd)).map (lY wd bits tpx px),_,by show ρ 7=_;rw [r7];simp,by simpa using H,by simp [Nat.mul_comm],fun p hp => by
   obtain ⟨i,_,rfl⟩:=List.mem_map.1 hp
   exact hi32 i,fun _ => rfl⟩
 have hywd:y * wd+wd≤wd * ht:=by
  have:=Nat.mul_le_mul_right wd (show y+1≤ht from hlt)
  rw [Nat.succ_mul,Nat.mul_comm ht] at this
  omega
 have hysw:y * sw+sw≤px.length:=by
  have:=Nat.mul_le_mul_right sw (show y+1≤ht from hlt)
  rw [Nat.succ_mul,Nat.mul_comm ht] at this
  omega
 have hpxl:px.length≤16384 * 16384:=by rw [hl];exact Nat.mul_le_mul ω hht2
 refine Cs (CT O ω (Ck (tn (Cs (Cb (Cy (ai r132 (az O (Lt (Cy (aU kF r3 (aC a_ O (H.cell 1 (v:=iT wd) O O) (ai O (Lt ?_))))))))))))))
 refine iC (fun ρ w' => ∃ a c,ρ 1=.slice (some ⟨pb,po,none⟩) px.length pc∧ρ 3=pT b3∧ρ 7=.slice a ((y+1) * wd) c∧ρ 18=iT sw∧ρ 19=iT ea∧ρ 131=iT ht∧ρ 132=iT y ∧
   St W [] [aA a c 36 1 ((y+1) * wd) (nums .u32 ((List.range ((y+1) * wd)).map (lY wd bits tpx px))),aa b3 (gW 3 bits wd (.slice (aT ib) tpx.length ic)) 47] w') ?_ ?_
 case refine_2 =>
  clear H r1 r3 r7 r18 r19 r131 r132
  rintro ρ w7 ⟨a,c,r1,r3,r7,r18,r19,r131,r132,H⟩
  refine Cr (ao (r:=((y+1:Nat):Int)) r132 O (ck (b:=1) ω) (ai O (Lt ?_)))
  exact ⟨ht - (y+1),ω,y+1,a,c,ω,O,r1,r3,r7,r18,r19,r131,O,H⟩
 case refine_1 =>
 refine Cb ?_
 refine Cl (fun mm ρ w' => ∃ x a c,x≤wd∧mm=wd - x∧ρ 1=.slice (some ⟨pb,po,none⟩) px.length pc∧ρ 3=pT b3∧ρ 7=.slice a (y * wd+x) c∧ρ 18=iT sw∧ρ 19=iT ea∧ρ 20=iT y∧ρ 131=iT ht∧ρ 132=iT y∧ρ 136=iT wd∧ρ 137=iT x ∧
   St W [] [aA a c 36 1 (y * wd+x) (nums .u32 ((List.range (y * wd+x)).map (lY wd bits tpx px))),aa b3 (gW 3 bits wd (.slice (aT ib) tpx.length ic)) 47] w') wd
  ⟨0,a,c,ω,rfl,r1,r3,r7,r18,r19,rfl,r131,r132,rfl,rfl,H⟩ ?_
 clear H r1 r3 r7 r18 r19 r131 r132
 rintro mm2 ρ w7 ⟨x,a,c,hx,hmm2,r1,r3,r7,r18,r19,r20,r131,r132,r136,r137,H⟩
 refine Cy (bP r137 r136 (Lt ?_))
 by_cases hxl:x<wd
 case neg =>
  obtain rfl:x=wd:=ω
  refine Cs (CF O ω (Cx (ax (ax (br (aF (tn ?_)))))))
  exact ⟨a,c,r1,r3,by rw [Nat.succ_mul];exact r7,r18,r19,r131,r132,by rw [Nat.succ_mul];exact H⟩
 have hxb:x / 2 ^ bits<sw:=by rw [hsw];exact uM hxl
 have hat:y * sw+x / 2 ^ bits<px.length:=ω
 obtain ⟨hc1,hq32⟩:=hcell _ hat
 obtain ⟨g,hg⟩:∃ g,g=px.getD (y * sw+x / 2 ^ bits) 0:=⟨_,rfl⟩
 obtain ⟨xm,hxm⟩:∃ xm,xm=x % 2 ^ bits:=⟨_,rfl⟩
 have hxm8:xm<2 ^ bits:=by rw [hxm];exact Nat.mod_lt _ hpow1
 have hexm:ea * xm≤8:=by
  have h1:ea * xm≤ea * 2 ^ bits:=Nat.mul_le_mul_left _ ω
  have h2:ea * 2 ^ bits≤8:=by rw [hea];exact Nat.div_mul_le_self _ _
  omega
 have hg256:=(bX g).2.2.1
 obtain ⟨k,hk⟩:∃ k,k=pG g / 2 ^ (ea * xm) % 2 ^ ea:=⟨_,rfl⟩
 have hk256:k<256:=by have:=Nat.mod_lt (pG g / 2 ^ (ea * xm)) hpe1;omega
 have hgd:pG g / 2 ^ (ea * xm)≤pG g:=Nat.div_le_self _ _
 have epx:lY wd bits tpx px (y * wd+x)=tpx.getD k 0:=by rw [hidx y x hxl,← hg,← hxm,← hk]
 have hysw2:y * sw≤px.length:=ω
 rw [← hg] at hc1 hq32
 refine Cs (CT O ω (Ck (tn (Cs (Cb (Cy (ai r137 (az O (Lt (Cs (Cd aJ κ ?_)))))))))))
 intro w hsame
 replace H:=H.same hsame
 refine cF r1 (bW r20 (bW r18 (Sp (cX (r:=((y * sw:Nat):Int)) O O (pK ω)) (bW O (dD eV r3 (aD a_ O (H.cell 1 (v:=iT bits) O O) (Sp (d6 (r:=((x / 2 ^ bits:Nat):Int)) O O ω (jd (k:=.i64) (by show _≤(64:Nat);omega))) (aG (r:=((y * sw+x / 2 ^ bits:Nat):Int)) O O (ck ω) (Sp (ci (y * sw+x / 2 ^ bits) aZ O O O hat) (aD bD O (H.old hc1 hpb) (jY g 8 hq32 δ O O O (bW r19 (bW O (dD eV r3 (aD a_ O (H.cell 1 (v:=iT bits) O O) (Sp (ed (r:=((2 ^ bits:Nat):Int)) O O ω (by show IntKind.i64.wrap (((1:Nat):Int) * _)=_;rw [x7 ⟨ω,ω⟩,Nat.one_mul])) (cx (r:=((2 ^ bits - 1:Nat):Int)) O O (iw (b:=1) ω) (Sp (gZ (r:=((xm:Nat):Int)) O O (by rw [L8 ⟨ω,ω⟩,Nat.and_two_pow_sub_one_eq_mod,← hxm])) (Sp (cX (r:=((ea * xm:Nat):Int)) O O (pK ω)) ?_)))))))))))))))))))
 refine Sp (d6 (r:=((pG g / 2 ^ (ea * xm):Nat):Int)) O O ω (jd (k:=.i64) (by show _≤(64:Nat);omega))) (bW r19 (Sp (ed (r:=((2 ^ ea:Nat):Int)) O O ω (by show IntKind.i64.wrap (((1:Nat):Int) * _)=_;rw [x7 ⟨ω,ω⟩,Nat.one_mul])) (cx (r:=((2 ^ ea - 1:Nat):Int)) O O (iw (b:=1) ω) (Sp (gZ (r:=((k:Nat):Int)) O O (by rw [L8 ⟨ω,ω⟩,Nat.and_two_pow_sub_one_eq_mod,← hk])) (oZ O (Sn (tn (Cy (az O (Lt (Cs (Cy (ai O (aU iP r3 (aC gw O (H.cell 1 (v:=.slice (aT ib) tpx.length ic) O O) (bG aZ O (bP O O ?_)))))))))))))))))
 refine Lt ?_
 refine aH (fun ρ w' => ρ 1=.slice (some ⟨pb,po,none⟩) px.length pc∧ρ 3=pT b3∧ρ 7=.slice a (y * wd+x) c∧ρ 18=iT sw∧ρ 19=iT ea∧ρ 20=iT y∧ρ 23=.int .u32 (tpx.getD k 0:Nat)∧ρ 131=iT ht∧ρ 132=iT y∧ρ 136=iT wd∧ρ 137=iT x∧w'=w) ?_ ?_
 case refine_1 =>
  by_cases hkl:k<tpx.length
  case neg =>
   have e0:tpx.getD k 0=0:=by simp [hkl]
   refine CF O ω (Ck (tn ?_))
   exact ⟨r1,r3,r7,r18,r19,r20,by rw [e0];rfl,r131,r132,r136,r137,O⟩
  have hcl:=hri k hkl
  rw [show tpx[k]=tpx.getD k 0 by simp [hkl],Nat.zero_add] at hcl
  refine CT O ω (Cr (aU iP r3 (aC gw O (H.cell 1 (v:=.slice (aT ib) tpx.length ic) O O) (ai O (Lp (bO k aZ O O O hkl) (aC bD O (H.old hcl List.not_mem_nil) (az O (Lt ?_))))))))
  exact ⟨r1,r3,r7,r18,r19,r20,O,r131,r132,r136,r137,O⟩
 case refine_2 =>
 clear r1 r3 r7 r18 r19 r20 r131 r132 r136 r137
 rintro ρ w8 ⟨r1,r3,r7,r18,r19,r20,r23,r131,r132,r136,r137,rfl⟩
 refine Cr (bU r7 (ai r23 (cH H gj (nums .u32 [tpx.getD k 0]) O O δ δ κ ?_)))
 intro w b12 hn12 hb12 H
 refine dH H 1 gj δ O O O O (news:=nums .u32 [tpx.getD k 0]) O (fun j u hj => by rw [Nat.zero_add];exact H.cell 0 O hj) (fD _ _) (by simp only [maxLen];omega) ω ?_
 intro a' c' w hfa H
 replace H:St W [] [aA a' c' 36 1 (y * wd+(x+1)) (nums .u32 ((List.range (y * wd+(x+1))).map (lY wd bits tpx px))),aa b3 (gW 3 bits wd (.slice (aT ib) tpx.length ic)) 47] w:=by rw [← Nat.add_assoc,jp,dT,epx];exact H.sub [1,2] rfl δ
 refine gS O (Ln (aF (tn (Cr (ao (r:=((x+1:Nat):Int)) r137 O (ck (b:=1) ω) (ai O (Lt ?_)))))))
 exact ⟨wd - (x+1),ω,x+1,a',c',ω,O,r1,r3,by rw [← Nat.add_assoc];rfl,r18,r19,r20,r131,r132,r136,O,H⟩
section
variable {h k w kd u nw:Nat} {l:List Tr} {st dV st2 st3 st4:RS} {t:Tr} {px:List Nat}
theorem B1 (e1:Go.Proofs.YtmgemcffhbnpfaaGreatDoor.sb 1 st=(u,dV)) (hu:u=0∨dV.f=true):mi h (k+1) w l st=((l,w),dV):=by
 conv => lhs;unfold mi
 unfold cW
 rw [e1]
 exact if_pos (hu.imp (fun h => by simp [h]) id)
theorem EF (e1:Go.Proofs.YtmgemcffhbnpfaaGreatDoor.sb 1 st=(u,dV)) (hu:u≠0) (hf:dV.f=false) (e2:Go.Proofs.YtmgemcffhbnpfaaGreatDoor.sb 2 dV=(kd,st2)):mi h (k+1) w l st=if cM l kd=true then ((l,w),st2.fail) else mi h k (uT kd w h st2).1.2 (l++[(uT kd w h st2).1.1]) (uT kd w h st2).2:=by
 conv => lhs;unfold mi
 unfold cW
 rw [e1]
 simp only
 rw [if_neg (by simp [hu,hf]),e2]
 unfold cM
 by_cases hk:(l.any (·.kind=kd))=true
 ·simp only [hk,if_true]
 ·simp only [hk,if_false]
  rfl
theorem FO (hk:kd≤1) {b:Nat} (e3:Go.Proofs.YtmgemcffhbnpfaaGreatDoor.sb 3 st=(b,dV)) (e4:jH false (aq w (b+2)) (aq h (b+2)) dV=(px,st2)):uT kd w h st=((⟨kd,w,b+2,px⟩,w),st2.odd (decide (kd=0) && fp px)):=by
 unfold uT
 rw [if_pos hk]
 unfold cW
 rw [e3]
 show ((Tr.mk kd w (b+2) (jH false (aq w (b+2)) (aq h (b+2)) dV).1,w),(jH false (aq w (b+2)) (aq h (b+2)) dV).2.odd (decide (kd=0) && fp (jH false (aq w (b+2)) (aq h (b+2)) dV).1))=_
 rw [e4]
theorem Ff {b:Nat} (e3:Go.Proofs.YtmgemcffhbnpfaaGreatDoor.sb 8 st=(b,dV)) (e4:jH false (b+1) 1 dV=(px,st2)):uT 3 w h st=((⟨3,w,b0 (b+1),mN px⟩,aq w (b0 (b+1))),st2):=by
 unfold uT
 rw [if_neg δ,if_neg δ]
 unfold cW
 rw [e3]
 show ((Tr.mk 3 w (b0 (b+1)) (mN (jH false (b+1) 1 dV).1),aq w (b0 (b+1))),(jH false (b+1) 1 dV).2)=_
 rw [e4]
theorem JL {q:Nat × Nat} (e:jF st=(q,dV)) (hf:dV.f=true):iu st=((q,[],[]),dV):=by
 unfold iu cW
 rw [e]
 exact if_pos (.inr hf)
theorem Hw {q:Nat × Nat} (e:jF st=(q,dV)) (hf:dV.f=false) (e2:mi q.2 5 q.1 [] dV=((l,nw),st2)) (hf2:st2.f=true):iu st=((q,l,[]),st2):=by
 unfold iu cW
 rw [e]
 simp only
 rw [if_neg (by simp [hf]),e2]
 exact if_pos (.inr hf2)
theorem J1 {q:Nat × Nat} (e:jF st=(q,dV)) (hf:dV.f=false) (e2:mi q.2 5 q.1 [] dV=((l,nw),st2)) (hf2:st2.f=false) (e3:jH true nw q.2 st2=(px,st3)):iu st=((q,l,px),st3):=by
 unfold iu cW
 rw [e]
 simp only
 rw [if_neg (by simp [hf]),e2]
 simp only
 rw [if_neg (by simp [hf2]),e3]
 rfl
end
theorem jJ.le:∀ {w:Nat} {l:List Tr} {w':Nat},jJ w l w'→(∀ t ∈ l,1≤t.wd)→w'≤w
 | w,[],w',h,_ => Nat.le_of_eq h.symm
 | w,t :: l,w',h,ht => by
  have h1:=jJ.le h.2 fun x hx => ht x (List.mem_cons_of_mem _ hx)
  have h2:i0 t≤t.wd:=by
   unfold i0
   split
   ·exact (cu (ht t (List.mem_cons_self ..))).2
   ·exact Nat.le_refl _
  have:=h.1
  omega
def EM (l:List Tr):Nat:=(cM l 0).toNat+(cM l 1).toNat+(cM l 2).toNat+(cM l 3).toNat
theorem EO {l:List Tr} {t:Tr} (hk:t.kind<4) (h:cM l t.kind=false):EM (l++[t])=EM l+1∧EM l<4:=by
 unfold EM
 simp only [AG]
 obtain ⟨k,wd,b,px⟩:=t
 simp only at hk h ⊢
 have h0:=Bool.toNat_le (cM l 0)
 have h1:=Bool.toNat_le (cM l 1)
 have h2:=Bool.toNat_le (cM l 2)
 have h3:=Bool.toNat_le (cM l 3)
 have:k=0∨k=1∨k=2∨k=3:=ω
 rcases this with rfl | rfl | rfl | rfl <;> (rw [h];simp;omega)
theorem Iw {f:List Nat→Nat→Nat} {l:List Nat} {i:Nat} (h:l.length≤i):nu f l i=i4 f [] l:=by
 unfold nu gN
 rw [List.take_of_length_le h,List.drop_of_length_le h,List.append_nil]
abbrev Kt:=Tr × Option Addr × Nat
def xn (q:Kt):List Value:=gW q.1.kind q.1.bits q.1.wd (.slice q.2.1 q.1.px.length q.2.2)
def iI (ks:List Kt):e_:=⟨ks.flatMap fun q => bQ q.2.1,fun w => ∀ q ∈ ks,bT w q.2.1 q.2.2 36 1 q.1.px.length (nums .u32 q.1.px)⟩
theorem vf (ks:List Kt):(iI ks).Local∧(iI ks).In:=by
 refine ⟨fun w w' h hp q hq => (cI _ _ _ _ _ _).1 w w' (fun b hb => h b (List.mem_flatMap.2 ⟨q,hq,hb⟩)) (hp q hq),fun w hp b hb => ?_⟩
 obtain ⟨q,hq,hb⟩:=List.mem_flatMap.1 hb
 exact (cI q.2.1 q.2.2 36 1 q.1.px.length (nums .u32 q.1.px)).2 w (hp q hq) b hb
theorem D1:∀ (ks:List Kt) (i:Nat) (q:Kt) (j:Nat),ks[i]?=some q→j<4→(ks.flatMap xn)[4 * i+j]?=(xn q)[j]?
 | a :: r,0,q,j,h,hj => by
  simp only [List.getElem?_cons_zero,Option.some.injEq] at h
  subst h
  rw [List.flatMap_cons,List.getElem?_append_left (by simp [xn,gW];omega),Nat.mul_zero,Nat.zero_add]
 | a :: r,i+1,q,j,h,hj => by
  rw [List.getElem?_cons_succ] at h
  rw [List.flatMap_cons,List.getElem?_append_right (by simp [xn,gW];omega),show 4 * (i+1)+j - (xn a).length=4 * i+j by simp [xn,gW];omega]
  exact D1 r i q j h hj
section
variable {w0 w:World} {S:List Nat} {l:List e_} {rb sb so c:Nat} {s:List Nat} {st:RS}
theorem St.img0 (H:St w0 S l w):St w0 S (iI [] :: l) w:=H.cons (fun q hq => (by cases hq)) (vf _) (by simp [iI]) (by simp [iI])
theorem St.imgAdd {ks:List Kt} {t:Tr} {a:Option Addr} {c:Nat} (H:St w0 S (aA a c 36 1 t.px.length (nums .u32 t.px) :: iI ks :: l) w):St w0 S (iI (ks++[(t,a,c)]) :: l) w:=by
 refine zM (rs:=[aA a c 36 1 t.px.length (nums .u32 t.px),iI ks]) H (fun h q hq => ?_) (vf _) (fun b hb => ?_)
 ·rcases List.mem_append.1 hq with hq | hq
  ·exact h (iI ks) (by simp) q hq
  ·rw [List.mem_singleton] at hq
   subst hq
   exact h _ (List.mem_cons_self ..)
 ·simp only [iI,List.flatMap_append,List.mem_append,List.flatMap_cons,List.flatMap_nil,List.append_nil] at hb
  rcases hb with hb | hb
  ·exact ⟨iI ks,by simp,hb⟩
  ·exact ⟨_,List.mem_cons_self ..,hb⟩
variable {nn:Nat} {ops:Array Oper} {lo:List Oper} {Q:cY} {rest:List Oper} {ρ:dK} {ty t:TypeId} {pos:String} {after:Array Edge} {x y z u:Operand} {d:Nat} {ts:Array TypeId}
theorem zY (H:St w0 S l w) (i:Nat) (top:Bool) {wd ht:Nat} {px:List Nat} {st':RS} (I:xo sb so s w) (hne:sb≠rb) (hi:l[i]?=some (cy rb sb so c s st)) (hw1:1≤wd) (hw:wd≤16384) (hh1:1≤ht) (hh:ht≤16384) (hn:wd * ht≤1000000) (e:jH top wd ht st=(px,st'))
  (hd:Nat.blt d nn=true) (hx:ev ρ x=pT rb) (hy:ev ρ y=iT wd) (hz:ev ρ z=iT ht) (hu:ev ρ u=.bool top)
  (h:∀ w' a cap,St w0 S (aA a cap 36 1 px.length (nums .u32 px) :: l.set i (cy rb sb so c s st')) w'→VL Tryz.prog nn ops Q rest (eW ρ d (.slice a px.length cap)) w') :
  VL Tryz.prog nn ops Q (⟨some d,.call ⟨.value (.func 45),#[x,y,z,u],ts⟩,ty,pos,after,none⟩ :: rest) ρ w :=
 aS hd Gn (vt top (fun _ => vt false (fun h => nomatch h)) w rb sb so c wd ht s st (H.get hi) I hne hw1 hw hh1 hh hn) (by simp [hx,hy,hz,hu]) fun e' w' ⟨a,cap,he,hV,hfa,hP,hf⟩ => by
  rw [e] at he hV hP
  exact ⟨_,he,h w' a cap (H.growR (r':=cy rb sb so c s st') hi hf hP (eM _ _ _ _ _ _) O hV (cI _ _ _ _ _ _) hfa)⟩
end
theorem Jh (s:RS) (a b:Bool):(s.odd a).odd b=s.odd (a || b):=by simp [RS.odd,Bool.or_assoc]
theorem x_ {px:List Nat} {i:Nat} (h:i<px.length):fp (px.take (i+1))=(fp (px.take i) || decide (13<pG px[i])):=by
 unfold fp
 rw [List.take_succ_eq_append_getElem h,List.any_append]
 show (_ || (decide (13<px[i] / 256 % 256) || false))=_
 rw [Bool.or_false]
 rfl
theorem uZ (W:World) (rb sb so c:Nat) (s:List Nat) (st:RS) (hr:(cy rb sb so c s st).pred W) (I:xo sb so s W) (hne:sb≠rb) (hsm:(jF st).2.f=false→(jF st).1.1 * (jF st).1.2≤1000000) :
  Calls Tryz.prog 23 #[pT rb] W fun e w' => ∃ v1 v2 v3 v4 st',e=.returned (.tuple #[v1,v2,v3,v4,.bool (!(iu st).2.f)])∧(cy rb sb so c s st').pred w'∧st'.o=(iu st).2.o∧cf [rb] W w' ∧
   ((iu st).2.f=false→v1=iT ((iu st).1.1.1)∧v2=iT ((iu st).1.1.2)∧∃ a cap out,v3=.slice a out.length cap∧bT w' a cap 36 1 out.length (nums .u32 out)∧(∀ b ∈ bQ a,W.heap.size≤b)∧out.length=(iu st).1.1.1 * (iu st).1.1.2∧(∀ p ∈ out,p<2 ^ 32) ∧
    (lR (iu st).1.2.1→out=ge (iu st).1.1.2 (iu st).1.2.1 (iu st).1.2.2)):=by
 have H:St W [rb] [cy rb sb so c s st] W:=St.one hr (eM _ _ _ _ _ _) (by simp [cy])
 have hS:sb ∉ [rb]:=by simpa using hne
 obtain ⟨wd,ht,s1,eH⟩:∃ wd ht s1,jF st=((wd,ht),s1):=⟨_,_,_,rfl⟩
 have hH:=vC W rb sb so c s st hr I hne
 have hrng:=xu st
 rw [eH] at hH hsm hrng
 obtain ⟨⟨hw1,hw⟩,hh1,hh⟩:=hrng
 simp only at hw1 hw hh1 hh hsm hH
 have hshape:=DZ st
 refine enter (m:=171) Tryz.func23 O Tryz.ntmps23 O (Cy (az O (az O (bI O (az O (cU O (Lt (Cs (Cy (bH O (aS O FX hH O ?_)))))))))))
 rintro e w ⟨s0,he,hP,ho,hst,hf⟩
 replace H:=H.rdr 0 rfl hP hf
 simp only [List.set] at H
 refine ⟨_,he,?_⟩
 refine gr O (av O O (av O O (av O O (az O (az O (cU O (Lt ?_)))))))
 cases hf1:s1.f with
 | true =>
  have hD:=JL eH hf1
  refine Cy (dh O (Lp (fT (b:=false) O) (Lt ?_)))
  refine Cp O ?_
  refine Cy (az O (az O (bI O (az O (cU O (Lt (Ct (aE ?_))))))))
  rw [hD]
  exact mL O O O O O O ⟨_,_,_,_,s0,by rw [hf1];rfl,H.get (i:=0) rfl,ho,H.frm,fun h => Bool.noConfusion (hf1.symm.trans h)⟩
 | false =>
 obtain rfl:=hst hf1
 replace hsm:=hsm hf1
 refine Cy (dh O (Lp (fT (b:=true) O) (Lt (Cq O (Ck (tn (Cy (bI O (Lt (Cy (ai O (az O (Lt ?_)))))))))))))
 refine Cy (oU .i64 H O ?_)
 intro w mb hnm hbm H
 refine bI O (Lt ?_)
 replace H:St W [rb] [cy rb sb so c s s0,aA none 0 47 4 0 [],fx .i64 mb (gV []),iI []] w:=(H.img0.vec0 47 4).sub [3,0,2,1] rfl (by simp)
 refine Cs ?_
 refine aH (fun ρ w' => ∃ ks now a c2 st',mi ht 5 wd [] s0=((ks.map (·.1),now),st')∧ks.length≤5∧1≤now∧now≤wd∧ρ 0=pT rb∧ρ 2=iT wd∧ρ 3=iT ht∧ρ 4=.slice none 0 0∧ρ 7=.slice a ks.length c2∧ρ 8=iT now ∧
  St W [rb] [cy rb sb so c s st',aA a c2 47 4 ks.length (ks.flatMap xn),iI ks] w') ?_ ?_
 case refine_1 =>
  refine Cb ?_
  refine Cl (fun mm ρ w' => ∃ (ks:List Kt) (now:Nat) (a:Option Addr) (c2:Nat) (st':RS),mi ht 5 wd [] s0=mi ht mm now (ks.map (·.1)) st'∧mm+ks.length=5∧EM (ks.map (·.1))=ks.length∧1≤now∧now≤wd∧ρ 0=pT rb∧ρ 2=iT wd∧ρ 3=iT ht∧ρ 4=.slice none 0 0∧ρ 7=.slice a ks.length c2∧ρ 8=iT now∧ρ 9=.map (some mb) ∧
   St W [rb] [cy rb sb so c s st',aA a c2 47 4 ks.length (ks.flatMap xn),fx .i64 mb (gV ((ks.map (·.1)).map (·.kind))),iI ks] w') 5
   ⟨[],wd,none,0,s0,rfl,rfl,rfl,hw1,Nat.le_refl _,rfl,rfl,rfl,rfl,rfl,rfl,rfl,H⟩ ?_
  clear H
  rintro mm ρ w5 ⟨ks,now,a,c2,st',hE,hmk,hcnt,hn1,hnw,r0,r2,r3,r4,r7,r8,r9,H⟩
  have hb0:=Bool.toNat_le (cM (ks.map (·.1)) 0)
  have hb1:=Bool.toNat_le (cM (ks.map (·.1)) 1)
  have hb2:=Bool.toNat_le (cM (ks.map (·.1)) 2)
  have hb3:=Bool.toNat_le (cM (ks.map (·.1)) 3)
  have hc4:ks.length≤4:=by unfold EM at hcnt;omega
  clear hb0 hb1 hb2 hb3
  obtain ⟨kf,rfl⟩:∃ kf,mm=kf+1:=⟨mm - 1,ω⟩
  obtain ⟨u,q1,e1⟩:∃ u q1,Go.Proofs.YtmgemcffhbnpfaaGreatDoor.sb 1 st'=(u,q1):=⟨_,_,rfl⟩
  have hu2:u<2:=by have:=fG 1 st';rw [e1] at this;exact this
  by_cases hu0:u=0
  case pos =>
   rw [B1 e1 (.inl hu0)] at hE
   refine Cs (Cy (bH r0 (dC H 0 1 (I.keep H.frm hS) hne O ω O O O ?_)))
   intro w _ H
   rw [e1] at H ⊢
   simp only [List.set] at H
   refine Lp (bR (b:=false) O O (decide_eq_false ω)) (dh O (Lk (Lk (Lk (Lk (Lk (ay O O (Lt (Cq O (Cx (ax (ax (br (tn ?_))))))))))))))
   exact ⟨ks,now,a,c2,q1,hE,ω,hn1,hnw,r0,r2,r3,r4,r7,r8,H.sub [0,1,3] O (by simp)⟩
  cases hqf:q1.f with
  | true =>
   rw [B1 e1 (.inr hqf)] at hE
   refine Cs (Cy (bH r0 (dC H 0 1 (I.keep H.frm hS) hne O ω O O O ?_)))
   intro w _ H
   rw [e1] at H ⊢
   simp only [List.set] at H
   have hcf:=H.rdF 0 rfl
   rw [hqf] at hcf
   refine Lp (bR (b:=true) O O (decide_eq_true ω)) (dh O (Lg (YP r0) (Lg (iL O) (Lg (iQ dL O) (Lg (ef jz O hcf) (Lg (fT O) (ay O O (Lt (Cq O (Cx (ax (ax (br (tn ?_))))))))))))))
   exact ⟨ks,now,a,c2,q1,hE,ω,hn1,hnw,r0,r2,r3,r4,r7,r8,H.sub [0,1,3] O (by simp)⟩
  | false =>
  refine Cs (Cy (bH r0 (dC H 0 1 (I.keep H.frm hS) hne O ω O O O ?_)))
  intro w _ H
  rw [e1] at H ⊢
  simp only [List.set] at H
  have hcf:=H.rdF 0 rfl
  rw [hqf] at hcf
  refine Lp (bR (b:=true) O O (decide_eq_true ω)) (dh O (Lg (YP r0) (Lg (iL O) (Lg (iQ dL O) (Lg (ef jz O hcf) (Lg (fT O) (ay O O (Lt ?_))))))))
  refine Cp O ?_
  refine Ck (tn (Cb ?_))
  obtain ⟨kd,q2,e2⟩:∃ kd q2,Go.Proofs.YtmgemcffhbnpfaaGreatDoor.sb 2 q1=(kd,q2):=⟨_,_,rfl⟩
  have hkd:kd<4:=by have:=fG 2 q1;rw [e2] at this;exact this
  rw [EF e1 hu0 hqf e2] at hE
  have elook:=xh (ks.map (·.1)) kd
  refine Cy (bH r0 (dC H 0 2 (I.keep H.frm hS) hne O ω O O O ?_))
  intro w _ H
  rw [e2] at H ⊢
  simp only [List.set] at H
  refine ai r8 (Lp (iF (ps:=[(0,iT kd),(2,iT now)]) (gW kd 0 now (.slice none 0 0)) O κ) (cE H H8 O ?_))
  intro w b10 hn10 hb10 H
  refine dG (vs:=gW kd 0 now (.slice none 0 0)) H 0 GL O O O O O (by simp [gW,Value.oneCell']) ?_
  intro w H
  replace H:St W [rb] [cy rb sb so c s q2,aa b10 (gW kd 0 now (.slice none 0 0)) 47,aA a c2 47 4 ks.length (ks.flatMap xn),fx .i64 mb (gV ((ks.map (·.1)).map (·.kind))),iI ks] w:=H.sub [1,0,2,3,4] rfl (by simp)
  refine Lt ?_
  cases hki:cM (ks.map (·.1)) kd with
  | true =>
   rw [hki] at elook
   rw [hki,if_pos rfl] at hE
   have hD:=Hw (q:=(wd,ht)) eH hf1 hE rfl
   refine Cs (Cy (db r9 (aU gU O (aC a_ O (H.cell 1 (v:=iT kd) O O) (Lp (oK 3 H lw O O O elook) (Lt ?_))))))
   refine Cp O ?_
   refine Cy (az O (az O (bI O (az O (cU O (Lt (Ct (aE (bL (aE (bL (aE ?_))))))))))))
   rw [hD]
   exact mL O O O O O O ⟨_,_,_,_,q2,O,H.get (i:=0) rfl,O,H.frm,fun h => by cases h⟩
  | false =>
  rw [hki] at elook
  rw [hki,if_neg δ] at hE
  refine Cs (Cy (db r9 (aU gU O (aC a_ O (H.cell 1 (v:=iT kd) O O) (Lp (oK 3 H lw O O O elook) (Lt (Cq O (Ck (tn (Cy (db r9 (aU gU O (aC a_ O (H.cell 1 (v:=iT kd) O O) (kH (v:=.bool true) 3 H lw O O O O ?_))))))))))))))
  intro w H
  replace H:St W [rb] [cy rb sb so c s q2,aa b10 (gW kd 0 now (.slice none 0 0)) 47,aA a c2 47 4 ks.length (ks.flatMap xn),fx .i64 mb (gV ((ks.map (·.1)).map (·.kind)++[kd])),iI ks] w:=by rw [← uf];exact H
  refine Lt (Cs (Cy (aU gU O (aC a_ O (H.cell 1 (v:=iT kd) O O) (Lt ?_)))))
  refine aH (fun ρ w' => ∃ t nw ia ic st4,uT kd now ht q2=((t,nw),st4)∧t.kind=kd∧1≤nw∧nw≤now∧ρ 0=pT rb∧ρ 2=iT wd∧ρ 3=iT ht∧ρ 4=.slice none 0 0∧ρ 7=.slice a ks.length c2∧ρ 8=iT nw∧ρ 9=.map (some mb)∧ρ 10=pT b10 ∧
   St W [rb] [cy rb sb so c s st4,aa b10 (gW t.kind t.bits t.wd (.slice ia t.px.length ic)) 47,aA a c2 47 4 ks.length (ks.flatMap xn),fx .i64 mb (gV ((ks.map (·.1)).map (·.kind)++[kd])),iI ks,aA ia ic 36 1 t.px.length (nums .u32 t.px)] w') ?_ ?_
  case refine_2 =>
   clear H r0 r2 r3 r4 r7 r8 r9
   rintro ρ w6 ⟨t,nw,ia,ic,st4,hT,htk,hw4,hw5,r0,r2,r3,r4,r7,r8,r9,r10,H⟩
   rw [hT] at hE
   simp only at hE
   have hck:=EO (l:=ks.map (·.1)) (t:=t) (by rw [htk];exact hkd) (by rw [htk];exact hki)
   refine Cr (bU r7 (Lp (fH (cs:=gW t.kind t.bits t.wd (.slice ia t.px.length ic)) pf r10 O (fun j hj => by rw [Nat.zero_add];exact (H.blk (i:=1) O).cell j)) (cH H HG (gW t.kind t.bits t.wd (.slice ia t.px.length ic)) O O δ δ κ ?_)))
   intro w bs hns hbs H
   refine dH H 3 HG δ O O O O (news:=gW t.kind t.bits t.wd (.slice ia t.px.length ic)) O (fun j u hj => by rw [Nat.zero_add];exact H.cell 0 O hj) (by simp [gW,Value.oneCell']) (by simp only [maxLen];omega) ω ?_
   intro a' c' w hfa H
   simp only [List.set] at H
   refine gS O (Ln (aF (tn ?_)))
   refine ⟨kf,ω,ks++[(t,ia,ic)],nw,a',c',st4,?_,?_,?_,hw4,ω,r0,r2,r3,r4,?_,r8,r9,?_⟩
   ·rw [hE];simp
   ·simp;omega
   ·rw [List.map_append]
    simp only [List.map_cons,List.map_nil,List.length_append,List.length_singleton]
    omega
   ·rw [List.length_append,List.length_singleton];rfl
   ·rw [List.map_append,List.map_append,List.flatMap_append,List.length_append]
    simp only [List.map_cons,List.map_nil,htk,List.flatMap_cons,List.flatMap_nil,List.append_nil,List.length_singleton]
    have H2:St W [rb] [aA ia ic 36 1 t.px.length (nums .u32 t.px),iI ks,cy rb sb so c s st4,aA a' c' 47 4 (ks.length+1) (ks.flatMap xn++gW t.kind t.bits t.wd (.slice ia t.px.length ic)),fx .i64 mb (gV ((ks.map (·.1)).map (·.kind)++[kd]))] w:=H.sub [6,5,1,3,4] rfl (by simp)
    exact H2.imgAdd.sub [1,2,3,0] O (by simp)
  case refine_1 =>
  refine Cb (Cs (Cy (Lp (bR (b:=decide (kd=0)) O O (decide_eq_decide.2 ω)) (cU O (Lt ?_)))))
  refine aH (fun ρ w' => ρ 0=pT rb∧ρ 2=iT wd∧ρ 3=iT ht∧ρ 4=.slice none 0 0∧ρ 7=.slice a ks.length c2∧ρ 8=iT now∧ρ 9=.map (some mb)∧ρ 10=pT b10∧ρ 48=iT kd∧ρ 49=.bool (decide (kd≤1))∧w'=w) ?_ ?_
  case refine_1 =>
   by_cases h0:kd=0
   case pos =>
    refine CT O ω (Ck (tn ?_))
    exact ⟨r0,r2,r3,r4,r7,r8,r9,O,O,congrArg Value.bool (decide_eq_decide.2 ω),O⟩
   case neg =>
    refine CF O ω (Cr (Lp (bR (b:=decide (kd=1)) O O (decide_eq_decide.2 ω)) (cU O (Lt ?_))))
    exact ⟨r0,r2,r3,r4,r7,r8,r9,O,O,congrArg Value.bool (decide_eq_decide.2 ω),O⟩
  case refine_2 =>
  clear r0 r2 r3 r4 r7 r8 r9
  rintro ρ w6 ⟨r0,r2,r3,r4,r7,r8,r9,r10,r48,r49,rfl⟩
  have hmulw:=Nat.mul_le_mul_right ht hnw
  by_cases hk1:kd≤1
  case pos =>
   refine CT r49 hk1 ?_
   obtain ⟨b,q3,e3⟩:∃ b q3,Go.Proofs.YtmgemcffhbnpfaaGreatDoor.sb 3 q2=(b,q3):=⟨_,_,rfl⟩
   have hb8:b<8:=by have:=fG 3 q2;rw [e3] at this;exact this
   have htw:=cu (b:=b+2) hn1
   have hth:=cu (b:=b+2) hh1
   have hmul:=Nat.mul_le_mul htw.2 hth.2
   obtain ⟨px,q4,e4⟩:∃ px q4,jH false (aq now (b+2)) (aq ht (b+2)) q3=(px,q4):=⟨_,_,rfl⟩
   have hcols:=xq false (aq now (b+2)) (aq ht (b+2)) q3
   rw [e4] at hcols
   obtain ⟨hcl,hc32⟩:=hcols
   simp only at hcl hc32
   have hT:=FO hk1 e3 e4
   refine Cy (bH r0 (dC H 0 3 (I.keep H.frm hS) hne O ω O O O ?_))
   intro w _ H
   rw [e3] at H ⊢
   simp only [List.set] at H
   refine ao (r:=((b+2:Nat):Int)) O O (ck (b:=2) ω) (aU eV r10 (bC H 1 k_ O O O O ?_))
   intro w H
   simp only [List.set,gW] at H
   refine Lt (Cs (ar 9 aJ κ ?_))
   intro w hsame
   replace H:=H.same hsame
   refine mY r0 (bW r8 (dD eV r10 (aD a_ O (H.cell 1 (v:=iT (b+2)) O O) (bJ O ke (eN _ now (b+2) ω ω) O (bW r3 (dD eV r10 (aD a_ O (H.cell 1 (v:=iT (b+2)) O O) (bJ O ke (eN _ ht (b+2) ω ω) O (Sn (zY H 0 false (I.keep H.frm hS) hne O htw.1 ω hth.1 ω ω e4 O O O O O ?_))))))))))
   intro w ia ic H
   refine aU iP r10 (kB H 2 vp O O O O ?_)
   intro w H
   simp only [List.set] at H
   replace H:St W [rb] [cy rb sb so c s q4,aa b10 (gW kd (b+2) now (.slice ia px.length ic)) 47,aA a c2 47 4 ks.length (ks.flatMap xn),fx .i64 mb (gV ((ks.map (·.1)).map (·.kind)++[kd])),iI ks,aA ia ic 36 1 px.length (nums .u32 px)] w:=H.sub [1,2,3,4,5,0] rfl (by simp)
   refine Lt (Cy (aU iP r10 (aC gw O (H.cell 1 (off:=3) (v:=.slice ia px.length ic) O O) (bG aZ O (ai O (Lt (Cb ?_)))))))
   refine Cl (fun mm ρ w' => ∃ i,i≤px.length∧mm=px.length - i∧ρ 0=pT rb∧ρ 2=iT wd∧ρ 3=iT ht∧ρ 4=.slice none 0 0∧ρ 7=.slice a ks.length c2∧ρ 8=iT now∧ρ 9=.map (some mb)∧ρ 10=pT b10∧ρ 68=.slice ia px.length ic∧ρ 69=iT px.length∧ρ 70=iT i ∧
    St W [rb] [cy rb sb so c s (q4.odd (decide (kd=0) && fp (px.take i))),aa b10 (gW kd (b+2) now (.slice ia px.length ic)) 47,aA a c2 47 4 ks.length (ks.flatMap xn),fx .i64 mb (gV ((ks.map (·.1)).map (·.kind)++[kd])),iI ks,aA ia ic 36 1 px.length (nums .u32 px)] w') px.length
    ⟨0,Nat.zero_le _,rfl,r0,r2,r3,r4,r7,r8,r9,r10,rfl,rfl,rfl,by
     have e:q4.odd (decide (kd=0) && fp (px.take 0))=q4:=by simp [RS.odd,fp]
     rw [e];exact H⟩ ?_
   clear H r0 r2 r3 r4 r7 r8 r9 r10 r48 r49
   rintro mm ρ w7 ⟨i,hi,hmm,r0,r2,r3,r4,r7,r8,r9,r10,r68,r69,r70,H⟩
   refine Cy (bP r70 r69 (Lt ?_))
   by_cases hy:i=px.length
   case pos =>
    subst hy
    refine Cs (CF O ω (Cx (ax (ax (br (aF (tn ?_)))))))
    rw [List.take_length] at H
    exact ⟨⟨kd,now,b+2,px⟩,now,ia,ic,_,hT,O,hn1,Nat.le_refl _,r0,r2,r3,r4,r7,r8,r9,r10,H⟩
   have hlt:i<px.length:=ω
   obtain ⟨g,rfl,_⟩:=(H.get (i:=5) rfl:bT _ _ _ _ _ _ _).cell ω
   have hp32:px[i]<2 ^ 32:=hc32 _ (List.getElem_mem hlt)
   have hcell:(nums .u32 px)[i]?=some (.int .u32 (px[i]:Nat)):=by simp [nums,hlt]
   have hstep:q4.odd (decide (kd=0) && fp (px.take (i+1)))=(q4.odd (decide (kd=0) && fp (px.take i))).odd (decide (kd=0) && decide (13<pG px[i])):=by rw [Jh,x_ hlt,Bool.and_or_distrib_left]
   obtain ⟨s5,hs5⟩:∃ s5,s5=q4.odd (decide (kd=0) && fp (px.take i)):=⟨_,rfl⟩
   rw [← hs5] at H hstep
   refine Cs (CT O ω (Ck (tn (Cs (Cb (Cy (Lp (bO i aZ r68 r70 O hlt) (aC bD O (bT.cellS (H.get (i:=5) O) hcell) (az O (Lt ?_))))))))))
   have hco:=H.rdO 0 rfl
   refine iC (fun ρ w' => ρ 0=pT rb∧ρ 2=iT wd∧ρ 3=iT ht∧ρ 4=.slice none 0 0∧ρ 7=.slice a ks.length c2∧ρ 8=iT now∧ρ 9=.map (some mb)∧ρ 10=pT b10∧ρ 68=.slice (aT g) px.length ic∧ρ 69=iT px.length∧ρ 70=iT i ∧
    St W [rb] [cy rb sb so c s (q4.odd (decide (kd=0) && fp (px.take (i+1)))),aa b10 (gW kd (b+2) now (.slice (aT g) px.length ic)) 47,aA a c2 47 4 ks.length (ks.flatMap xn),fx .i64 mb (gV ((ks.map (·.1)).map (·.kind)++[kd])),iI ks,aA (aT g) ic 36 1 px.length (nums .u32 px)] w') ?_ ?_
   case refine_2 =>
    clear H r0 r2 r3 r4 r7 r8 r9 r10 r68 r69 r70
    rintro ρ w8 ⟨r0,r2,r3,r4,r7,r8,r9,r10,r68,r69,r70,H⟩
    refine Cr (ao (r:=((i+1:Nat):Int)) r70 O (ck (b:=1) ω) (ai O (Lt ?_)))
    exact ⟨px.length - (i+1),ω,i+1,hlt,O,r0,r2,r3,r4,r7,r8,r9,r10,r68,r69,O,H⟩
   case refine_1 =>
   rw [hstep]
   cases ho:s5.o with
   | true =>
    rw [ho] at hco
    refine Cr (bH r0 (bH r0 (aK O (aU gC O (aC jz O hco (dh O (Lk (Lk (Lk (Lk (jU O O O O (jU O O O O (jU O O O O (Lk (ay O O (aK O (aU gC O (kw H 0 lU O O O ?_))))))))))))))))))
    intro w H
    simp only [List.set] at H
    refine Ln (aF (tn ?_))
    exact ⟨r0,r2,r3,r4,r7,r8,r9,r10,r68,r69,r70,by
     have e:s5.odd (decide (kd=0) && decide (13<pG px[i]))=⟨s5.R,s5.f,true⟩:=by simp [RS.odd,ho]
     rw [e];exact H⟩
   | false =>
   rw [ho] at hco
   by_cases h0:kd=0
   case neg =>
    refine Cr (bH r0 (bH r0 (aK O (aU gC O (aC jz O hco (dh O (Lg (iQ gU r10) (Lg (ef a_ O (H.cell 1 (v:=iT kd) O O)) (Lg (bR (b:=false) O O (decide_eq_false ω)) (Lg (eA O) (Lk (Lk (Lk (Lg (dQ O O) (ay O O (aK O (aU gC O (kw H 0 lU O O O ?_))))))))))))))))))
    intro w H
    simp only [List.set] at H
    refine Ln (aF (tn ?_))
    exact ⟨r0,r2,r3,r4,r7,r8,r9,r10,r68,r69,r70,by
     have e:s5.odd (decide (kd=0) && decide (13<pG px[i]))=⟨s5.R,s5.f,false⟩:=by simp [RS.odd,ho,h0]
     rw [e];exact H⟩
   have hp8:aI px[i] 8=pG px[i]:=rfl
   refine Cr (bH r0 (bH r0 (aK O (aU gC O (aC jz O hco (dh O (Lg (iQ gU r10) (Lg (ef a_ O (H.cell 1 (v:=iT kd) O O)) (Lg (bR (b:=true) O O (decide_eq_true ω)) (Lg (eA O) (Lg (YI O) ?_)))))))))))
   refine kV O O O O wU (qH _ px[i] 8 hp32 δ) O fun e w' ⟨he,hw'⟩ => ⟨_,he,?_⟩
   subst hw'
   refine Lg (bE (b:=decide (13<pG px[i])) O O (decide_eq_decide.2 (by rw [hp8];omega))) (Lg (dQ O O) (ay O O (aK O (aU gC O (kw H 0 lU O O O ?_)))))
   intro w H
   simp only [List.set] at H
   refine Ln (aF (tn ?_))
   exact ⟨r0,r2,r3,r4,r7,r8,r9,r10,r68,r69,r70,by
    have e:s5.odd (decide (kd=0) && decide (13<pG px[i]))=⟨s5.R,s5.f,decide (13<pG px[i])⟩:=by simp [RS.odd,ho,h0]
    rw [e];exact H⟩
  case neg =>
  refine CF r49 hk1 (Cy (Lp (bR (b:=decide (kd=3)) r48 O (decide_eq_decide.2 ω)) (cU O (Lt ?_))))
  by_cases hk3:kd=3
  case neg =>
   obtain rfl:kd=2:=ω
   refine CF O ω (Ck (aF (tn ?_)))
   exact ⟨⟨2,now,0,[]⟩,now,none,0,q2,O,O,hn1,Nat.le_refl _,r0,r2,r3,r4,r7,r8,r9,r10,(H.vec0 36 1).sub [1,2,3,4,5,0] O (by simp)⟩
  subst hk3
  obtain ⟨b,q3,e3⟩:∃ b q3,Go.Proofs.YtmgemcffhbnpfaaGreatDoor.sb 8 q2=(b,q3):=⟨_,_,rfl⟩
  have hb8:b<256:=by have:=fG 8 q2;rw [e3] at this;exact this
  obtain ⟨px,q4,e4⟩:∃ px q4,jH false (b+1) 1 q3=(px,q4):=⟨_,_,rfl⟩
  have hcols:=xq false (b+1) 1 q3
  rw [e4] at hcols
  have hsums:=zj hcols
  obtain ⟨hcl,hc32⟩:=hcols
  simp only at hcl hc32 hsums
  have hT:=Ff (w:=now) (h:=ht) e3 e4
  have hsh:=nJ (b+1)
  have htw:=cu (b:=b0 (b+1)) hn1
  refine CT O ω (Cy (bH r0 (dC H 0 8 (I.keep H.frm hS) hne O ω O O O ?_)))
  intro w _ H
  rw [e3] at H ⊢
  simp only [List.set] at H
  refine ao (r:=((b+1:Nat):Int)) O O (ck (b:=1) ω) (az O (Lt (Cy (ai O (bZ O Hv (vg _ (b+1) ω) O (aU eV r10 (bC H 1 k_ O O O O ?_)))))))
  intro w H
  simp only [List.set,gW] at H
  refine Lt (Cy (bH r0 (ai O (zY H 0 false (I.keep H.frm hS) hne O ω ω ω ω ω e4 O O O O O ?_))))
  intro w ia ic H
  refine aU iP r10 (kB H 2 vp O O O O ?_)
  intro w H
  simp only [List.set] at H
  replace H:St W [rb] [cy rb sb so c s q4,aa b10 (gW 3 (b0 (b+1)) now (.slice ia px.length ic)) 47,aA a c2 47 4 ks.length (ks.flatMap xn),fx .i64 mb (gV ((ks.map (·.1)).map (·.kind)++[3])),iI ks,aA ia ic 36 1 px.length (nums .u32 px)] w:=H.sub [1,2,3,4,5,0] rfl (by simp)
  refine Lt (Cs (Cy (az O (Lt ?_))))
  have hmix1:nu jL px 1=px:=by
   cases px with
   | nil => rfl
   | cons p r => exact Ex (fun p => rfl) (by simp)
  refine aH (fun ρ w' => ρ 0=pT rb∧ρ 2=iT wd∧ρ 3=iT ht∧ρ 4=.slice none 0 0∧ρ 7=.slice a ks.length c2∧ρ 8=iT now∧ρ 9=.map (some mb)∧ρ 10=pT b10 ∧
   St W [rb] [cy rb sb so c s q4,aa b10 (gW 3 (b0 (b+1)) now (.slice ia px.length ic)) 47,aA a c2 47 4 ks.length (ks.flatMap xn),fx .i64 mb (gV ((ks.map (·.1)).map (·.kind)++[3])),iI ks,aA ia ic 36 1 px.length (nums .u32 (mN px))] w') ?_ ?_
  case refine_2 =>
   clear H r0 r2 r3 r4 r7 r8 r9 r10
   rintro ρ w8 ⟨r0,r2,r3,r4,r7,r8,r9,r10,H⟩
   refine Cr (ai r8 (aU eV r10 (aC a_ O (H.cell 1 (v:=iT (b0 (b+1))) O O) (bZ O ke (eN _ now (b0 (b+1)) ω ω) O (az O (Ln (aF (tn ?_))))))))
   rw [← hsums.2] at H
   exact ⟨⟨3,now,b0 (b+1),mN px⟩,_,ia,ic,q4,hT,O,htw.1,htw.2,r0,r2,r3,r4,r7,O,r9,r10,H⟩
  case refine_1 =>
  refine Cb ?_
  refine Cl (fun mm ρ w' => ∃ i,1≤i∧(i=1∨i≤px.length)∧mm=px.length - i∧ρ 0=pT rb∧ρ 2=iT wd∧ρ 3=iT ht∧ρ 4=.slice none 0 0∧ρ 7=.slice a ks.length c2∧ρ 8=iT now∧ρ 9=.map (some mb)∧ρ 10=pT b10∧ρ 14=iT i ∧
   St W [rb] [cy rb sb so c s q4,aa b10 (gW 3 (b0 (b+1)) now (.slice ia px.length ic)) 47,aA a c2 47 4 ks.length (ks.flatMap xn),fx .i64 mb (gV ((ks.map (·.1)).map (·.kind)++[3])),iI ks,aA ia ic 36 1 px.length (nums .u32 (nu jL px i))] w') (px.length - 1)
   ⟨1,ω,.inl rfl,rfl,r0,r2,r3,r4,r7,r8,r9,r10,rfl,by rw [hmix1];exact H⟩ ?_
  clear H r0 r2 r3 r4 r7 r8 r9 r10 r48 r49
  rintro mm ρ w7 ⟨i,hi1,hi,hmm,r0,r2,r3,r4,r7,r8,r9,r10,r14,H⟩
  refine Cs (Cy (ai r14 (aU iP r10 (aC gw O (H.cell 1 (off:=3) (v:=.slice ia px.length ic) O O) (bG aZ O (bP O O (Lt ?_)))))))
  by_cases hlt:i<px.length
  case neg =>
   refine CF O ω (Cx (ax (ax (br (tn ?_)))))
   rw [Iw ω,← vU] at H
   exact ⟨r0,r2,r3,r4,r7,r8,r9,r10,H⟩
  obtain ⟨g,rfl,_⟩:=(H.get (i:=5) rfl:bT _ _ _ _ _ _ _).cell ω
  have hml:=jj (f:=jL) (l:=px) (i:=i) ω
  have hm32:∀ j,(nu jL px i).getD j 0<2 ^ 32:=ft (fun p hp => by
   rcases List.mem_append.1 (show p ∈ gN jL px i++px.drop i from hp) with hp | hp
   ·refine oD (f:=jL) (P:=fun p => p<2 ^ 32) (fun acc p hp => ?_) (px.take i) [] (fun p hp => hc32 p (List.mem_of_mem_take hp)) (by simp) p hp
    unfold jL
    split
    ·exact hp
    ·exact xV _ _
   ·exact hc32 p (List.mem_of_mem_drop hp))
  have hset:(nu jL px i).set i (da ((nu jL px i).getD i 0) ((nu jL px i).getD (i - 1) 0))=nu jL px (i+1):=by
   rw [← jP hlt,pN ω (Nat.le_refl i),qJ ω ω]
   congr 1
   unfold jL
   rw [eu ω,if_neg ω]
  have hv5:bT w7 (aT g) ic 36 1 px.length (nums .u32 (nu jL px i)):=H.get (i:=5) rfl
  have hx1:w7.cell? ⟨g,i,none⟩=some (.int .u32 ((nu jL px i).getD i 0:Nat)):=hv5.cellS (de ω)
  have hx2:w7.cell? ⟨g,i - 1,none⟩=some (.int .u32 ((nu jL px i).getD (i - 1) 0:Nat)):=hv5.cellS (de ω)
  clear hv5
  refine CT O ω (Ck (tn (Cs (Cb (ar 15 aJ κ ?_)))))
  intro w hsame
  replace H:=H.same hsame
  have hy1:=hsame.frm.cell hx1 List.not_mem_nil
  have hy2:=hsame.frm.cell hx2 List.not_mem_nil
  refine dD iP r10 (aD gw O (H.cell 1 (off:=3) (v:=.slice (aT g) px.length ic) O O) (bW r14 (dD iP r10 (aD gw O (H.cell 1 (off:=3) (v:=.slice (aT g) px.length ic) O O) (bW r14 (Sp (bO i aZ O O O hlt) (aD bD O hy1 (dD iP r10 (aD gw O (H.cell 1 (off:=3) (v:=.slice (aT g) px.length ic) O O) (bW r14 (cx (r:=((i - 1:Nat):Int)) O O (iw (b:=1) ω) (Sp (bO (i - 1) aZ O O O ω) (aD bD O hy2 (bJ O HN (y6 _ _ _ (hm32 i) (hm32 (i - 1))) O (Sn (Lp (bO i aZ O O O hlt) (sU (v:=.int .u32 ((da ((nu jL px i).getD i 0) ((nu jL px i).getD (i - 1) 0):Nat):Int)) H 5 dY O O O O hlt ?_)))))))))))))))))
  intro w H
  simp only [List.set] at H
  rw [jR,hset] at H
  refine Ln (aF (tn (Cr (ai r14 (ao (r:=((i+1:Nat):Int)) O O (ck (b:=1) ω) (az O (Lt ?_)))))))
  exact ⟨px.length - (i+1),ω,i+1,ω,.inr ω,O,r0,r2,r3,r4,r7,r8,r9,r10,O,H⟩
 case refine_2 =>
 clear H
 rintro ρ w5 ⟨ks,now,a,c2,st',hE,hkl,hn1,hnw,r0,r2,r3,r4,r7,r8,H⟩
 have hmulw:=Nat.mul_le_mul_right ht hnw
 cases hf2:st'.f with
 | true =>
  have hD:=Hw (q:=(wd,ht)) eH hf1 hE hf2
  have hcf:=H.rdF 0 rfl
  rw [hf2] at hcf
  refine Cs (Cy (bH r0 (aK O (aU dL O (aC jz O hcf (Lp (fT O) (Lt (Cq O (Ck (tn (Cs (Cy (bH r0 (aK O (aU dL O (aC jz O hcf (Lt ?_)))))))))))))))))
  refine Cp O ?_
  refine Cy (az O (az O (bI O (az O (cU O (Lt (Ct (aE ?_))))))))
  rw [hD]
  exact mL O O O O O O ⟨_,_,_,_,st',by simp only [hf2];rfl,H.get (i:=0) rfl,O,H.frm,fun h => Bool.noConfusion (hf2.symm.trans h)⟩
 | false =>
 have hcf:=H.rdF 0 rfl
 rw [hf2] at hcf
 obtain ⟨px,st3,e5⟩:∃ px st3,jH true now ht st'=(px,st3):=⟨_,_,rfl⟩
 have hD:=J1 (q:=(wd,ht)) eH hf1 hE hf2 e5
 refine Cs (Cy (bH r0 (aK O (aU dL O (aC jz O hcf (Lp (fT O) (Lt ?_)))))))
 refine Cp O ?_
 refine Cr (bH r0 (ai r8 (ai η (zY H 0 true (I.keep H.frm hS) hne O hn1 ω hh1 hh ω e5 O O O O O ?_))))
 intro w pa pc H
 simp only [List.set] at H
 refine gS O (Lt ?_)
 clear hcf
 have hcf:=H.rdF 1 rfl
 cases hf3:st3.f with
 | true =>
  rw [hf3] at hcf
  refine Cs (Cy (bH r0 (aK O (aU dL O (aC jz O hcf (Lt ?_))))))
  refine Cp O ?_
  refine Cy (az O (az O (bI O (az O (cU O (Lt (Ct (aE ?_))))))))
  rw [hD]
  exact mL O O O O O O ⟨_,_,_,_,st3,by simp only [hf3];rfl,H.get (i:=1) rfl,O,H.frm,fun h => Bool.noConfusion (hf3.symm.trans h)⟩
 | false =>
 rw [hf3] at hcf
 have hok:=hshape (by rw [hD];exact hf3)
 rw [hD] at hok
 obtain ⟨nw0,hch,htrs,hpl⟩:=hok.trs
 have hp32:=hok.px
 simp only at hch htrs hpl hp32
 rw [hD]
 clear hshape hok
 refine Cs (Cy (bH r0 (aK O (aU dL O (aC jz O hcf (Lt (Cq O (Ck (tn (Cs (Cy (bU r7 (bG Gx O (bw (r:=((ks.length:Nat):Int) - 1) O O (fg ω) (az O (Lt ?_))))))))))))))))
 refine aH (fun ρ w' => ∃ a2 c3 out,ρ 0=pT rb∧ρ 2=iT wd∧ρ 3=iT ht∧ρ 4=.slice a2 out.length c3∧out.length=wd * ht∧(∀ p ∈ out,p<2 ^ 32)∧(lR (ks.map (·.1))→out=ge ht (ks.map (·.1)) px) ∧
  St W [rb] [aA a2 c3 36 1 out.length (nums .u32 out),cy rb sb so c s st3] w') ?_ ?_
 case refine_1 =>
  refine Cb ?_
  refine Cl (fun n ρ w' => ∃ cur a2 c3 nw,n≤ks.length∧jJ wd ((ks.take n).map (·.1)) nw∧cur.length=nw * ht∧(∀ p ∈ cur,p<2 ^ 32)∧(lR (ks.map (·.1))→ge ht ((ks.take n).map (·.1)) cur=ge ht (ks.map (·.1)) px)∧ρ 0=pT rb∧ρ 2=iT wd∧ρ 3=iT ht∧ρ 4=.slice a2 cur.length c3∧ρ 7=.slice a ks.length c2∧ρ 15=.int .i64 ((n:Nat) - 1:Int) ∧
   St W [rb] [aA a2 c3 36 1 cur.length (nums .u32 cur),cy rb sb so c s st3,aA a c2 47 4 ks.length (ks.flatMap xn),iI ks] w') ks.length
   ⟨px,pa,pc,nw0,Nat.le_refl _,by rw [List.take_length];exact hch,hpl,hp32,fun _ => by rw [List.take_length],r0,r2,r3,rfl,r7,rfl,H⟩ ?_
  clear H r0 r2 r3 r4 r7 r8
  rintro n ρ w7 ⟨cur,a2,c3,nw,hn,hc,hcl,hc32,hun,r0,r2,r3,r4,r7,r15,H⟩
  cases n with
  | zero =>
   refine Cs (Cy (ai r15 (Lp (jC (b:=false) O O (decide_eq_false ω)) (Lt (Cq O (Cx (ax (ax (br (tn ?_))))))))))
   obtain rfl:wd=nw:=hc
   exact ⟨a2,c3,cur,r0,r2,r3,r4,hcl,hc32,fun h => hun h,H.sub [0,1] O (by simp)⟩
  | succ m =>
  have hm:m<ks.length:=hn
  obtain ⟨⟨t,ia,ic⟩,hq⟩:∃ q,q=ks[m]:=⟨_,rfl⟩
  have hqm:(t,ia,ic) ∈ ks:=by rw [hq];exact List.getElem_mem hm
  have hks:ks[m]?=some (t,ia,ic):=by rw [hq];exact List.getElem?_eq_getElem hm
  have etk:(ks.take (m+1)).map (·.1)=(ks.take m).map (·.1)++[t]:=by
   rw [List.take_succ_eq_append_getElem hm,← hq,List.map_append]
   rfl
  rw [etk] at hc hun
  obtain ⟨hc1,rfl⟩:=hc.unsnoc
  have htok:=htrs t (List.mem_map.2 ⟨_,hqm,rfl⟩)
  have htw:t.wd≤wd:=jJ.le hc1 fun x hx => by
   obtain ⟨y,hy,rfl⟩:=List.mem_map.1 hx
   exact (htrs y.1 (List.mem_map.2 ⟨y,List.mem_of_mem_take hy,O⟩)).ok.wd.1
  have htm:=Nat.mul_le_mul_right ht htw
  have hnw1:=wO htok.ok.wd
  have hlen:0<cur.length:=by rw [hcl];exact Nat.mul_pos hnw1.1 hh1
  obtain ⟨g,rfl,_⟩:=(H.get (i:=0) rfl:bT _ _ _ _ _ _ _).cell hlen
  have hvk:bT w7 ia ic 36 1 t.px.length (nums .u32 t.px):=(show (iI ks).pred w7 from H.get (i:=3) rfl) _ hqm
  have hpos:t.kind≠2→0<t.px.length:=fun h2 => by
   by_cases h3:t.kind=3
   ·exact (htok.index h3).2
   ·have hk:=htok.ok.kind
    rw [(htok.ok.tile ω).2.2]
    exact Nat.mul_pos (cu htok.ok.wd.1).1 (cu hh1).1
  have hvl:bT w7 a c2 47 4 ks.length (ks.flatMap xn):=H.get (i:=2) rfl
  obtain ⟨gl,rfl,hgl⟩:=hvl.cell ω
  have hund:=EE w7 t ht g 0 c3 cur (.slice ia t.px.length ic) htok.ok.kind htok.ok.wd.1 htok.ok.wd.2 hh1 hh (fun h => (htok.ok.tile h).2.1) (fun h => (htok.ok.index h).1) (lH (H.get (i:=0) rfl)) hc32 hcl ω (fun h2 => by
   obtain ⟨ib,rfl,_⟩:=hvk.cell (hpos h2)
   exact ⟨ib,ic,O,lH hvk⟩) (fun h => (htok.ok.tile h).2.2) htok.ok.px
  have hcs:∀ j,j<4→w7.cell? ⟨gl,0+m * 4+j,none⟩=(xn (t,ia,ic))[j]?:=fun j hj => by
   rw [show 0+m * 4+j=4 * m+j by omega]
   have h1:=D1 ks m _ j hks hj
   rw [← h1]
   have h2:4 * m+j<(ks.flatMap xn).length:=by rw [hvl.len];omega
   rw [List.getElem?_eq_getElem h2]
   exact hgl _ _ (List.getElem?_eq_getElem h2)
  refine Cs (Cy (ai r15 (Lp (jC (b:=true) O O (decide_eq_true ω)) (Lt ?_))))
  refine Cp O ?_
  refine Ck (tn (Cs (Cb (Cr (bU r7 (ai r15 (Lp (gm m Gx O O ω hm) (Lp (fH (cs:=xn (t,ia,ic)) pf O O hcs) (bU r4 (ai r3 (aS O JW hund O ?_)))))))))))
  rintro e w ⟨a4,c4,out,he,hV,hfa,hf,hol,ho32,hou⟩
  replace H:=H.add (r:=aA a4 c4 36 1 out.length (nums .u32 out)) hf hV (cI _ _ _ _ _ _) hfa
  refine ⟨_,he,?_⟩
  refine gS O (Ln (aF (tn (Cr (ai r15 (bw (r:=((m:Nat):Int) - 1) O O (by rw [fg ω];omega) (az O (Lt ?_))))))))
  exact ⟨m,ω,out,a4,c4,t.wd,ω,hc1,hol,ho32,fun h => by
   rw [← hun h,ti,hou (h t (List.mem_map.2 ⟨_,hqm,rfl⟩))],r0,r2,r3,rfl,r7,rfl,H.sub [0,2,3,4] rfl (by simp)⟩
 case refine_2 =>
 clear H r0 r2 r3 r4 r7 r8
 rintro ρ w8 ⟨a2,c3,out,r0,r2,r3,r4,hol,ho32,hou,H⟩
 obtain ⟨k,hk1,hk2,hkb⟩:=(show (cy rb sb so c s st3).pred w8 from H.get (i:=1) rfl)
 have hI:=I.len
 refine Cs (Cd aJ κ ?_)
 intro w hsame
 replace H:=H.same hsame
 refine bW r2 (bW r3 (cF r4 (mY r0 (du O (dD oT O (aD (v:=iT k) a_ O (hsame.frm.cell (hkb.cellv (i:=1) O) List.not_mem_nil) (aG (r:=((k+7:Nat):Int)) O O (ck (b:=7) ω) (Sp (ki (r:=(((k+7) / 8:Nat):Int)) O O ω (Dt (b:=8) ω)) (oZ O (oZ O (MI O (oZ O (ME O (Sn (tn (Ct ?_))))))))))))))))
 refine mL O O O O O O ⟨_,_,_,_,st3,by simp only [hf3];rfl,H.get (i:=1) rfl,O,H.frm,fun _ => ⟨O,O,a2,c3,out,O,H.get (i:=0) rfl,fun b hb => ?_,hol,ho32,hou⟩⟩
 rcases H.own _ (List.mem_cons_self ..) b hb with h | h
 ·have:=H.ne (i:=0) (j:=1) δ rfl rfl hb (show b ∈ (cy rb sb so c s st3).foot by simpa [cy] using h)
  exact absurd O this
 ·exact h
end Go.Proofs.YtmgemcffhbnpfaaGreatDoor
