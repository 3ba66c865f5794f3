/-
  A picture is written and read: part 9 of 13 (Pixels, PredS, PredT, PredU, Colors).
-/
import Derived.Test.YtmgemcffhbnpfaaGreatDoorA08
set_option linter.unusedVariables false
set_option linter.unusedSimpArgs false
set_option maxRecDepth 100000
set_option maxHeartbeats 4000000
namespace Go.Proofs.YtmgemcffhbnpfaaGreatDoor
open Go
theorem AQ {P:Program} {e:Operand→Value} {d:Option Tmp} {ty:TypeId} {pos:String} {after:Array Edge} {g:Option (Nat × Bool)} {w:World} {fn:Fn} {first captured:Array Operand} {fs cs:List Value} (h1:first.toList.map e=fs) (h2:captured.toList.map e=cs) :
  dE P e ⟨d,.makeFunc fn first captured,ty,pos,after,g⟩ w (.func fn fs.toArray cs.toArray) w:=by
 have e1:first.map e=fs.toArray:=by apply Array.ext';rw [Array.toList_map,h1]
 have e2:captured.map e=cs.toArray:=by apply Array.ext';rw [Array.toList_map,h2]
 unfold dE
 simp only [execOp,Instr.makeFunc,Sem.run_bind,Sem.run_pure,Result.andThen_ok,e1,e2]
theorem Kb {P:Program} {e:Operand→Value} {d:Option Tmp} {ty:TypeId} {pos:String} {after:Array Edge} {g:Option (Nat × Bool)} {w:World} {fn:Fn} {a b c x:Operand} {va vb vc vx:Value} (h1:e a=va) (h2:e b=vb) (h3:e c=vc) (h4:e x=vx) :
  dE P e ⟨d,.makeFunc fn #[] #[a,b,c,x],ty,pos,after,g⟩ w (.func fn ([]:List Value).toArray [va,vb,vc,vx].toArray) w:=AQ rfl (by simp [h1,h2,h3,h4])
theorem Ka {P:Program} {e:Operand→Value} {d:Option Tmp} {ty:TypeId} {pos:String} {after:Array Edge} {g:Option (Nat × Bool)} {w:World} {fn:Fn} {a b c x y:Operand} {va vb vc vx vy:Value} (h1:e a=va) (h2:e b=vb) (h3:e c=vc) (h4:e x=vx) (h5:e y=vy) :
  dE P e ⟨d,.makeFunc fn #[] #[a,b,c,x,y],ty,pos,after,g⟩ w (.func fn ([]:List Value).toArray [va,vb,vc,vx,vy].toArray) w:=AQ rfl (by simp [h1,h2,h3,h4,h5])
def Bk (main:Bool):Nat:=if main then 4611686018420000000 else 4611686018421000000
def A8 (main:Bool):Nat:=if main then 1099500000000 else 1099505000000
def DN (main:Bool):Nat:=if main then 3000000 else 700000
def E3 (main:Bool):Nat:=if main then 600000 else 100000
def sS (main:Bool):Prop:=∀ (W:World) (wb c0:Nat) (a0:Option Addr) (X:aM) (cb B k:Nat) (v:Value) (pb po pc:Nat) (px:List Nat) (wd ht:Nat),St W (wb :: cb :: bQ a0) [eI wb a0 c0 X,aa cb (dt v k) 39] W→l7 W .u32 pb po px→pb ∉ wb :: cb :: bQ a0 →
 px.length=wd * ht→px.length≤4096→px.length≤pc→1≤wd→1≤ht→(∀ p ∈ px,p<2 ^ 32)→jA B v W→(∀ b ∈ wb :: cb :: bQ a0,B≠b)→k≤Bk main→X.length≤A8 main →
 Calls Tryz.prog 18 #[pT wb,.slice (some ⟨pb,po,none⟩) px.length pc,iT wd,iT ht,.bool main,pT cb] W fun e w' => ∃ a c Z k',e=.returned (.tuple #[]) ∧
  St W (wb :: cb :: bQ a0) [eI wb a c (X++Z),aa cb (dt v k') 39] w'∧d7 (gT main wd ht) Z px∧Z.length≤DN main∧k≤k'∧k'≤k+E3 main
section
variable {w0 w:World} {S:List Nat} {others:List e_} {wb c cb B k:Nat} {a:Option Addr} {v:Value} {X:aM}
variable {nn:Nat} {ops:Array Oper} {lo:List Oper} {Q:cY} {rest:List Oper} {ρ:dK} {ty:TypeId} {pos:String} {after:Array Edge} {x y z x1 x2 x3:Operand} {d:Nat} {ts:Array TypeId}
theorem rh {main:Bool} (OK:sS main) (H:St w0 S ([eI wb a c X,aa cb (dt v k) 39]++others) w) (hw:jA B v w0) (hS:∀ b ∈ S,B≠b) (hB0:B<w0.heap.size) {pb po pc wd ht:Nat} {px:List Nat} (hr:l7 w .u32 pb po px) (hpb:∀ r ∈ [eI wb a c X,aa cb (dt v k) 39],pb ∉ r.foot)
  (hl:px.length=wd * ht) (hn:px.length≤4096) (hpc:px.length≤pc) (h1:1≤wd) (h2:1≤ht) (h32:∀ p ∈ px,p<2 ^ 32) (hk:k≤Bk main) (hX:X.length≤A8 main) (hd:Nat.blt d nn=true) (hx:ev ρ x=pT wb) (hy:ev ρ y=.slice (some ⟨pb,po,none⟩) px.length pc) (hz:ev ρ z=iT wd) (hx1:ev ρ x1=iT ht) (hx2:ev ρ x2=.bool main) (hx3:ev ρ x3=pT cb)
  (h:∀ w' a' c' Z k',d7 (gT main wd ht) Z px→Z.length≤DN main→k≤k'→k'≤k+E3 main→St w0 S ([eI wb a' c' (X++Z),aa cb (dt v k') 39]++others) w'→VL Tryz.prog nn ops Q rest (eW ρ d (.tuple #[])) w') :
  VL Tryz.prog nn ops Q (⟨some d,.call ⟨.value (.func 18),#[x,y,z,x1,x2,x3],ts⟩,ty,pos,after,none⟩ :: rest) ρ w:=by
 have hab:=H.above hS hB0
 have hT:∀ b ∈ wb :: cb :: bQ a,B≠b:=fun b hb => by
  obtain ⟨r,hr,hbr⟩:=jc (c:=c) (X:=X) (k:=k) (v:=v) b hb
  exact hab r (List.mem_append_left _ hr) b hbr
 refine aS hd Kv (OK w wb c a X cb B k v pb po pc px wd ht (H.part _ sJ) hr (fun hm => ?_) hl hn hpc h1 h2 h32 (hw.keep H.frm hS) hT hk hX) (by simp [hx,hy,hz,hx1,hx2,hx3]) fun e w' ⟨a',c',Z,k',he,H',h1,h2,h3,h4⟩ => ⟨_,he,h _ a' c' Z k' h1 h2 h3 h4 (H.callee H' jc)⟩
 obtain ⟨r,hr,hbr⟩:=jc (c:=c) (X:=X) (k:=k) (v:=v) pb hm
 exact hpb r hr hbr
end
theorem zC {w w0:World} {S:List Nat} {l:List e_} {cb B k:Nat} {v:Value} {nn:Nat} {lo:List Oper} {Q:cY} {fuel:Nat} {listed:Array Bool} {ρ:dK} {ty:TypeId} {pos:String} {after:Array Edge} {x y:Operand} {d:Nat} {ts:Array TypeId}
  (j:Nat) (hio:lo[j]?=some ⟨some d,.call ⟨.value (.func 14),#[x,y],ts⟩,ty,pos,after,none⟩) (hrd:Region.ready .any lo.toArray listed=[j]) (H:St w0 S l w) (i:Nat) (hi:l[i]?=some (aa cb (dt v k) 39)) (hw:jA B v w0) (hS:∀ b ∈ S,B≠b) (hB:B≠cb) (m:Nat) (hk:k≤4611686018427387904) (hm0:0<m) (hm:m≤4294967296) (hd:Nat.blt d nn=true) (hx:ev ρ x=pT cb) (hy:ev ρ y=iT m)
  (h:∀ w' r,r<m→St w0 S (l.set i (aa cb (dt v (k+1)) 39)) w'→VH Tryz.prog nn lo.toArray Q (cf S w0) fuel (listed.setIfInBounds j true) (eW ρ d (iT r)) w') :
  VH Tryz.prog nn lo.toArray Q (cf S w0) (fuel+1) listed ρ w :=
 gA j hio hrd hd wx (oq w cb B v k m (H.blk hi) (hw.keep H.frm hS) hB hk hm0 hm) (by simp [hx,hy]) fun e w' ⟨⟨r,hr,he⟩,hb,hf⟩ => ⟨_,he,(H.turnB i hi hf hb).frm,h _ r hr (H.turnB i hi hf hb)⟩
theorem Cn (n:Nat):bM .u32 (fun _ => 0) n=nums .u32 (List.replicate n 0):=by
 rw [← fK];simp [nums]
theorem Au (w h:Nat):gT false w h=ip w h:=rfl
theorem z7 {hb tpr w i:Nat} {gpx:List Nat} (hb0:hb≠0) (hR:∀ p ∈ gpx,pR p=0):dF hb tpr gpx w i=aI (gpx.getD (i / w / 2 ^ hb * tpr+i % w / 2 ^ hb) 0) 8:=by
 unfold dF
 rw [if_neg hb0,Nat.mul_comm tpr]
 have:pR (gpx.getD (i / w / 2 ^ hb * tpr+i % w / 2 ^ hb) 0)=0:=by
  rw [List.getD_eq_getElem?_getD]
  cases e:gpx[i / w / 2 ^ hb * tpr+i % w / 2 ^ hb]? with
  | none => rfl
  | some p => exact hR p (List.mem_of_getElem? e)
 unfold pR at this
 unfold aI
 omega
theorem BL {gpx:List Nat} {m:Nat} (h1:∀ p ∈ gpx,p / 256 % 65536≤m) (h2:∃ p ∈ gpx,p / 256 % 65536=m):bB gpx=m:=by
 obtain ⟨p,hp,hpm⟩:=h2
 obtain ⟨i,hi,rfl⟩:=List.mem_iff_getElem.1 hp
 have h3:=vj hi
 rw [show gpx.getD i 0=gpx[i] by simp [hi],hpm] at h3
 refine Nat.le_antisymm ?_ h3
 have key:∀ (l:List Nat) (a:Nat),a≤m→(∀ p ∈ l,p / 256 % 65536≤m)→l.foldl (fun m p => max m (p / 256 % 65536)) a≤m:=by
  intro l
  induction l with
  | nil => intro a ha _;exact ha
  | cons x l ih =>
   intro a ha hl
   rw [List.foldl_cons]
   refine ih _ ?_ fun p hp => hl p (List.mem_cons_of_mem _ hp)
   have:=hl x (by simp)
   omega
 exact key gpx 0 ω h1
theorem wL (main:Bool) (OK:main=true→sS false):sS main:=by
 intro W wb c0 a0 X cb B k v pb po pc px wd ht H hr hpb hpl hn hpc hw1 hh1 h32 hw hB hk hX
 have hcbB:B≠cb:=hB cb (by simp)
 have hB0:B<W.heap.size:=hw.1
 have hwd:wd≤4096:=by
  have:=Nat.mul_le_mul_left wd hh1
  omega
 have hht:ht≤4096:=by
  have:=Nat.mul_le_mul_right ht hw1
  omega
 have hk1:k≤4611686018421000000:=by
  unfold Bk at hk
  split at hk <;> omega
 have hX1:X.length≤1099505000000:=by
  unfold A8 at hX
  split at hX <;> omega
 have hpcb:pb≠cb:=fun e => hpb (by simp [e])
 obtain ⟨S,hS⟩:∃ S,S=wb :: cb :: bQ a0:=⟨_,rfl⟩
 rw [← hS] at hpb hB H ⊢
 refine enter (m:=242) Tryz.func18 O Tryz.ntmps18 O (Cy (fM H (cs:=[pT wb]) O O O ?_))
 intro w b6 hn6 hb6 H
 refine fM H (cs:=[iT wd]) O O O ?_
 intro w b8 hn8 hb8 H
 refine Lt ?_
 replace H:St W S [eI wb a0 c0 X,aa cb (dt v k) 39,aa b6 [pT wb] 40,aa b8 [iT wd] 3] w:=H.sub [2,3,1,0] rfl δ
 refine Cy (az O (Lt (Cs (Cy (bH O (gh H 1 O hw hB hcbB 2 ω ω ω O O O ?_))))))
 intro w q0 hq0 H
 simp only [List.set] at H
 refine bF O O (Lt ?_)
 refine aH (fun ρ w' => ∃ cc Zc a c k1,cc≤11∧d7 ut Zc cc∧Zc.length≤5∧k≤k1∧k1≤k+3∧ρ 1=.slice (some ⟨pb,po,none⟩) px.length pc∧ρ 3=iT ht∧ρ 4=.bool main∧ρ 5=pT cb∧ρ 6=pT b6∧ρ 8=pT b8∧ρ 12=iT cc ∧
  St W S [eI wb a c (X++Zc),aa cb (dt v k1) 39,aa b6 [pT wb] 40,aa b8 [iT wd] 3] w') ?_ ?_
 case refine_1 =>
  by_cases hq00:(q0:Int)=0
  case neg =>
   refine CF O hq00 (Cr (aC qj O (H.cell 2 O O) (di H 0 O 0 1 ω ω ω O O O O ?_)))
   intro w a c H
   simp only [List.set] at H
   refine Lt ?_
   refine ⟨0,aV 0 1,a,c,k+1,ω,?_,by rw [kZ];omega,ω,ω,O,O,O,O,O,O,O,H⟩
   exact fU (cJ (n:=0) (k:=1) δ) (by rw [if_pos rfl];exact d7.ret _)
  refine CT O hq00 (Cy (bH O (gh H 1 O hw hB hcbB 7 ω ω ω O O O ?_)))
  intro w q7 hq7 H
  refine ao O O (ck (a:=1) ω) (az O (Lt (Cs (Cy (bH O (gh H 1 O hw hB hcbB 20 ω ω ω O O O ?_))))))
  intro w q20 hq20 H
  simp only [List.set] at H
  refine bF O O (Lt ?_)
  refine aH (fun ρ w' => ∃ cc,1≤cc∧cc≤11∧ρ 1=.slice (some ⟨pb,po,none⟩) px.length pc∧ρ 3=iT ht∧ρ 4=.bool main∧ρ 5=pT cb∧ρ 6=pT b6∧ρ 8=pT b8∧ρ 12=iT cc ∧
   St W S [eI wb a0 c0 X,aa cb (dt v (k+1+1+1)) 39,aa b6 [pT wb] 40,aa b8 [iT wd] 3] w') ?_ ?_
  case refine_1 =>
   by_cases hq200:(q20:Int)=0
   case neg =>
    refine CF O hq200 (Ck (tn ?_))
    exact ⟨1+q7,ω,ω,O,O,O,O,O,O,O,H⟩
   refine CT O hq200 (Cr (az O (Lt ?_)))
   exact ⟨11,ω,ω,O,O,O,O,O,O,O,H⟩
  case refine_2 =>
  clear H
  rintro ρ w5 ⟨cc,hcc1,hcc,r1,r3,r4,r5,r6,r8,r12,H⟩
  refine Cy (aC qj r6 (H.cell 2 O O) (di H 0 O 1 1 ω ω ω O O O O ?_))
  intro w a c H
  simp only [List.set] at H
  refine Lt (Cr (aC qj r6 (H.cell 2 O O) (ai r12 (di H 0 O cc 4 ω ω (by rw [List.length_append,kZ];omega) O O O O ?_))))
  intro w a2 c2 H
  simp only [List.set,List.append_assoc] at H
  refine Lt ?_
  refine ⟨cc,aV 1 1++aV cc 4,a2,c2,k+1+1+1,hcc,?_,by rw [List.length_append,kZ,kZ];omega,ω,ω,r1,r3,r4,r5,r6,r8,r12,H⟩
  refine (cJ (n:=1) (k:=1) δ).pb ?_
  rw [if_neg δ]
  exact fU (cJ (show cc<2 ^ 4 by omega)) (by rw [if_neg ω];exact d7.ret _)
 case refine_2 =>
 clear H
 rintro ρ w5 ⟨cc,Zc,a1,c1,k1,hcc,hZc,hZcl,hk2,hk3,r1,r3,r4,r5,r6,r8,r12,H⟩
 have hX2:(X++Zc).length≤X.length+5:=by rw [List.length_append];omega
 obtain ⟨X1,hX1e⟩:∃ X1,X1=X++Zc:=⟨_,rfl⟩
 rw [← hX1e] at H hX2
 refine Cy (bI O (Lt (Cy (az O (Lt (Cs (Cs ?_)))))))
 refine aH (fun ρ w' => ∃ (T:Bool) (k2:Nat),ρ 60=.bool T∧(T=true→main=true)∧k1≤k2∧k2≤k1+1∧(main=false→k2=k1)∧ρ 1=.slice (some ⟨pb,po,none⟩) px.length pc∧ρ 3=iT ht∧ρ 4=.bool main∧ρ 5=pT cb∧ρ 6=pT b6∧ρ 8=pT b8∧ρ 12=iT cc∧ρ 13=.func (.func 31) #[] #[]∧ρ 14=iT 1 ∧
  St W S [eI wb a1 c1 X1,aa cb (dt v k2) 39,aa b6 [pT wb] 40,aa b8 [iT wd] 3] w') ?_ ?_
 case refine_1 =>
  cases main
  case false =>
   refine Cr (dh r4 (dh O (Lk (Lk (Lk (ay O O (Lt ?_)))))))
   exact ⟨false,k1,O,id,ω,ω,fun _ => rfl,r1,r3,r4,r5,r6,r8,r12,O,O,H⟩
  refine Cr (dh r4 (dh O (Lg (YP r5) (kP H 1 O hw hB hcbB 3 ω ω ω O O O O O O ?_))))
  intro w q3 hq3 H
  simp only [List.set] at H
  refine Lg (qi O O) (ay O O (Lt ?_))
  exact ⟨_,k1+1,O,fun _ => rfl,ω,ω,fun h => by (cases h),r1,r3,r4,r5,r6,r8,r12,O,O,H⟩
 case refine_2 =>
 clear H r1 r3 r4 r5 r6 r8 r12
 rintro ρ w6 ⟨T,k2,r60,hTm,hk4,hk5,hk6,r1,r3,r4,r5,r6,r8,r12,r13,r14,H⟩
 refine aH (fun ρ w' => ∃ many hb hpx Zm a c k3 gf fs cs extra,1≤many∧many≤3∧bB hpx+1=many∧d7 (tj main wd ht) Zm (hb,hpx)∧(main=false→Zm=[]∧k3=k2)∧Zm.length≤800000∧k2≤k3∧k3≤k2+200000∧fZ Tryz.prog gf ∧
  (∀ i,i<px.length→dF hb (aq wd hb) hpx wd i<many) ∧
  (∀ w' i,(∀ r ∈ aa b8 [iT wd] 3 :: extra,r.pred w')→i<px.length→Calls Tryz.prog gf (fs++[Value.int .i64 (i:Nat)]++cs).toArray w' fun e w'' => e=.returned (iT (dF hb (aq wd hb) hpx wd i))∧cf [] w' w'') ∧
  ρ 1=.slice (some ⟨pb,po,none⟩) px.length pc∧ρ 3=iT ht∧ρ 4=.bool main∧ρ 5=pT cb∧ρ 6=pT b6∧ρ 8=pT b8∧ρ 12=iT cc∧ρ 13=.func (.func gf) fs.toArray cs.toArray∧ρ 14=iT many ∧
  St W S ([eI wb a c (X1++Zm),aa cb (dt v k3) 39,aa b6 [pT wb] 40,aa b8 [iT wd] 3]++extra) w') ?_ ?_
 case refine_1 =>
  cases T
  case false =>
   refine Cq r60 (Cy (dh r4 (Lt ?_)))
   cases main
   case false =>
    refine Cq O (Ck (tn ?_))
    refine ⟨1,0,[],[],a1,c1,k2,31,[],[],[],ω,ω,O,d7.ret _,fun _ => ⟨O,O⟩,by simp,ω,ω,G2,fun i _ => by unfold dF;simp,fun w' i _ _ => wG w' i,r1,r3,r4,r5,r6,r8,r12,r13,r14,?_⟩
    rw [List.append_nil,List.append_nil]
    exact H
   refine Cp O ?_
   refine Cr (aC qj r6 (H.cell 2 O O) (di H 0 O 0 1 ω ω ω O O O O ?_))
   intro w a c H
   simp only [List.set] at H
   refine Lt ?_
   refine ⟨1,0,[],aV 0 1,a,c,k2,31,[],[],[],ω,ω,O,?_,fun h => by (cases h),by rw [kZ];omega,ω,ω,G2,fun i _ => by unfold dF;simp,fun w' i _ _ => wG w' i,r1,r3,r4,r5,r6,r8,r12,r13,r14,?_⟩
   ·exact fU (cJ (n:=0) (k:=1) δ) (by rw [if_pos rfl];exact d7.ret _)
   ·rw [List.append_nil]
    exact H
  obtain rfl:=hTm rfl
  have OK':=OK rfl
  refine Cp r60 ?_
  refine Cy (bH r5 (gh H 1 O hw hB hcbB 8 ω ω ω O O O ?_))
  intro w q8 hq8 H
  refine ao O O (ck (a:=2) ω) (cE H GS O ?_)
  intro w b15 hn15 hb15 H
  refine bC (m:=((2+q8:Nat):Int)) H 0 k_ O O O O ?_
  intro w H
  simp only [List.set] at H
  refine Lt ?_
  obtain ⟨hb,hhb⟩:∃ hb,hb=2+q8:=⟨_,rfl⟩
  rw [← hhb] at H
  have htw:=cu (b:=hb) hw1
  have hth:=cu (b:=hb) hh1
  obtain ⟨aw,haw⟩:∃ aw,aw=aq wd hb:=⟨_,rfl⟩
  obtain ⟨ah,hah⟩:∃ ah,ah=aq ht hb:=⟨_,rfl⟩
  rw [← haw] at htw
  rw [← hah] at hth
  have hnl:aw * ah≤4096:=by
   have:=Nat.mul_le_mul htw.2 hth.2
   omega
  have hnl1:1≤aw * ah:=Nat.mul_le_mul htw.1 hth.1
  refine Cy (aC a_ r8 (H.cell 4 O O) (aC a_ O (H.cell 0 O O) (bZ O ke (eN _ wd hb ω ω) O (cE H GS O ?_))))
  intro w b16 hn16 hb16 H
  refine bC (m:=((aw:Nat):Int)) H 0 k_ O O (by rw [haw];rfl) O ?_
  intro w H
  simp only [List.set] at H
  refine Lt (Cs ?_)
  refine aH (fun ρ w' => ∃ g b17,ρ 1=.slice (some ⟨pb,po,none⟩) px.length pc∧ρ 3=iT ht∧ρ 4=.bool true∧ρ 5=pT cb∧ρ 6=pT b6∧ρ 8=pT b8∧ρ 12=iT cc∧ρ 14=iT 1∧ρ 15=pT b15∧ρ 16=pT b16∧ρ 17=pT b17 ∧
   St W S [aa b17 [.slice (aT g) (aw * ah) (aw * ah)] 22,aa g (nums .u32 (List.replicate (aw * ah) 0)) 36,aa b16 [iT aw] 3,aa b15 [iT hb] 3,eI wb a1 c1 X1,aa cb (dt v (k2+1)) 39,aa b6 [pT wb] 40,aa b8 [iT wd] 3] w') ?_ ?_
  case refine_1 =>
   obtain ⟨wS,hwS⟩:∃ wS,wS=w:=⟨_,rfl⟩
   have H0:=H
   rw [← hwS] at H0
   refine VC.held ((cf [] wS)) aJ (by with_reducible repeat (first | refine fB ?_ | refine eP.blk ?_ | refine fy ?_ | refine dP ?_ | exact eP.done)) ?_
   intro w hsame
   replace H:=H.same hsame
   refine Ht 0 O κ κ κ O (hwS ▸ hsame.frm) (fun w hI => ef a_ O (hI.cell (H0.cell 0 O O) (by simp))) (Ht 1 O κ κ κ O (hwS ▸ hsame.frm) (fun w hI => YI r3) (Ht 2 O κ κ κ O (hwS ▸ hsame.frm) (fun w hI => ef a_ O (hI.cell (H0.cell 1 O O) (by simp))) ?_))
   refine oE [0,1,2] [3,4,5,6] [(4,[3]),(5,[4])] 4 O κ δ κ
    (fun D ρ w' => (∃ g b,(5 ∉ D→ρ 72=.slice (aT g) (aw * ah) (aw * ah))∧(6 ∉ D→ρ 17=pT b∧wS.heap.size≤b)∧cf [] wS w' ∧
      St W S (zl D 6 (aa b [.slice none 0 0] 22)++(zl D 5 (aa g (nums .u32 (List.replicate (aw * ah) 0)) 36)++[aa b16 [iT aw] 3,aa b15 [iT hb] 3,eI wb a1 c1 X1,aa cb (dt v (k2+1)) 39,aa b6 [pT wb] 40,aa b8 [iT wd] 3])) w') ∧
     (3 ∉ D→ρ 70=iT ah)∧(4 ∉ D→ρ 71=iT (aw * ah))∧ρ 67=iT aw∧ρ 68=iT ht∧ρ 69=iT hb∧ρ 1=.slice (some ⟨pb,po,none⟩) px.length pc∧ρ 3=iT ht∧ρ 4=.bool true∧ρ 5=pT cb∧ρ 6=pT b6∧ρ 8=pT b8∧ρ 12=iT cc∧ρ 14=iT 1∧ρ 15=pT b15∧ρ 16=pT b16)
    (fun D ρ w' h => by obtain ⟨⟨g,b,_,_,h,_⟩,_⟩:=h;exact h) ?_ ?_ ?_
   ·exact ⟨⟨0,0,fun h => absurd δ h,fun h => absurd δ h,hwS ▸ hsame.frm,H⟩,fun h => absurd δ h,fun h => absurd δ h,O,O,O,r1,r3,r4,r5,r6,r8,r12,r14,O,O⟩
   ·clear H r1 r3 r4 r5 r6 r8 r12 r13 r14
    rintro D j ρ w' hj hjD hpre hDn ⟨⟨g,b,h5,h6,hF,H⟩,h3,h4,r67,r68,r69,r1,r3,r4,r5,r6,r8,r12,r14,r15,r16⟩
    have ne:∀ {x y:Nat},x≠y→(x ∈ D.erase y ↔ x ∈ D):=fun hxy => List.mem_erase_of_ne hxy
    simp only [List.mem_cons,List.not_mem_nil,or_false] at hj
    rcases hj with rfl | rfl | rfl | rfl
    ·refine wi O O ke (eN w' ht hb ω ω) (by simp [ev,r68,r69]) ?_
     rintro e w2 ⟨he2,rfl⟩
     exact ⟨_,he2,⟨g,b,by rw [ne δ];exact h5,by rw [ne δ];exact h6,hF,by rw [cj δ,cj δ];exact H⟩,fun _ => by rw [hah];rfl,by rw [ne δ];exact h4,r67,r68,r69,r1,r3,r4,r5,r6,r8,r12,r14,r15,r16⟩
    ·have r70:=h3 (hpre (4,[3]) (by simp) rfl 3 (by simp))
     refine pp O O (cX r67 r70 (pK ω)) ?_
     exact ⟨⟨g,b,by rw [ne δ];exact h5,by rw [ne δ];exact h6,hF,by rw [cj δ,cj δ];exact H⟩,by rw [ne δ];exact h3,fun _ => rfl,r67,r68,r69,r1,r3,r4,r5,r6,r8,r12,r14,r15,r16⟩
    ·have r71:=h4 (hpre (5,[4]) (by simp) rfl 4 (by simp))
     refine qV O H gj (aw * ah) (aw * ah) r71 r71 O O (Nat.le_refl _) ω ω O ?_
     intro w2 g2 _ hF2 H
     rw [dz,fK,Cn] at H
     rw [iy hjD,List.nil_append] at H
     exact ⟨⟨g2,b,fun _ => rfl,by rw [ne δ];exact h6,hF.trans hF2,by rw [cj δ,l8 hDn];exact H.perm List.perm_middle.symm⟩,by rw [ne δ];exact h3,by rw [ne δ];exact h4,r67,r68,r69,r1,r3,r4,r5,r6,r8,r12,r14,r15,r16⟩
    ·rw [iy hjD,List.nil_append] at H
     refine wE O H Dr O ?_
     intro w2 b2 hn2 hF2 H
     exact ⟨⟨g,b2,by rw [ne δ];exact h5,fun _ => ⟨O,Nat.le_trans hF.size hn2⟩,hF.trans hF2,by rw [l8 hDn,cj δ];exact H⟩,by rw [ne δ];exact h3,by rw [ne δ];exact h4,r67,r68,r69,r1,r3,r4,r5,r6,r8,r12,r14,r15,r16⟩
   clear H r1 r3 r4 r5 r6 r8 r12 r13 r14
   rintro ρ w6 ⟨⟨g,b17,h5,h6,hF,H⟩,h3,h4,r67,r68,r69,r1,r3,r4,r5,r6,r8,r12,r14,r15,r16⟩
   have r72:=h5 (by simp)
   obtain ⟨r17,hb17⟩:=h6 (by simp)
   rw [j5,j5] at H
   refine ph 7 O κ H 0 vp r17 O r72 O O ?_
   intro w hF2 H
   simp only [List.cons_append,List.nil_append,List.set] at H
   refine ⟨hF.then hF2 (by simpa using hb17),?_⟩
   refine g7 κ (tn ?_)
   exact ⟨g,b17,r1,r3,r4,r5,r6,r8,r12,r14,r15,r16,r17,H⟩
  case refine_2 =>
  clear H r1 r3 r4 r5 r6 r8 r12 r13 r14 r60
  rintro ρ w7 ⟨g,b17,r1,r3,r4,r5,r6,r8,r12,r14,r15,r16,r17,H⟩
  refine Cy (bH r5 (gh H 5 O hw hB hcbB 3 ω ω ω O O O ?_))
  intro w qm hqm H
  simp only [List.set] at H
  refine ao O O (ck (a:=1) ω) (az O (Lt ?_))
  obtain ⟨many,hmany⟩:∃ many,many=1+qm:=⟨_,rfl⟩
  refine Cs (Cy (aC gw r17 (H.cell 0 O O) (bG aZ O (ai O (Lt ?_)))))
  refine aH (fun ρ w' => ∃ gpx k3,gpx.length=aw * ah∧(∀ p ∈ gpx,p<2 ^ 32∧pR p=0∧pG p<many)∧k2≤k3∧k3≤k2+2+3 * (aw * ah)∧ρ 1=.slice (some ⟨pb,po,none⟩) px.length pc∧ρ 3=iT ht∧ρ 4=.bool true∧ρ 5=pT cb∧ρ 6=pT b6∧ρ 8=pT b8∧ρ 12=iT cc∧ρ 14=iT many∧ρ 15=pT b15∧ρ 16=pT b16∧ρ 17=pT b17 ∧
   St W S [aa b17 [.slice (aT g) (aw * ah) (aw * ah)] 22,aa g (nums .u32 gpx) 36,aa b16 [iT aw] 3,aa b15 [iT hb] 3,eI wb a1 c1 X1,aa cb (dt v k3) 39,aa b6 [pT wb] 40,aa b8 [iT wd] 3] w') ?_ ?_
  case refine_1 =>
   refine Cb ?_
   refine Cl (fun mm ρ w' => ∃ i gpx k3,mm=aw * ah - i∧i≤aw * ah∧gpx.length=aw * ah∧(∀ p ∈ gpx,p<2 ^ 32∧pR p=0∧pG p<many)∧k2≤k3∧k3≤k2+2+3 * i∧ρ 1=.slice (some ⟨pb,po,none⟩) px.length pc∧ρ 3=iT ht∧ρ 4=.bool true∧ρ 5=pT cb∧ρ 6=pT b6∧ρ 8=pT b8∧ρ 12=iT cc∧ρ 14=iT many∧ρ 15=pT b15∧ρ 16=pT b16∧ρ 17=pT b17∧ρ 77=iT (aw * ah)∧ρ 78=iT i ∧
    St W S [aa b17 [.slice (aT g) (aw * ah) (aw * ah)] 22,aa g (nums .u32 gpx) 36,aa b16 [iT aw] 3,aa b15 [iT hb] 3,eI wb a1 c1 X1,aa cb (dt v k3) 39,aa b6 [pT wb] 40,aa b8 [iT wd] 3] w') (aw * ah)
    ⟨0,List.replicate (aw * ah) 0,k2+1+1,rfl,ω,List.length_replicate,fun p hp => by
     rw [List.eq_of_mem_replicate hp]
     exact ⟨δ,O,by show 0<many;omega⟩,ω,ω,r1,r3,r4,r5,r6,r8,r12,by rw [hmany];rfl,r15,r16,r17,O,O,H⟩ ?_
   clear H r1 r3 r4 r5 r6 r8 r12 r14 r15 r16 r17
   rintro mm ρ w8 ⟨i,gpx,k3,hmm,hi,hgl,hgp,hk7,hk8,r1,r3,r4,r5,r6,r8,r12,r14,r15,r16,r17,r77,r78,H⟩
   refine Cy (bP r78 r77 (Lt ?_))
   by_cases hlt:i<aw * ah
   case neg =>
    obtain rfl:i=aw * ah:=ω
    refine Cs (CF O ω (Cx (ax (ax (br (tn ?_))))))
    exact ⟨gpx,k3,hgl,hgp,hk7,hk8,r1,r3,r4,r5,r6,r8,r12,r14,r15,r16,r17,H⟩
   refine Cs (CT O ω (Ck (tn (Cs (Cb (Cy (ai r78 (az O (Lt ?_)))))))))
   have H0:St W S ([aa g (nums .u32 gpx) 36,aa cb (dt v k3) 39]++[aa b17 [.slice (aT g) (aw * ah) (aw * ah)] 22,aa b16 [iT aw] 3,aa b15 [iT hb] 3,eI wb a1 c1 X1,aa b6 [pT wb] 40,aa b8 [iT wd] 3]) w8:=H.sub [1,5,0,2,3,4,6,7] rfl δ
   have hw8:jA B v w8:=hw.keep H0.frm hB
   have hB2:∀ x ∈ [g,cb],B≠x:=fun x hx => by
    simp only [List.mem_cons,List.not_mem_nil,or_false] at hx
    rcases hx with rfl | rfl
    ·exact H0.above hB hB0 (aa x (nums .u32 gpx) 36) (by simp) x (by simp [aa])
    ·exact hcbB
   have h17n:b17 ∉ [g,cb]:=fun hm => by
    simp only [List.mem_cons,List.not_mem_nil,or_false] at hm
    rcases hm with e | e
    ·exact dl H0.apart (i:=2) (j:=0) O O δ b17 (by simp [aa]) (by simp [aa,e])
    ·exact dl H0.apart (i:=2) (j:=1) O O δ b17 (by simp [aa]) (by simp [aa,e])
   have h17c:w8.cell? ⟨b17,0,none⟩=some (.slice (aT g) (aw * ah) (aw * ah)):=H0.cell 2 rfl rfl
   replace H:St w8 [g,cb] [aa g (nums .u32 gpx) 36,aa cb (dt v k3) 39] w8:=H0.part [g,cb] (by simp [aa])
   refine VC.held ((cf [g,cb] w8)) aJ (by with_reducible repeat (first | refine fB ?_ | refine eP.blk ?_ | refine fy ?_ | refine dP ?_ | exact eP.done)) ?_
   intro w hsame
   replace H:=H.same hsame
   refine Ht 0 O κ κ κ O H.frm (fun w hI => ef gw r17 (hI.cell h17c h17n)) (Ht 1 O κ κ κ O H.frm (fun w hI => YI O) (Ht 2 O κ κ κ O H.frm (fun w hI => YP r5) (Ht 4 O κ κ κ O H.frm (fun w hI => YP r5) (Ht 5 O κ κ κ O H.frm (fun w hI => YI r14) (Ht 7 O κ κ κ O H.frm (fun w hI => YP r5) (zC 3 O κ H 1 O hw8 hB2 hcbB 256 ω ω ω O O O ?_))))))
   intro w ra hra H
   refine zC 6 O κ H 1 O hw8 hB2 hcbB many ω ω ω O O O ?_
   intro w rg hrg H
   refine zC 8 O κ H 1 O hw8 hB2 hcbB 256 ω ω ω O O O ?_
   intro w rb hrb H
   simp only [List.set] at H
   refine kR 9 O κ O zE (qY _ _ _ _ _ ra 0 rg rb ω ω ω ω) O H.frm (Ht 10 O κ κ κ O H.frm (fun w hI => bO i aZ O O O hlt) (zu 11 O κ H 0 dY O O O (de ω) ?_))
   intro w H
   simp only [List.set,jR] at H
   refine g7 κ (aF (tn ?_))
   have hap:=eO (a:=ra) (r:=0) (g:=rg) (b:=rb) ω ω ω ω
   replace H:=(H0.callee H (by simp [aa])).sub (l':=[aa b17 [.slice (aT g) (aw * ah) (aw * ah)] 22,aa g (nums .u32 (gpx.set i (fQ ra 0 rg rb))) 36,aa b16 [iT aw] 3,aa b15 [iT hb] 3,eI wb a1 c1 X1,aa cb (dt v (k3+1+1+1)) 39,aa b6 [pT wb] 40,aa b8 [iT wd] 3]) [2,0,3,4,5,1,6,7] rfl δ
   refine Cr (ao r78 O (ck (b:=1) ω) (ai O (Lt ?_)))
   refine ⟨aw * ah - (i+1),ω,i+1,_,_,O,ω,by rw [List.length_set];exact hgl,fun p hp => ?_,ω,ω,r1,r3,r4,r5,r6,r8,r12,r14,r15,r16,r17,r77,O,H⟩
   rcases List.mem_or_eq_of_mem_set hp with hp | rfl
   ·exact hgp p hp
   ·exact ⟨hap.2.2.2.2,hap.2.1,by rw [hap.2.2.1];exact hrg⟩
  case refine_2 =>
  clear H r1 r3 r4 r5 r6 r8 r12 r14 r15 r16 r17
  rintro ρ w8 ⟨gpx,k3,hgl,hgp,hk7,hk8,r1,r3,r4,r5,r6,r8,r12,r14,r15,r16,r17,H⟩
  have hlastlt:aw * ah - 1<gpx.length:=ω
  refine Cs (ar 8 aJ κ ?_)
  intro w hsame
  replace H:=H.same hsame
  refine aD gw r17 (H.cell 0 O O) (aD gw r17 (H.cell 0 O O) (Sp (dx aZ O) (cx (r:=((aw * ah - 1:Nat):Int)) O O (iw (b:=1) ⟨ω,ω⟩) (bW r14 (cx (r:=((many - 1:Nat):Int)) O O (iw (b:=1) ⟨ω,ω⟩) (G4 255 0 (many - 1) 0 ω ω ω ω O O O O O (Sp (bO (aw * ah - 1) aZ O O O ω) (Sn (bC H 1 dY O O O (de hlastlt) ?_)))))))))
  intro w H
  simp only [List.set,jR] at H
  refine Lt ?_
  obtain ⟨hpx,hhpx⟩:∃ hpx,hpx=gpx.set (aw * ah - 1) (fQ 255 0 (many - 1) 0):=⟨_,rfl⟩
  have hap:=eO (a:=255) (r:=0) (g:=many - 1) (b:=0) ω ω ω ω
  have hhl:hpx.length=aw * ah:=by rw [hhpx,List.length_set];exact hgl
  have hhp:∀ p ∈ hpx,p<2 ^ 32∧pR p=0∧pG p<many:=fun p hp => by
   rw [hhpx] at hp
   rcases List.mem_or_eq_of_mem_set hp with hp | rfl
   ·exact hgp p hp
   ·exact ⟨hap.2.2.2.2,hap.2.1,by rw [hap.2.2.1];omega⟩
  have hmg:bB hpx=many - 1:=by
   refine BL (fun p hp => ?_) ⟨fQ 255 0 (many - 1) 0,by rw [hhpx];exact List.mem_iff_getElem.2 ⟨aw * ah - 1,by rw [List.length_set];omega,by simp⟩,?_⟩
   ·obtain ⟨_,h2,h3⟩:=hhp p hp
    unfold pR at h2
    unfold pG at h3
    omega
   ·have h2:=hap.2.1
    have h3:=hap.2.2.1
    unfold pR at h2
    unfold pG at h3
    omega
  rw [← hhpx] at H
  refine Cy (aC qj r6 (H.cell 6 O O) (di H 4 O 1 1 ω ω ω O O O O ?_))
  intro w a2 c2 H
  refine Lt (Cy (aC qj r6 (H.cell 6 O O) (aC a_ r15 (H.cell 3 O O) (bw (r:=((hb - 2:Nat):Int)) O O (iw (b:=2) ⟨ω,ω⟩) (di H 4 O (hb - 2) 3 ω ω (by rw [List.length_append,kZ];omega) O O O O ?_)))))
  intro w a3 c3 H
  simp only [List.set] at H
  refine Lt ?_
  replace H:St W S ([eI wb a3 c3 (X1++aV 1 1++aV (hb - 2) 3),aa cb (dt v k3) 39]++[aa b17 [.slice (aT g) (aw * ah) (aw * ah)] 22,aa g (nums .u32 hpx) 36,aa b16 [iT aw] 3,aa b15 [iT hb] 3,aa b6 [pT wb] 40,aa b8 [iT wd] 3]) w:=H.sub [4,5,0,1,2,3,6,7] rfl δ
  refine Cs (ar 7 aJ κ ?_)
  intro w hsame
  replace H:=H.same hsame
  refine aD qj r6 (H.cell 6 O O) (aD gw r17 (H.cell 2 O O) (aD a_ r16 (H.cell 4 O O) (bW r3 (aD a_ r15 (H.cell 5 O O) (bJ O ke (eN _ ht hb ω ω) O (mY r5 (Sn ?_)))))))
  refine rh OK' H hw hB hB0 (pc:=aw * ah) (na (H.blk (i:=3) O)) ?_ (by rw [hhl]) ω ω htw.1 hth.1 (fun p hp => (hhp p hp).1) (by unfold Bk;rw [if_neg (by simp)];unfold Bk at hk;rw [if_pos rfl] at hk;omega) (by unfold A8;rw [if_neg (by simp)];unfold A8 at hX;rw [if_pos rfl] at hX;simp only [List.length_append,kZ];omega) O O (by rw [hhl];rfl) O (by rw [hah];rfl) O O ?_
  ·intro r hr
   simp only [List.mem_cons,List.not_mem_nil,or_false] at hr
   rcases hr with rfl | rfl
   ·exact dl H.apart (i:=3) (j:=0) O O δ g (by simp [aa])
   ·exact dl H.apart (i:=3) (j:=1) O O δ g (by simp [aa])
  intro w a4 c4 Zs k4 hZs hZsl hk9 hk10 H
  refine Lt (Cr (Lp (Kb r17 r8 r15 r16) (bI O (Lt ?_))))
  unfold DN at hZsl
  rw [if_neg (by simp)] at hZsl
  unfold E3 at hk10
  rw [if_neg (by simp)] at hk10
  have hidx:∀ i,i<px.length→i / wd / 2 ^ hb * aw+i % wd / 2 ^ hb<hpx.length:=fun i hi => by
   rw [hhl,Nat.mul_comm (i / wd / 2 ^ hb),haw,hah]
   exact mR (Nat.mod_lt _ hw1) (Nat.div_lt_of_lt_mul (by rw [← hpl];exact hi))
  have hgr:∀ i,dF hb (aq wd hb) hpx wd i=aI (hpx.getD (i / wd / 2 ^ hb * aw+i % wd / 2 ^ hb) 0) 8:=fun i => by
   rw [z7 ω (fun p hp => (hhp p hp).2.1),haw]
  refine ⟨many,hb,hpx,aV 1 1++(aV (hb - 2) 3++Zs),a4,c4,k4,32,[],[pT b17,pT b8,pT b15,pT b16],
   [aa b17 [.slice (aT g) (aw * ah) (aw * ah)] 22,aa g (nums .u32 hpx) 36,aa b16 [iT aw] 3,aa b15 [iT hb] 3],ω,ω,ω,?_,fun h => by (cases h),by simp only [List.length_append,kZ];omega,ω,ω,K6,fun i hi => ?_,fun w' i hr' hi => ?_,r1,r3,r4,r5,r6,r8,r12,rfl,r14,?_⟩
  ·refine (cJ (n:=1) (k:=1) δ).pb ?_
   rw [if_neg δ]
   refine (cJ (show hb - 2<2 ^ 3 by omega)).pb ?_
   rw [show hb - 2+2=hb by omega,← haw,← hah]
   exact fU hZs (d7.ret _)
  ·rw [hgr i]
   have hlt:=hidx i hi
   have e:hpx.getD (i / wd / 2 ^ hb * aw+i % wd / 2 ^ hb) 0=hpx[i / wd / 2 ^ hb * aw+i % wd / 2 ^ hb]:=by simp [hlt]
   rw [e]
   exact (hhp _ (List.getElem_mem hlt)).2.2
  ·rw [hgr i]
   have p8:ff w' b8 [iT wd] 3:=hr' _ (List.mem_cons_self ..)
   have p17:ff w' b17 [.slice (aT g) (aw * ah) (aw * ah)] 22:=hr' (aa b17 _ _) (by simp)
   have pg:ff w' g (nums .u32 hpx) 36:=hr' (aa g _ _) (by simp)
   have p16:ff w' b16 [iT aw] 3:=hr' (aa b16 _ _) (by simp)
   have p15:ff w' b15 [iT hb] 3:=hr' (aa b15 _ _) (by simp)
   exact Dy w' i wd hb aw g b17 b8 b15 b16 hpx (na pg) (fun p hp => (hhp p hp).1) ω hw1 ω ω ω (by rw [hhl];exact p17.cellv O) (p8.cellv O) (p15.cellv O) (p16.cellv O) (hidx i hi)
  ·have H2:=H.sub [0,1,6,7,2,3,4,5] (l':=[eI wb a4 c4 (X1++aV 1 1++aV (hb - 2) 3++Zs),aa cb (dt v k4) 39,aa b6 [pT wb] 40,aa b8 [iT wd] 3,aa b17 [.slice (aT g) (aw * ah) (aw * ah)] 22,aa g (nums .u32 hpx) 36,aa b16 [iT aw] 3,aa b15 [iT hb] 3]) rfl δ
   simp only [List.append_assoc] at H2
   exact H2
 case refine_2 =>
 clear H r1 r3 r4 r5 r6 r8 r12 r13 r14 r60
 rintro ρ w7 ⟨many,hb,hpx,Zm,a2,c2,k3,gf,fs,cs,extra,hm1,hm3,hmg,hZm,hZm0,hZml,hk7,hk8,hent,hglt,hcl,r1,r3,r4,r5,r6,r8,r12,r13,r14,H⟩
 have hX2:(X1++Zm).length≤X.length+800005:=by rw [List.length_append];omega
 obtain ⟨X2,hX2e⟩:∃ X2,X2=X1++Zm:=⟨_,rfl⟩
 rw [← hX2e] at H hX2
 replace H:St W S ([aa cb (dt v k3) 39]++([eI wb a2 c2 X2,aa b6 [pT wb] 40,aa b8 [iT wd] 3]++extra)) w7:=H.perm (List.Perm.swap _ _ _)
 have hch:∀ b ∈ [cb],∃ r ∈ [aa cb (dt v k3) 39],b ∈ r.foot:=by simp [aa]
 refine Cy (bU r1 (aC a_ r8 (H.cell 3 O O) (ai r12 (db r13 (bH r5 (aS O JU (DI w7 pb po pc px (hr.keep H.frm hpb) h32 hn hpc wd cc hw1 ω hcc cb B k3 v (H.blk (i:=0) O) (hw.keep H.frm hB) hcbB ω hpcb (dF hb (aq wd hb) hpx wd) gf fs cs hent (fun w' i hf hi => hcl w' i (fun r hr' => H.keepBut hf hch r (List.mem_cons_of_mem _ (List.mem_cons_of_mem _ hr'))) hi)) O ?_))))))
 rintro e w ⟨ts,at_,ct,k4,he,hT,H',hk9,hk10⟩
 replace H:=H.callee H' hch
 refine ⟨_,he,?_⟩
 refine gS O (Lt ?_)
 replace H:St W S [eI wb a2 c2 X2,aa cb (dt v k4) 39,aa b6 [pT wb] 40,aA at_ ct 88 5 ts.length (bN ts)] w:=(H.left (used:=[aA at_ ct 88 5 ts.length (bN ts),aa cb (dt v k4) 39,eI wb a2 c2 X2,aa b6 [pT wb] 40,aa b8 [iT wd] 3])).sub [2,1,3,0] rfl δ
 have htl:=hT.len
 have hgts:∀ t ∈ ts,t.2<many:=fun t ht => by
  obtain ⟨_,i,hi,hti,_⟩:=hT.fits t ht
  rw [hti]
  exact hglt i hi
 refine Cy (az O (Lt (Cs (Cy (ai r12 (Lp (e9 O O) (Lt ?_)))))))
 refine aH (fun ρ w' => ρ 5=pT cb∧ρ 6=pT b6∧ρ 14=iT many∧ρ 19=.slice at_ ts.length ct∧ρ 20=iT (bm cc 0 - 280) ∧
  St W S [eI wb a2 c2 X2,aa cb (dt v k4) 39,aa b6 [pT wb] 40,aA at_ ct 88 5 ts.length (bN ts)] w') ?_ ?_
 case refine_1 =>
  by_cases hcc0:cc > 0
  case neg =>
   have e:bm cc 0 - 280=0:=by unfold bm;rw [if_pos rfl,if_pos ω]
   rw [e]
   refine CF O ω (Ck (tn ?_))
   exact ⟨r5,r6,r14,O,O,H⟩
  have e:bm cc 0 - 280=2 ^ cc:=by have:=Nat.two_pow_pos cc;unfold bm;rw [if_pos rfl,if_neg ω];omega
  rw [e]
  have hp11:2 ^ cc≤2 ^ 11:=Nat.pow_le_pow_right ω hcc
  refine CT O ω (Cr (ai r12 (Lp (ed (r:=((2 ^ cc:Nat):Int)) O O ω (by show IntKind.i64.wrap (((1:Nat):Int) * _)=_;rw [x7 ⟨ω,ω⟩,Nat.one_mul])) (az O (Lt ?_)))))
  exact ⟨r5,r6,r14,O,O,H⟩
 case refine_2 =>
 clear H r1 r3 r4 r5 r6 r8 r12 r13 r14 H' hcl
 rintro ρ w8 ⟨r5,r6,r14,r19,r20,H⟩
 have hal:=j1 hcc 0
 have ha0:280≤bm cc 0:=by unfold bm;rw [if_pos rfl];exact Nat.le_add_right _ _
 refine Cy (cE H HH O ?_)
 intro w b21 hn21 hb21 H
 refine cE H HH O ?_
 intro w b22 hn22 hb22 H
 refine Lt ?_
 replace H:St W S [eI wb a2 c2 X2,aa cb (dt v k4) 39,aa b6 [pT wb] 40,aA at_ ct 88 5 ts.length (bN ts),aa b21 [.slice none 0 0] 84,aa b22 [.slice none 0 0] 84,aA none 0 91 5 0 ([].map fe),aA none 0 91 5 0 ([].map fb),fE []] w:=((H.vec0 91 5).vec0 91 5).rows0.sub [5,6,7,8,4,3,1,2,0] rfl δ
 refine Cs (Cy (ai r14 (ai O (Lt ?_))))
 refine aH (fun ρ w' => ∃ es qs aL cL aN cN a c k5 Ze,es.length=5 * many∧(∀ e ∈ es,(e.gl,e.ls) ∈ qs∧(e.gn,e.ns) ∈ qs)∧ma ts cc es Ze∧k4≤k5∧k5≤k4+40000 * many∧ρ 5=pT cb∧ρ 6=pT b6∧ρ 19=.slice at_ ts.length ct∧ρ 20=iT (bm cc 0 - 280)∧ρ 21=pT b21∧ρ 22=pT b22 ∧
  St W S [eI wb a c (X2++Ze),aa cb (dt v k5) 39,aa b6 [pT wb] 40,aA at_ ct 88 5 ts.length (bN ts),aa b21 [.slice aL many cL] 84,aa b22 [.slice aN many cN] 84,aA aL cL 91 5 many (es.map fe),aA aN cN 91 5 many (es.map fb),fE qs] w') ?_ ?_
 case refine_1 =>
  refine Cb ?_
  refine Cl (fun mm ρ w' => ∃ g es qs aL cL aN cN a c k5 Ze,mm=many - g∧g≤many∧es.length=5 * g∧(∀ e ∈ es,(e.gl,e.ls) ∈ qs∧(e.gn,e.ns) ∈ qs)∧ma ts cc es Ze∧k4≤k5∧k5≤k4+40000 * g∧ρ 5=pT cb∧ρ 6=pT b6∧ρ 19=.slice at_ ts.length ct∧ρ 20=iT (bm cc 0 - 280)∧ρ 21=pT b21∧ρ 22=pT b22∧ρ 129=iT many∧ρ 130=iT g ∧
   St W S [eI wb a c (X2++Ze),aa cb (dt v k5) 39,aa b6 [pT wb] 40,aA at_ ct 88 5 ts.length (bN ts),aa b21 [.slice aL g cL] 84,aa b22 [.slice aN g cN] 84,aA aL cL 91 5 g (es.map fe),aA aN cN 91 5 g (es.map fb),fE qs] w') many
   ⟨0,[],[],none,0,none,0,a2,c2,k4,[],rfl,ω,rfl,by simp,ma.nil ts cc,ω,ω,r5,r6,r19,r20,rfl,rfl,rfl,rfl,by rw [List.append_nil];exact H⟩ ?_
  clear H r5 r6 r14 r19 r20
  rintro mm ρ w9 ⟨g,es,qs,aL,cL,aN,cN,a,c,k5,Ze,hmm,hg,hes,hqs,hEn,hk11,hk12,r5,r6,r19,r20,r21,r22,r129,r130,H⟩
  refine Cy (bP r130 r129 (Lt ?_))
  by_cases hgm:g<many
  case neg =>
   obtain rfl:g=many:=ω
   refine Cs (CF O ω (Cx (ax (ax (br (tn ?_))))))
   exact ⟨es,qs,aL,cL,aN,cN,a,c,k5,Ze,hes,hqs,hEn,hk11,hk12,r5,r6,r19,r20,r21,r22,H⟩
  refine Cs (CT O ω (Ck (tn (Cs (Cb (Cy (ai r130 (az O (Lt (Cs ?_))))))))))
  refine aH (fun ρ w' => ∃ ub b24,ρ 5=pT cb∧ρ 6=pT b6∧ρ 19=.slice at_ ts.length ct∧ρ 20=iT (bm cc 0 - 280)∧ρ 21=pT b21∧ρ 22=pT b22∧ρ 23=iT g∧ρ 24=pT b24∧ρ 129=iT many∧ρ 130=iT g ∧
   St W S (qN ub (fun _ _ => false) cc 0 5++(aa b24 (kC ub cc) 86 :: [eI wb a c (X2++Ze),aa cb (dt v k5) 39,aa b6 [pT wb] 40,aA at_ ct 88 5 ts.length (bN ts),aa b21 [.slice aL g cL] 84,aa b22 [.slice aN g cN] 84,aA aL cL 91 5 g (es.map fe),aA aN cN 91 5 g (es.map fb),fE qs])) w') ?_ ?_
  case refine_1 =>
   refine VC.held ((cf S W)) aJ (by with_reducible repeat (first | refine fB ?_ | refine eP.blk ?_ | refine fy ?_ | refine dP ?_ | exact eP.done)) ?_
   intro w hsame
   replace H:=H.same hsame
   refine Ht 0 O κ κ κ O H.frm (fun w hI => YI r20) (Ht 1 O κ κ κ O H.frm (fun w hI => oC (r:=((bm cc 0:Nat):Int)) O O (by rw [fg ω];omega)) ?_)
   refine oE [0,1] [2,3,4,5,6,7,8] [(7,[2,3,4,5,6])] 7 O κ δ κ
    (fun D ρ w' => (∀ p ∈ [2,3,4,5,6],p ∈ D→7 ∈ D)∧(∃ u0 u1 u2 u3 u4 b,(2 ∉ D→ρ 135=.slice (aT u0) (bm cc 0) (bm cc 0))∧(3 ∉ D→ρ 136=.slice (aT u1) (bm cc 1) (bm cc 1))∧(4 ∉ D→ρ 137=.slice (aT u2) (bm cc 2) (bm cc 2))∧(5 ∉ D→ρ 138=.slice (aT u3) (bm cc 3) (bm cc 3))∧(6 ∉ D→ρ 139=.slice (aT u4) (bm cc 4) (bm cc 4))∧(7 ∉ D→ρ 140=.agg (kC (fun q => if q=0 then u0 else if q=1 then u1 else if q=2 then u2 else if q=3 then u3 else u4) cc).toArray)∧(8 ∉ D→ρ 24=pT b)∧St W S (zl D 8 (aa b [.slice none 0 0,.slice none 0 0,.slice none 0 0,.slice none 0 0,.slice none 0 0] 86)++(zl D 2 (aa u0 (ii (fun _ => false) (bm cc 0)) 4)++(zl D 3 (aa u1 (ii (fun _ => false) (bm cc 1)) 4)++(zl D 4 (aa u2 (ii (fun _ => false) (bm cc 2)) 4)++(zl D 5 (aa u3 (ii (fun _ => false) (bm cc 3)) 4)++(zl D 6 (aa u4 (ii (fun _ => false) (bm cc 4)) 4)++([eI wb a c (X2++Ze),aa cb (dt v k5) 39,aa b6 [pT wb] 40,aA at_ ct 88 5 ts.length (bN ts),aa b21 [.slice aL g cL] 84,aa b22 [.slice aN g cN] 84,aA aL cL 91 5 g (es.map fe),aA aN cN 91 5 g (es.map fb),fE qs]))))))) w')∧ρ 134=iT (bm cc 0)∧ρ 5=pT cb∧ρ 6=pT b6∧ρ 19=.slice at_ ts.length ct∧ρ 20=iT (bm cc 0 - 280)∧ρ 21=pT b21∧ρ 22=pT b22∧ρ 23=iT g∧ρ 129=iT many∧ρ 130=iT g)
    (fun D ρ w' h => by obtain ⟨_,⟨u0,u1,u2,u3,u4,b,_,_,_,_,_,_,_,h⟩,_⟩:=h;exact h.frm) ?_ ?_ ?_
   ·exact ⟨δ,⟨0,0,0,0,0,0,fun h => absurd δ h,fun h => absurd δ h,fun h => absurd δ h,fun h => absurd δ h,fun h => absurd δ h,fun h => absurd δ h,fun h => absurd δ h,H⟩,O,r5,r6,r19,r20,r21,r22,O,r129,r130⟩
   ·clear H r5 r6 r19 r20 r21 r22 r129 r130
    rintro D j ρ w' hj hjD hpre hDn ⟨hall7,⟨u0,u1,u2,u3,u4,b,h2,h3,h4,h5,h6,h7,h8,H⟩,r134,r5,r6,r19,r20,r21,r22,r23,r129,r130⟩
    have ne:∀ {x y:Nat},x≠y→(x ∈ D.erase y ↔ x ∈ D):=fun hxy => List.mem_erase_of_ne hxy
    have hall7':∀ y,y≠7→∀ p ∈ [2,3,4,5,6],p ∈ D.erase y→7 ∈ D.erase y:=fun y hy p hp hpD => (List.mem_erase_of_ne (Ne.symm hy)).2 (hall7 p hp (List.mem_of_mem_erase hpD))
    simp only [List.mem_cons,List.not_mem_nil,or_false] at hj
    rcases hj with rfl | rfl | rfl | rfl | rfl | rfl | rfl
    ·refine qV O H yv (bm cc 0) (bm cc 0) r134 r134 O O (Nat.le_refl _) (by have:=(j1 hcc 0).2;omega) (by have:=(j1 hcc 0).2;omega) O ?_
     intro w2 bn _ _ H
     rw [dz,lp] at H
     rw [iy hjD,List.nil_append] at H
     have h7':7 ∈ D:=hall7 2 (by simp) hjD
     exact ⟨hall7' _ δ,⟨bn,u1,u2,u3,u4,b,fun _ => rfl,by rw [ne δ];exact h3,by rw [ne δ];exact h4,by rw [ne δ];exact h5,by rw [ne δ];exact h6,fun h => absurd ((ne δ).2 h7') h,by rw [ne δ];exact h8,by rw [cj δ,l8 hDn,cj δ,cj δ,cj δ,cj δ];exact H.perm List.perm_middle.symm⟩,r134,r5,r6,r19,r20,r21,r22,r23,r129,r130⟩
    ·refine qV O H yv (bm cc 1) (bm cc 1) O O O O (Nat.le_refl _) (by have:=(j1 hcc 1).2;omega) (by have:=(j1 hcc 1).2;omega) O ?_
     intro w2 bn _ _ H
     rw [dz,lp] at H
     rw [iy hjD,List.nil_append] at H
     have h7':7 ∈ D:=hall7 3 (by simp) hjD
     exact ⟨hall7' _ δ,⟨u0,bn,u2,u3,u4,b,by rw [ne δ];exact h2,fun _ => rfl,by rw [ne δ];exact h4,by rw [ne δ];exact h5,by rw [ne δ];exact h6,fun h => absurd ((ne δ).2 h7') h,by rw [ne δ];exact h8,by rw [cj δ,cj δ,l8 hDn,cj δ,cj δ,cj δ];exact H.perm (A4 _ _ _ _)⟩,r134,r5,r6,r19,r20,r21,r22,r23,r129,r130⟩
    ·refine qV O H yv (bm cc 2) (bm cc 2) O O O O (Nat.le_refl _) (by have:=(j1 hcc 2).2;omega) (by have:=(j1 hcc 2).2;omega) O ?_
     intro w2 bn _ _ H
     rw [dz,lp] at H
     rw [iy hjD,List.nil_append] at H
     have h7':7 ∈ D:=hall7 4 (by simp) hjD
     exact ⟨hall7' _ δ,⟨u0,u1,bn,u3,u4,b,by rw [ne δ];exact h2,by rw [ne δ];exact h3,fun _ => rfl,by rw [ne δ];exact h5,by rw [ne δ];exact h6,fun h => absurd ((ne δ).2 h7') h,by rw [ne δ];exact h8,by rw [cj δ,cj δ,cj δ,l8 hDn,cj δ,cj δ];exact H.perm (Gj _ _ _ _ _)⟩,r134,r5,r6,r19,r20,r21,r22,r23,r129,r130⟩
    ·refine qV O H yv (bm cc 3) (bm cc 3) O O O O (Nat.le_refl _) (by have:=(j1 hcc 3).2;omega) (by have:=(j1 hcc 3).2;omega) O ?_
     intro w2 bn _ _ H
     rw [dz,lp] at H
     rw [iy hjD,List.nil_append] at H
     have h7':7 ∈ D:=hall7 5 (by simp) hjD
     exact ⟨hall7' _ δ,⟨u0,u1,u2,bn,u4,b,by rw [ne δ];exact h2,by rw [ne δ];exact h3,by rw [ne δ];exact h4,fun _ => rfl,by rw [ne δ];exact h6,fun h => absurd ((ne δ).2 h7') h,by rw [ne δ];exact h8,by rw [cj δ,cj δ,cj δ,cj δ,l8 hDn,cj δ];exact H.perm (GB _ _ _ _ _ _)⟩,r134,r5,r6,r19,r20,r21,r22,r23,r129,r130⟩
    ·refine qV O H yv (bm cc 4) (bm cc 4) O O O O (Nat.le_refl _) (by have:=(j1 hcc 4).2;omega) (by have:=(j1 hcc 4).2;omega) O ?_
     intro w2 bn _ _ H
     rw [dz,lp] at H
     rw [iy hjD,List.nil_append] at H
     have h7':7 ∈ D:=hall7 6 (by simp) hjD
     exact ⟨hall7' _ δ,⟨u0,u1,u2,u3,bn,b,by rw [ne δ];exact h2,by rw [ne δ];exact h3,by rw [ne δ];exact h4,by rw [ne δ];exact h5,fun _ => rfl,fun h => absurd ((ne δ).2 h7') h,by rw [ne δ];exact h8,by rw [cj δ,cj δ,cj δ,cj δ,cj δ,l8 hDn];exact H.perm (F5 _ _ _ _ _ _ _)⟩,r134,r5,r6,r19,r20,r21,r22,r23,r129,r130⟩
    ·have r135:=h2 (hpre (7,[2,3,4,5,6]) (by simp) rfl 2 (by simp))
     have r136:=h3 (hpre (7,[2,3,4,5,6]) (by simp) rfl 3 (by simp))
     have r137:=h4 (hpre (7,[2,3,4,5,6]) (by simp) rfl 4 (by simp))
     have r138:=h5 (hpre (7,[2,3,4,5,6]) (by simp) rfl 5 (by simp))
     have r139:=h6 (hpre (7,[2,3,4,5,6]) (by simp) rfl 6 (by simp))
     refine pp O O (iF (ps:=[(0,.slice (aT u0) (bm cc 0) (bm cc 0)),(1,.slice (aT u1) (bm cc 1) (bm cc 1)),(2,.slice (aT u2) (bm cc 2) (bm cc 2)),(3,.slice (aT u3) (bm cc 3) (bm cc 3)),(4,.slice (aT u4) (bm cc 4) (bm cc 4))]) (kC (fun q => if q=0 then u0 else if q=1 then u1 else if q=2 then u2 else if q=3 then u3 else u4) cc) (by simp [ev,r135,r136,r137,r138,r139]) κ) ?_
     have hno:∀ p ∈ [2,3,4,5,6],p ∉ D.erase 7:=fun p hp hpD => hpre (7,[2,3,4,5,6]) (by simp) rfl p hp (List.mem_of_mem_erase hpD)
     exact ⟨fun p hp hpD => absurd hpD (hno p hp),⟨u0,u1,u2,u3,u4,b,by rw [ne δ];exact h2,by rw [ne δ];exact h3,by rw [ne δ];exact h4,by rw [ne δ];exact h5,by rw [ne δ];exact h6,fun _ => rfl,by rw [ne δ];exact h8,by rw [cj δ,cj δ,cj δ,cj δ,cj δ,cj δ];exact H⟩,r134,r5,r6,r19,r20,r21,r22,r23,r129,r130⟩
    ·rw [iy hjD,List.nil_append] at H
     refine wE O H KR O ?_
     intro w2 b2 _ _ H
     exact ⟨hall7' _ δ,⟨u0,u1,u2,u3,u4,b2,by rw [ne δ];exact h2,by rw [ne δ];exact h3,by rw [ne δ];exact h4,by rw [ne δ];exact h5,by rw [ne δ];exact h6,by rw [ne δ];exact h7,fun _ => rfl,by rw [l8 hDn,cj δ,cj δ,cj δ,cj δ,cj δ];exact H⟩,r134,r5,r6,r19,r20,r21,r22,r23,r129,r130⟩
   clear H r5 r6 r19 r20 r21 r22 r129 r130
   rintro ρ w10 ⟨_,⟨u0,u1,u2,u3,u4,b24,_,_,_,_,_,h7,h8,H⟩,r134,r5,r6,r19,r20,r21,r22,r23,r129,r130⟩
   have r24:=h8 (by simp)
   have r140:=h7 (by simp)
   rw [j5,j5,j5,j5,j5,j5] at H
   refine DU 9 O κ H 0 Kq r24 O r140 O O (by simp [kC,List.range_succ,Value.oneCell']) ?_
   intro w H
   simp only [List.cons_append,List.nil_append,List.set] at H
   refine g7 κ (tn ?_)
   refine ⟨fun q => if q=0 then u0 else if q=1 then u1 else if q=2 then u2 else if q=3 then u3 else u4,b24,r5,r6,r19,r20,r21,r22,r23,r24,r129,r130,?_⟩
   exact H.sub [1,2,3,4,5,0,6,7,8,9,10,11,12,13,14] O δ
  case refine_2 =>
  clear H r5 r6 r19 r20 r21 r22 r129 r130
  rintro ρ w10 ⟨ub,b24,r5,r6,r19,r20,r21,r22,r23,r24,r129,r130,H⟩
  refine Cs (Cy (bU r19 (bG D2 O (ai O (Lt ?_)))))
  obtain ⟨TT,hTT⟩:∃ TT,TT=[ub 0,ub 1,ub 2,ub 3,ub 4]:=⟨_,rfl⟩
  have hUS:∀ b ∈ TT,∃ r ∈ qN ub (fun _ _ => false) cc 0 5,b ∈ r.foot:=fun b hb => by
   rw [hTT] at hb
   simp only [List.mem_cons,List.not_mem_nil,or_false] at hb
   rcases hb with rfl | rfl | rfl | rfl | rfl <;> simp [qN,List.range',aa]
  have H0:=H
  have hnot:=H0.notIn hUS
  have hn24:b24 ∉ TT:=hnot (aa b24 (kC ub cc) 86) (List.mem_cons_self ..) b24 (by simp [aa])
  replace H:St w10 TT (qN ub (eY (ts.take 0) g) cc 0 5) w10:=by
   rw [Cz (v:=fun _ _ => false) (fun q s => by simp [eY])]
   exact H0.part TT (by rw [hTT];simp [qN,List.range',aa])
  refine aH (fun ρ w' => ρ 5=pT cb∧ρ 6=pT b6∧ρ 19=.slice at_ ts.length ct∧ρ 20=iT (bm cc 0 - 280)∧ρ 21=pT b21∧ρ 22=pT b22∧ρ 23=iT g∧ρ 24=pT b24∧ρ 129=iT many∧ρ 130=iT g∧St W S (qN ub (eY ts g) cc 0 5++(aa b24 (kC ub cc) 86 :: [eI wb a c (X2++Ze),aa cb (dt v k5) 39,aa b6 [pT wb] 40,aA at_ ct 88 5 ts.length (bN ts),aa b21 [.slice aL g cL] 84,aa b22 [.slice aN g cN] 84,aA aL cL 91 5 g (es.map fe),aA aN cN 91 5 g (es.map fb),fE qs])) w') ?_ ?_
  case refine_1 =>
   refine Cb ?_
   refine Cl (fun mm ρ w' => ∃ j,mm=ts.length - j∧j≤ts.length∧ρ 5=pT cb∧ρ 6=pT b6∧ρ 19=.slice at_ ts.length ct∧ρ 20=iT (bm cc 0 - 280)∧ρ 21=pT b21∧ρ 22=pT b22∧ρ 23=iT g∧ρ 24=pT b24∧ρ 129=iT many∧ρ 130=iT g∧ρ 141=.slice at_ ts.length ct∧ρ 142=iT ts.length∧ρ 143=iT j∧St w10 TT (qN ub (eY (ts.take j) g) cc 0 5) w') ts.length
    ⟨0,rfl,ω,r5,r6,r19,r20,r21,r22,r23,r24,r129,r130,rfl,rfl,rfl,H⟩ ?_
   clear H r5 r6 r19 r20 r21 r22 r23 r24 r129 r130
   rintro mm ρ w11 ⟨j,hmm2,hj,r5,r6,r19,r20,r21,r22,r23,r24,r129,r130,r141,r142,r143,H⟩
   refine Cy (bP r143 r142 (Lt ?_))
   by_cases hjlt:j<ts.length
   case neg =>
    obtain rfl:j=ts.length:=ω
    refine Cs (CF O ω (Cx (ax (ax (br (tn ?_))))))
    rw [List.take_length] at H
    exact ⟨r5,r6,r19,r20,r21,r22,r23,r24,r129,r130,H0.callee H hUS⟩
   obtain ⟨tb,htb,_⟩:=(H0.get (i:=9) rfl:bT _ _ _ _ _ _ _).cell ω
   have hVT:bT w10 at_ ct 88 5 ts.length (bN ts):=H0.get (i:=9) rfl
   have hntb:tb ∉ TT:=hnot (aA at_ ct 88 5 ts.length (bN ts)) (by simp) tb (by simp [aA,htb,bQ])
   rw [htb] at hVT r141
   obtain ⟨t,ht⟩:∃ t,t=ts[j]:=⟨_,rfl⟩
   have htg:ts[j]?=some t:=by rw [ht];exact List.getElem?_eq_getElem hjlt
   have htm:t ∈ ts:=List.mem_of_getElem? htg
   obtain ⟨hfit,i,hi,_,hok⟩:=hT.fits t htm
   have hcells:∀ i,i<5→w11.cell? ⟨tb,0+j * 5+i,none⟩=(t.1.cells t.2)[i]?:=fun i hi => by
    have h1:=wA hVT htg i hi
    have h2:=List.getElem?_eq_getElem (show i<(t.1.cells t.2).length by rw [dr];exact hi)
    rw [h2] at h1 ⊢
    exact H.frm.cell h1 hntb
   refine Cs (CT O ω (Ck (tn (Cs (Cb (Cy (Lp (gm j D2 r141 r143 O hjlt) (Lp (fH (cs:=t.1.cells t.2) wH O (dr _ _) hcells) (cE H CK O ?_)))))))))
   intro w b26 hn26 hb26 H
   refine dG (vs:=t.1.cells t.2) H 0 Cg O O O (dr _ _) (dr _ _) (tw _ _) ?_
   intro w H
   simp only [List.set] at H
   refine Lt (Cy (aU zH O (aC a_ O (H.cell 0 O (qz t.1 t.2)) (ai r23 (bF O O (Lt ?_))))))
   refine iC (fun ρ w' => ρ 5=pT cb∧ρ 6=pT b6∧ρ 19=.slice at_ ts.length ct∧ρ 20=iT (bm cc 0 - 280)∧ρ 21=pT b21∧ρ 22=pT b22∧ρ 23=iT g∧ρ 24=pT b24∧ρ 129=iT many∧ρ 130=iT g∧ρ 141=.slice at_ ts.length ct∧ρ 142=iT ts.length∧ρ 143=iT j∧St w10 TT (qN ub (eY (ts.take (j+1)) g) cc 0 5) w') ?_ ?_
   case refine_1 =>
    by_cases hgg:t.2=g
    case neg =>
     refine CF O ω (Ck (aF (tn ?_)))
     refine ⟨r5,r6,r19,r20,r21,r22,r23,r24,r129,r130,by rw [htb];exact r141,r142,r143,?_⟩
     rw [Cz (v:=eY (ts.take j) g) (fun q s => by rw [u_ htg];simp [hgg])]
     exact H.right (used:=[_])
    refine CT O ω (Cy (Lp (fH (cs:=t.1.cells t.2) wH O (dr _ _) (fun i hi => by rw [Nat.zero_add];exact (H.blk (i:=0) O).cell i)) (aS O Hf (vJ _ t.1 t.2 hfit) O ?_)))
    rintro e w ⟨he,hf⟩
    replace H:=H.quiet hf
    refine ⟨_,he,?_⟩
    refine ai O (Lt (Cb ?_))
    refine Cl (fun mm ρ w' => ∃ q,mm=5 - q∧q≤5∧ρ 5=pT cb∧ρ 6=pT b6∧ρ 19=.slice at_ ts.length ct∧ρ 20=iT (bm cc 0 - 280)∧ρ 21=pT b21∧ρ 22=pT b22∧ρ 23=iT g∧ρ 24=pT b24∧ρ 129=iT many∧ρ 130=iT g∧ρ 141=.slice at_ ts.length ct∧ρ 142=iT ts.length∧ρ 143=iT j∧ρ 152=.agg (lP t.1.five).toArray∧ρ 153=iT q ∧
     St w10 TT (aa b26 (t.1.cells t.2) 88 :: qN ub (fun q' s => eY (ts.take j) g q' s || (decide (q'<q) && t.1.syms.contains (q',s))) cc 0 5) w') 5
     ⟨0,rfl,ω,r5,r6,r19,r20,r21,r22,r23,r24,r129,r130,by rw [htb];exact r141,r142,r143,rfl,rfl,by
      rw [Cz (v:=eY (ts.take j) g) (fun q s => by simp)]
      exact H⟩ ?_
    clear H r5 r6 r19 r20 r21 r22 r23 r24 r129 r130 r141 r142 r143 hcells
    rintro mm ρ w12 ⟨q,hmm3,hq,r5,r6,r19,r20,r21,r22,r23,r24,r129,r130,r141,r142,r143,r152,r153,H⟩
    refine Cy (bP r153 O (Lt ?_))
    by_cases hq5:q<5
    case neg =>
     obtain rfl:q=5:=ω
     refine Cs (CF O ω (Cx (ax (ax (br (aF (tn ?_)))))))
     refine ⟨r5,r6,r19,r20,r21,r22,r23,r24,r129,r130,r141,r142,r143,?_⟩
     rw [Ea (v:=fun q' s => eY (ts.take j) g q' s || (decide (q'<5) && t.1.syms.contains (q',s))) (fun q' hq' s => by rw [u_ htg];simp [hgg,hq'])]
     exact H.right (used:=[_])
    refine Cs (CT O ω (Ck (tn (Cs (Cb ?_)))))
    rcases F3 t.1 hq5 with ⟨s,hs,hcon⟩ | ⟨hs,hcon⟩
    ·have hv:(lP t.1.five).toArray[q]?=some (.int .i64 (s:Int)):=by simp [lP,hs]
     have hsa:=(hok.sym (q:=q) (s:=s) (by rw [hcon];simp)).2
     refine Cy (ai r153 (Lp (Gt q F9 r152 r153 O hq5 hv) (az O (az O (Lt (Cy (ai O (Lp (jC (b:=true) O O (decide_eq_true ω)) (Lt ?_)))))))))
     refine Cp O ?_
     refine Cr (ai O (Lp (jB q Ju r24 O O hq5) (aC JG O (H.frm.cell (H0.cell 5 O (fq hq5)) hn24) (ai O (Lp (bO s rz O O O hsa) (ud H (q+1) lU O (Hm hq5 _) O (m_ hsa) ?_))))))
     intro w H
     rw [xH (v:=fun s' => eY (ts.take j) g q s' || (decide (q<q+1) && t.1.syms.contains (q,s'))) (fun s' _ => by rw [hcon];simp [Bool.or_comm]),HP (v:=fun q' s' => eY (ts.take j) g q' s' || (decide (q'<q+1) && t.1.syms.contains (q',s'))) hq5 _ (fun q' _ hne => funext fun s' => by
      have e1:decide (q'<q+1)=decide (q'<q):=by rw [decide_eq_decide];omega
      show (_ || (decide (q'<q+1) && _))=(_ || (decide (q'<q) && _))
      rw [e1])] at H
     refine Ln (aF (tn (Cr (ao r153 O (ck (b:=1) ω) (ai O (Lt ?_))))))
     exact ⟨5 - (q+1),ω,q+1,O,ω,r5,r6,r19,r20,r21,r22,r23,r24,r129,r130,r141,r142,r143,r152,O,H⟩
    ·have hv:(lP t.1.five).toArray[q]?=some (.int .i64 (-1)):=by simp [lP,hs]
     refine Cy (ai η (Lp (Gt q F9 r152 r153 O hq5 hv) (az O (az O (Lt (Cy (ai O (Lp (jC (b:=false) O O (decide_eq_false ω)) (Lt (Cq O (Ck (aF (tn (Cr (ao η O (ck (b:=1) ω) (ai O ?_))))))))))))))))
     refine Lt ?_
     refine ⟨5 - (q+1),ω,q+1,O,ω,r5,r6,r19,r20,r21,r22,r23,r24,r129,r130,r141,r142,r143,r152,O,?_⟩
     rw [Ea (v:=fun q' s => eY (ts.take j) g q' s || (decide (q'<q) && t.1.syms.contains (q',s))) (fun q' _ s' => by
      by_cases e:q'=q
      ·subst e
       show (eY (ts.take j) g q' s' || (decide (q'<q'+1) && t.1.syms.contains (q',s')))=(eY (ts.take j) g q' s' || (decide (q'<q') && t.1.syms.contains (q',s')))
       rw [hcon,Bool.and_false,Bool.and_false]
      ·have e1:decide (q'<q+1)=decide (q'<q):=by rw [decide_eq_decide];omega
       rw [e1])]
     exact H
   case refine_2 =>
   clear H r5 r6 r19 r20 r21 r22 r23 r24 r129 r130 r141 r142 r143
   rintro ρ w12 ⟨r5,r6,r19,r20,r21,r22,r23,r24,r129,r130,r141,r142,r143,H⟩
   refine Cr (ao r143 O (ck (b:=1) ω) (ai O (Lt ?_)))
   exact ⟨ts.length - (j+1),ω,j+1,O,ω,r5,r6,r19,r20,r21,r22,r23,r24,r129,r130,r141,r142,O,H⟩
  case refine_2 =>
  clear H H0 r5 r6 r19 r20 r21 r22 r23 r24 r129 r130 hnot hUS
  rintro ρ w11 ⟨r5,r6,r19,r20,r21,r22,r23,r24,r129,r130,H⟩
  refine Cy (cE H HO O ?_)
  intro w b29 hn29 hb29 H
  refine cE H HO O ?_
  intro w b30 hn30 hb30 H
  refine Lt ?_
  replace H:St W S ([aa b29 (gy ([].map fe)) 91,aa b30 (gy ([].map fb)) 91,aa b24 (kC ub cc) 86,eI wb a c (X2++Ze),aa cb (dt v k5) 39,aa b6 [pT wb] 40,aA at_ ct 88 5 ts.length (bN ts),aa b21 [.slice aL g cL] 84,aa b22 [.slice aN g cN] 84,aA aL cL 91 5 g (es.map fe),aA aN cN 91 5 g (es.map fb),fE qs]++qN ub (eY ts g) cc 0 (5 - 0)) w :=
   H.perm ((List.Perm.swap _ _ _).trans (List.Perm.cons _ (List.Perm.cons _ List.perm_append_comm)))
  refine Cs (Cy (ai O (Lt ?_)))
  refine aH (fun ρ w' => ∃ cur qs a c k6 Ze,cur.length=5∧(∀ e ∈ es++cur,(e.gl,e.ls) ∈ qs∧(e.gn,e.ns) ∈ qs)∧ma ts cc (es++cur) Ze∧k5≤k6∧k6≤k5+40000∧ρ 5=pT cb∧ρ 6=pT b6∧ρ 19=.slice at_ ts.length ct∧ρ 20=iT (bm cc 0 - 280)∧ρ 21=pT b21∧ρ 22=pT b22∧ρ 23=iT g∧ρ 24=pT b24∧ρ 129=iT many∧ρ 130=iT g∧ρ 29=pT b29∧ρ 30=pT b30 ∧
   St W S [aa b29 (gy (cur.map fe)) 91,aa b30 (gy (cur.map fb)) 91,aa b24 (kC ub cc) 86,eI wb a c (X2++Ze),aa cb (dt v k6) 39,aa b6 [pT wb] 40,aA at_ ct 88 5 ts.length (bN ts),aa b21 [.slice aL g cL] 84,aa b22 [.slice aN g cN] 84,aA aL cL 91 5 g (es.map fe),aA aN cN 91 5 g (es.map fb),fE qs] w') ?_ ?_
  case refine_1 =>
   refine Cb ?_
   refine Cl (fun mm ρ w' => ∃ q cur qs a c k6 Ze,mm=5 - q∧q≤5∧cur.length=q∧(∀ e ∈ es++cur,(e.gl,e.ls) ∈ qs∧(e.gn,e.ns) ∈ qs)∧ma ts cc (es++cur) Ze∧k5≤k6∧k6≤k5+8000 * q∧ρ 5=pT cb∧ρ 6=pT b6∧ρ 19=.slice at_ ts.length ct∧ρ 20=iT (bm cc 0 - 280)∧ρ 21=pT b21∧ρ 22=pT b22∧ρ 23=iT g∧ρ 24=pT b24∧ρ 129=iT many∧ρ 130=iT g∧ρ 29=pT b29∧ρ 30=pT b30∧ρ 166=iT q ∧
    St W S ([aa b29 (gy (cur.map fe)) 91,aa b30 (gy (cur.map fb)) 91,aa b24 (kC ub cc) 86,eI wb a c (X2++Ze),aa cb (dt v k6) 39,aa b6 [pT wb] 40,aA at_ ct 88 5 ts.length (bN ts),aa b21 [.slice aL g cL] 84,aa b22 [.slice aN g cN] 84,aA aL cL 91 5 g (es.map fe),aA aN cN 91 5 g (es.map fb),fE qs]++qN ub (eY ts g) cc q (5 - q)) w') 5
    ⟨0,[],qs,a,c,k5,Ze,rfl,ω,rfl,by simpa using hqs,by rw [List.append_nil];exact hEn,ω,ω,r5,r6,r19,r20,r21,r22,r23,r24,r129,r130,rfl,rfl,rfl,H⟩ ?_
   clear H r5 r6 r19 r20 r21 r22 r23 r24 r129 r130 hqs hEn
   rintro mm ρ w12 ⟨q,cur,qs,a,c,k6,Ze,hmm2,hq,hcl,hqs,hEn,hk13,hk14,r5,r6,r19,r20,r21,r22,r23,r24,r129,r130,r29,r30,r166,H⟩
   refine Cy (bP r166 O (Lt ?_))
   by_cases hq5:q<5
   case neg =>
    obtain rfl:q=5:=ω
    refine Cs (CF O ω (Cx (ax (ax (br (tn ?_))))))
    exact ⟨cur,qs,a,c,k6,Ze,hcl,hqs,hEn,ω,ω,r5,r6,r19,r20,r21,r22,r23,r24,r129,r130,r29,r30,H.left⟩
   rw [show 5 - q=(5 - (q+1))+1 by omega,Hg] at H
   have hal2:=j1 hcc q
   have hesl:(es++cur).length=5 * g+q:=by rw [List.length_append,hes,hcl]
   have hZel:=hEn.len
   rw [hesl] at hZel
   refine Cs (CT O ω (Ck (tn (Cs (Cb (Cy (ai r166 (az O (Lt ?_)))))))))
   have hql:(cur.map fe).length=q:=by rw [List.length_map,hcl]
   have hqn:(cur.map fb).length=q:=by rw [List.length_map,hcl]
   have e1:∀ v,(gy (cur.map fe)).set q v=gy (cur.map fe++[v]):=fun v => by
    have:=za (vs:=cur.map fe) ω v
    rwa [hql] at this
   have e2:∀ v,(gy (cur.map fb)).set q v=gy (cur.map fb++[v]):=fun v => by
    have:=za (vs:=cur.map fb) ω v
    rwa [hqn] at this
   refine VC.held ((fun w' => w'.cell? ⟨b6,0,none⟩=some (pT wb)∧w'.cell? ⟨b24,q,none⟩=some (.slice (some ⟨ub q,0,none⟩) (bm cc q) (bm cc q)))) aJ (by with_reducible repeat (first | refine fB ?_ | refine eP.blk ?_ | refine fy ?_ | refine dP ?_ | exact eP.done)) ?_
   intro w hsame
   replace H:=H.same hsame
   refine Ht 0 O κ κ κ O ⟨H.cell 5 O rfl,H.cell 2 O (fq hq5)⟩ (fun w hI => YI O) (Ht 1 O κ κ κ O ⟨H.cell 5 O rfl,H.cell 2 O (fq hq5)⟩ (fun w hI => YI O) (Ht 2 O κ κ κ O ⟨H.cell 5 O rfl,H.cell 2 O (fq hq5)⟩ (fun w hI => ef qj r6 hI.1) (Ht 3 O κ κ κ O ⟨H.cell 5 O rfl,H.cell 2 O (fq hq5)⟩ (fun w hI => YI O) (Ht 4 O κ κ κ O ⟨H.cell 5 O rfl,H.cell 2 O (fq hq5)⟩ (fun w hI => jB q Ju r24 O O hq5) (Ht 5 O κ κ κ O ⟨H.cell 5 O rfl,H.cell 2 O (fq hq5)⟩ (fun w hI => ef JG O hI.2) (Ht 6 O κ κ κ O ⟨H.cell 5 O rfl,H.cell 2 O (fq hq5)⟩ (fun w hI => YP r5) ?_))))))
   have H1:St W S ([aa (ub q) (ii (eY ts g q) (bm cc q)) 4,eI wb a c (X2++Ze),aa cb (dt v k6) 39]++([aa b29 (gy (cur.map fe)) 91,aa b30 (gy (cur.map fb)) 91,aa b24 (kC ub cc) 86,eI wb a c (X2++Ze),aa cb (dt v k6) 39,aa b6 [pT wb] 40,aA at_ ct 88 5 ts.length (bN ts),aa b21 [.slice aL g cL] 84,aa b22 [.slice aN g cN] 84,aA aL cL 91 5 g (es.map fe),aA aN cN 91 5 g (es.map fb),fE qs].eraseIdx 3 |>.eraseIdx 3)++qN ub (eY ts g) cc (q+1) (5 - (q+1))) w :=
    (H.perm List.perm_middle).subL [0,4,5,1,2,3,6,7,8,9,10,11,12] (l:=_ :: [aa b29 (gy (cur.map fe)) 91,aa b30 (gy (cur.map fb)) 91,aa b24 (kC ub cc) 86,eI wb a c (X2++Ze),aa cb (dt v k6) 39,aa b6 [pT wb] 40,aA at_ ct 88 5 ts.length (bN ts),aa b21 [.slice aL g cL] 84,aa b22 [.slice aN g cN] 84,aA aL cL 91 5 g (es.map fe),aA aN cN 91 5 g (es.map fb),fE qs]) rfl δ
   rw [List.append_assoc] at H1
   refine gA 7 O κ O Kk (HK w wb c a (X2++Ze) cb B k6 v (ub q) (bm cc q) (bm cc q) (eY ts g q) (H1.part _ Fj) hal2.1 ω (hw.keep H.frm hB) (fun b hb => by
    obtain ⟨r,hr,hbr⟩:=x5 (c:=c) (X:=X2++Ze) (k:=k6) (v:=v) (n:=bm cc q) (u:=eY ts g q) b hb
    exact H1.above hB hB0 r (List.mem_append_left _ hr) b hbr) ω (by rw [List.length_append];omega)) O ?_
   rintro e w ⟨gl,gn,ls,ns,t,a',c',Z1,k7,he,H2,hcode,hZ1,hZ1l,hk15,hk16⟩
   have H3:=H1.callee H2 x5
   rw [← List.append_assoc] at H3
   replace H:St W S ([aa b29 (gy (cur.map fe)) 91,aa b30 (gy (cur.map fb)) 91,aa b24 (kC ub cc) 86,eI wb a' c' (X2++Ze++Z1),aa cb (dt v k7) 39,aa b6 [pT wb] 40,aA at_ ct 88 5 ts.length (bN ts),aa b21 [.slice aL g cL] 84,aa b22 [.slice aN g cN] 84,aA aL cL 91 5 g (es.map fe),aA aN cN 91 5 g (es.map fb),fE qs,aa gl (nums .i64 ls) 3,aa gn (nums .i64 ns) 3]++qN ub (eY ts g) cc (q+1) (5 - (q+1))) w:=H3.subL [4,5,6,2,3,7,8,9,10,11,12,13,0,1] rfl δ
   refine ⟨_,he,⟨H.cell 5 O rfl,H.cell 2 O (fq hq5)⟩,?_⟩
   refine Ht 8 O κ κ κ O ⟨H.cell 5 O rfl,H.cell 2 O (fq hq5)⟩ (fun w hI => uq O) (Ht 9 O κ κ κ O ⟨H.cell 5 O rfl,H.cell 2 O (fq hq5)⟩ (fun w hI => qF O O) (Ht 10 O κ κ κ O ⟨H.cell 5 O rfl,H.cell 2 O (fq hq5)⟩ (fun w hI => qF O O) (Ht 11 O κ κ κ O ⟨H.cell 5 O rfl,H.cell 2 O (fq hq5)⟩ (fun w hI => jB q DP r29 O O hq5) (ph (v:=.slice (aT gl) (bm cc q) (bm cc q)) 12 O κ H 0 Jn O O O O (by rw [← hql];exact yw ω) ?_))))
   intro w hF H
   simp only [List.cons_append,List.nil_append,List.set] at H
   rw [e1] at H
   refine ⟨⟨H.cell 5 O rfl,H.cell 2 O (fq ω)⟩,?_⟩
   refine Ht 13 O κ κ κ O ⟨H.cell 5 O rfl,H.cell 2 O (fq hq5)⟩ (fun w hI => jB q DP r30 O O hq5) (ph (v:=.slice (aT gn) (bm cc q) (bm cc q)) 14 O κ H 1 Jn O O O O (by rw [← hqn];exact yw ω) ?_)
   intro w hF H
   simp only [List.cons_append,List.nil_append,List.set] at H
   refine ⟨⟨H.cell 5 O rfl,H.cell 2 O (fq ω)⟩,?_⟩
   refine g7 κ (aF (tn ?_))
   rw [e2] at H
   have H4:St W S (aa gl (nums .i64 ls) 3 :: aa gn (nums .i64 ns) 3 :: fE qs :: ([aa b29 (gy (cur.map fe++[.slice (aT gl) (bm cc q) (bm cc q)])) 91,aa b30 (gy (cur.map fb++[.slice (aT gn) (bm cc q) (bm cc q)])) 91,aa b24 (kC ub cc) 86,eI wb a' c' (X2++Ze++Z1),aa cb (dt v k7) 39,aa b6 [pT wb] 40,aA at_ ct 88 5 ts.length (bN ts),aa b21 [.slice aL g cL] 84,aa b22 [.slice aN g cN] 84,aA aL cL 91 5 g (es.map fe),aA aN cN 91 5 g (es.map fb)]++qN ub (eY ts g) cc (q+1) (5 - (q+1)))) w :=
    H.subL (l:=[aa b29 (gy (cur.map fe++[.slice (aT gl) (bm cc q) (bm cc q)])) 91,aa b30 (gy (cur.map fb++[.slice (aT gn) (bm cc q) (bm cc q)])) 91,aa b24 (kC ub cc) 86,eI wb a' c' (X2++Ze++Z1),aa cb (dt v k7) 39,aa b6 [pT wb] 40,aA at_ ct 88 5 ts.length (bN ts),aa b21 [.slice aL g cL] 84,aa b22 [.slice aN g cN] 84,aA aL cL 91 5 g (es.map fe),aA aN cN 91 5 g (es.map fb),fE qs,aa gl (nums .i64 ls) 3,aa gn (nums .i64 ns) 3]) (l':=aa gl (nums .i64 ls) 3 :: aa gn (nums .i64 ns) 3 :: fE qs :: [aa b29 (gy (cur.map fe++[.slice (aT gl) (bm cc q) (bm cc q)])) 91,aa b30 (gy (cur.map fb++[.slice (aT gn) (bm cc q) (bm cc q)])) 91,aa b24 (kC ub cc) 86,eI wb a' c' (X2++Ze++Z1),aa cb (dt v k7) 39,aa b6 [pT wb] 40,aA at_ ct 88 5 ts.length (bN ts),aa b21 [.slice aL g cL] 84,aa b22 [.slice aN g cN] 84,aA aL cL 91 5 g (es.map fe),aA aN cN 91 5 g (es.map fb)]) [12,13,11,0,1,2,3,4,5,6,7,8,9,10] rfl δ
   have H5:=H4.rows2.subL (l:=fE ((gl,ls) :: (gn,ns) :: qs) :: [aa b29 (gy (cur.map fe++[.slice (aT gl) (bm cc q) (bm cc q)])) 91,aa b30 (gy (cur.map fb++[.slice (aT gn) (bm cc q) (bm cc q)])) 91,aa b24 (kC ub cc) 86,eI wb a' c' (X2++Ze++Z1),aa cb (dt v k7) 39,aa b6 [pT wb] 40,aA at_ ct 88 5 ts.length (bN ts),aa b21 [.slice aL g cL] 84,aa b22 [.slice aN g cN] 84,aA aL cL 91 5 g (es.map fe),aA aN cN 91 5 g (es.map fb)]) (l':=[aa b29 (gy (cur.map fe++[.slice (aT gl) (bm cc q) (bm cc q)])) 91,aa b30 (gy (cur.map fb++[.slice (aT gn) (bm cc q) (bm cc q)])) 91,aa b24 (kC ub cc) 86,eI wb a' c' (X2++Ze++Z1),aa cb (dt v k7) 39,aa b6 [pT wb] 40,aA at_ ct 88 5 ts.length (bN ts),aa b21 [.slice aL g cL] 84,aa b22 [.slice aN g cN] 84,aA aL cL 91 5 g (es.map fe),aA aN cN 91 5 g (es.map fb),fE ((gl,ls) :: (gn,ns) :: qs)]) [1,2,3,4,5,6,7,8,9,10,11,0] rfl δ
   clear H H4
   obtain ⟨e,he'⟩:∃ e:En,e=⟨ls,ns,t,gl,gn⟩:=⟨_,rfl⟩
   have el:fe e=.slice (aT gl) (bm cc q) (bm cc q):=by rw [he'];unfold fe;rw [hcode.lens]
   have en:fb e=.slice (aT gn) (bm cc q) (bm cc q):=by rw [he'];unfold fb;rw [hcode.nums]
   rw [← el,← en,show [fe e]=[e].map fe from rfl,show [fb e]=[e].map fb from rfl,← List.map_append,← List.map_append,List.append_assoc] at H5
   have hEn2:ma ts cc (es++(cur++[e])) (Ze++Z1):=by
    rw [← List.append_assoc]
    refine hEn.snoc ?_ ?_ hZ1l
    ·rw [hesl,show (5 * g+q) / 5=g by omega,show (5 * g+q) % 5=q by omega,he']
     exact hcode
    ·rw [hesl,show (5 * g+q) % 5=q by omega,he']
     exact hZ1
   refine Cr (ao r166 O (ck (b:=1) ω) (ai O (Lt ?_)))
   refine ⟨5 - (q+1),ω,q+1,cur++[e],(gl,ls) :: (gn,ns) :: qs,a',c',k7,Ze++Z1,O,ω,by rw [List.length_append,hcl];rfl,fun x hx => ?_,hEn2,ω,ω,r5,r6,r19,r20,r21,r22,r23,r24,r129,r130,r29,r30,O,H5⟩
   rw [← List.append_assoc] at hx
   rcases List.mem_append.1 hx with hx | hx
   ·have:=hqs x hx
    exact ⟨List.mem_cons_of_mem _ (List.mem_cons_of_mem _ this.1),List.mem_cons_of_mem _ (List.mem_cons_of_mem _ this.2)⟩
   ·rw [List.mem_singleton] at hx
    subst hx
    rw [he']
    exact ⟨List.mem_cons_self ..,List.mem_cons_of_mem _ (List.mem_cons_self ..)⟩
  case refine_2 =>
  clear H r5 r6 r19 r20 r21 r22 r23 r24 r129 r130 hqs hEn
  rintro ρ w12 ⟨cur,qs,a,c,k6,Ze,hcl,hqs,hEn,hk13,hk14,r5,r6,r19,r20,r21,r22,r23,r24,r129,r130,r29,r30,H⟩
  obtain ⟨e0,e1,e2,e3,e4,rfl⟩:∃ e0 e1 e2 e3 e4,cur=[e0,e1,e2,e3,e4]:=by
   match cur,hcl with
   | [e0,e1,e2,e3,e4],_ => exact ⟨e0,e1,e2,e3,e4,rfl⟩
  have hg3:g+1≤3:=ω
  replace H:St W S [aA aL cL 91 5 g (es.map fe),aA aN cN 91 5 g (es.map fb),aa b21 [.slice aL g cL] 84,aa b22 [.slice aN g cN] 84,aa b29 ([e0,e1,e2,e3,e4].map fe) 91,aa b30 ([e0,e1,e2,e3,e4].map fb) 91,eI wb a c (X2++Ze),aa cb (dt v k6) 39,aa b6 [pT wb] 40,aA at_ ct 88 5 ts.length (bN ts),fE qs] w12:=by
   rw [y_ (by rfl),y_ (by rfl)] at H
   exact H.sub [9,10,7,8,0,1,3,4,5,6,11] O δ
  refine iC (fun ρ w' => ∃ aL' cL' aN' cN',ρ 5=pT cb∧ρ 6=pT b6∧ρ 19=.slice at_ ts.length ct∧ρ 20=iT (bm cc 0 - 280)∧ρ 21=pT b21∧ρ 22=pT b22∧ρ 129=iT many∧ρ 130=iT g∧St W S [aA aL' cL' 91 5 (g+1) (es.map fe++[e0,e1,e2,e3,e4].map fe),aA aN' cN' 91 5 (g+1) (es.map fb++[e0,e1,e2,e3,e4].map fb),aa b21 [.slice aL' (g+1) cL'] 84,aa b22 [.slice aN' (g+1) cN'] 84,aa b29 ([e0,e1,e2,e3,e4].map fe) 91,aa b30 ([e0,e1,e2,e3,e4].map fb) 91,eI wb a c (X2++Ze),aa cb (dt v k6) 39,aa b6 [pT wb] 40,aA at_ ct 88 5 ts.length (bN ts),fE qs] w') ?_ ?_
  case refine_1 =>
   refine VC.held ((fun _ => True)) aJ (by with_reducible repeat (first | refine fB ?_ | refine eP.blk ?_ | refine fy ?_ | refine dP ?_ | exact eP.done)) ?_
   intro w hsame
   replace H:=H.same hsame
   refine oE [] [0,1,2,3,4,5,6,7] [(2,[1]),(3,[0,2]),(6,[5]),(7,[4,6])] 8 O κ δ κ
    (fun D ρ w' => (∃ p2 p6 aL' cL' aN' cN',(0 ∉ D→ρ 183=.slice aL g cL)∧(1 ∉ D→ρ 184=.agg ([e0,e1,e2,e3,e4].map fe).toArray)∧(2 ∉ D→ρ 185=.slice (aT p2) 1 1)∧(3 ∉ D→ρ 186=.slice aL' (g+1) cL')∧(4 ∉ D→ρ 187=.slice aN g cN)∧(5 ∉ D→ρ 188=.agg ([e0,e1,e2,e3,e4].map fb).toArray)∧(6 ∉ D→ρ 189=.slice (aT p6) 1 1)∧(7 ∉ D→ρ 190=.slice aN' (g+1) cN')∧(3 ∉ D→2 ∉ D)∧(7 ∉ D→6 ∉ D)∧St W S ([If D 3 (aA aL cL 91 5 g (es.map fe)) (aA aL' cL' 91 5 (g+1) (es.map fe++[e0,e1,e2,e3,e4].map fe)),If D 7 (aA aN cN 91 5 g (es.map fb)) (aA aN' cN' 91 5 (g+1) (es.map fb++[e0,e1,e2,e3,e4].map fb)),aa b21 [.slice aL g cL] 84,aa b22 [.slice aN g cN] 84,aa b29 ([e0,e1,e2,e3,e4].map fe) 91,aa b30 ([e0,e1,e2,e3,e4].map fb) 91,eI wb a c (X2++Ze),aa cb (dt v k6) 39,aa b6 [pT wb] 40,aA at_ ct 88 5 ts.length (bN ts),fE qs]++(zl D 2 (aa p2 ([e0,e1,e2,e3,e4].map fe) 91)++zl D 6 (aa p6 ([e0,e1,e2,e3,e4].map fb) 91))) w')∧ρ 5=pT cb∧ρ 6=pT b6∧ρ 19=.slice at_ ts.length ct∧ρ 20=iT (bm cc 0 - 280)∧ρ 21=pT b21∧ρ 22=pT b22∧ρ 29=pT b29∧ρ 30=pT b30∧ρ 129=iT many∧ρ 130=iT g) (fun _ _ _ _ => trivial) ?_ ?_ ?_
   ·exact ⟨⟨0,0,none,0,none,0,fun h => absurd δ h,fun h => absurd δ h,fun h => absurd δ h,fun h => absurd δ h,fun h => absurd δ h,fun h => absurd δ h,fun h => absurd δ h,fun h => absurd δ h,fun h => absurd δ h,fun h => absurd δ h,H⟩,r5,r6,r19,r20,r21,r22,r29,r30,r129,r130⟩
   ·clear H r5 r6 r19 r20 r21 r22 r29 r30 r129 r130 r23 r24
    rintro D j ρ w' hj hjD hpre hDn ⟨⟨p2,p6,aL',cL',aN',cN',f0,f1,f2,f3,f4,f5,f6,f7,m3,m7,H⟩,r5,r6,r19,r20,r21,r22,r29,r30,r129,r130⟩
    have ne:∀ {x y:Nat},x≠y→(x ∈ D.erase y ↔ x ∈ D):=fun hxy => List.mem_erase_of_ne hxy
    simp only [List.mem_cons,List.not_mem_nil,or_false] at hj
    rcases hj with rfl | rfl | rfl | rfl | rfl | rfl | rfl | rfl
    ·refine pp O O (ef El r21 (H.cell 2 O O)) ?_
     exact ⟨⟨p2,p6,aL',cL',aN',cN',fun _ => rfl,by rw [ne δ];exact f1,by rw [ne δ];exact f2,by rw [ne δ];exact f3,by rw [ne δ];exact f4,by rw [ne δ];exact f5,by rw [ne δ];exact f6,by rw [ne δ];exact f7,by rw [ne δ,ne δ];exact m3,by rw [ne δ,ne δ];exact m7,by rw [iW δ,iW δ,cj δ,cj δ];exact H⟩,r5,r6,r19,r20,r21,r22,r29,r30,r129,r130⟩
    ·refine pp O O (fH (cs:=[e0,e1,e2,e3,e4].map fe) HI r29 O (fun j hj => by rw [Nat.zero_add];exact (H.blk (i:=4) O).cell j)) ?_
     exact ⟨⟨p2,p6,aL',cL',aN',cN',by rw [ne δ];exact f0,fun _ => rfl,by rw [ne δ];exact f2,by rw [ne δ];exact f3,by rw [ne δ];exact f4,by rw [ne δ];exact f5,by rw [ne δ];exact f6,by rw [ne δ];exact f7,by rw [ne δ,ne δ];exact m3,by rw [ne δ,ne δ];exact m7,by rw [iW δ,iW δ,cj δ,cj δ];exact H⟩,r5,r6,r19,r20,r21,r22,r29,r30,r129,r130⟩
    ·have r184:=f1 (hpre (2,[1]) (by simp) rfl 1 (by simp))
     rw [iy hjD,List.nil_append] at H
     refine qK O H Es ([e0,e1,e2,e3,e4].map fe) O (ps:=[(0,.agg ([e0,e1,e2,e3,e4].map fe).toArray)]) (by simp [ev,r184]) δ δ κ ?_
     intro w2 q2 _ hF2 H
     exact ⟨⟨q2,p6,aL',cL',aN',cN',by rw [ne δ];exact f0,by rw [ne δ];exact f1,fun _ => rfl,by rw [ne δ];exact f3,by rw [ne δ];exact f4,by rw [ne δ];exact f5,by rw [ne δ];exact f6,by rw [ne δ];exact f7,fun _ => hDn.not_mem_erase,by rw [ne δ,ne δ];exact m7,by rw [iW δ,iW δ,l8 hDn,cj δ];exact H.perm List.perm_middle.symm⟩,r5,r6,r19,r20,r21,r22,r29,r30,r129,r130⟩
    ·have r183:=f0 (hpre (3,[0,2]) (by simp) rfl 0 (by simp))
     have h2n:=hpre (3,[0,2]) (by simp) rfl 2 (by simp)
     have r185:=f2 h2n
     have hb2:ff w' p2 ([e0,e1,e2,e3,e4].map fe) 91:=H.has (aa p2 ([e0,e1,e2,e3,e4].map fe) 91) (by rw [vY h2n];simp)
     rw [my hjD] at H
     refine rn O H 0 Es δ O r183 O r185 (news:=[e0,e1,e2,e3,e4].map fe) O (fun j u hj => by rw [Nat.zero_add];exact hb2.cellv hj) (Hr _) (by simp only [maxLen];omega) ω ?_
     intro a2 c2 w2 _ H
     simp only [List.cons_append,List.nil_append,List.set] at H
     exact ⟨⟨p2,p6,a2,c2,aN',cN',by rw [ne δ];exact f0,by rw [ne δ];exact f1,by rw [ne δ];exact f2,fun _ => rfl,by rw [ne δ];exact f4,by rw [ne δ];exact f5,by rw [ne δ];exact f6,by rw [ne δ];exact f7,fun _ => by rw [ne δ];exact h2n,by rw [ne δ,ne δ];exact m7,by rw [Cc hDn,iW δ,cj δ,cj δ];exact H⟩,r5,r6,r19,r20,r21,r22,r29,r30,r129,r130⟩
    ·refine pp O O (ef El r22 (H.cell 3 O O)) ?_
     exact ⟨⟨p2,p6,aL',cL',aN',cN',by rw [ne δ];exact f0,by rw [ne δ];exact f1,by rw [ne δ];exact f2,by rw [ne δ];exact f3,fun _ => rfl,by rw [ne δ];exact f5,by rw [ne δ];exact f6,by rw [ne δ];exact f7,by rw [ne δ,ne δ];exact m3,by rw [ne δ,ne δ];exact m7,by rw [iW δ,iW δ,cj δ,cj δ];exact H⟩,r5,r6,r19,r20,r21,r22,r29,r30,r129,r130⟩
    ·refine pp O O (fH (cs:=[e0,e1,e2,e3,e4].map fb) HI r30 O (fun j hj => by rw [Nat.zero_add];exact (H.blk (i:=5) O).cell j)) ?_
     exact ⟨⟨p2,p6,aL',cL',aN',cN',by rw [ne δ];exact f0,by rw [ne δ];exact f1,by rw [ne δ];exact f2,by rw [ne δ];exact f3,by rw [ne δ];exact f4,fun _ => rfl,by rw [ne δ];exact f6,by rw [ne δ];exact f7,by rw [ne δ,ne δ];exact m3,by rw [ne δ,ne δ];exact m7,by rw [iW δ,iW δ,cj δ,cj δ];exact H⟩,r5,r6,r19,r20,r21,r22,r29,r30,r129,r130⟩
    ·have r188:=f5 (hpre (6,[5]) (by simp) rfl 5 (by simp))
     rw [iy hjD] at H
     refine qK O H Es ([e0,e1,e2,e3,e4].map fb) O (ps:=[(0,.agg ([e0,e1,e2,e3,e4].map fb).toArray)]) (by simp [ev,r188]) δ δ κ ?_
     intro w2 q6 _ hF2 H
     exact ⟨⟨p2,q6,aL',cL',aN',cN',by rw [ne δ];exact f0,by rw [ne δ];exact f1,by rw [ne δ];exact f2,by rw [ne δ];exact f3,by rw [ne δ];exact f4,by rw [ne δ];exact f5,fun _ => rfl,by rw [ne δ];exact f7,by rw [ne δ,ne δ];exact m3,fun _ => hDn.not_mem_erase,by rw [iW δ,iW δ,cj δ,l8 hDn];exact H.perm (A4 _ _ _ _)⟩,r5,r6,r19,r20,r21,r22,r29,r30,r129,r130⟩
    ·have r187:=f4 (hpre (7,[4,6]) (by simp) rfl 4 (by simp))
     have h6n:=hpre (7,[4,6]) (by simp) rfl 6 (by simp)
     have r189:=f6 h6n
     have hb6:ff w' p6 ([e0,e1,e2,e3,e4].map fb) 91:=H.has (aa p6 ([e0,e1,e2,e3,e4].map fb) 91) (by rw [vY h6n];simp)
     rw [my hjD] at H
     refine rn O H 1 Es δ O r187 O r189 (news:=[e0,e1,e2,e3,e4].map fb) O (fun j u hj => by rw [Nat.zero_add];exact hb6.cellv hj) (GZ _) (by simp only [maxLen];omega) ω ?_
     intro a2 c2 w2 _ H
     simp only [List.cons_append,List.nil_append,List.set] at H
     exact ⟨⟨p2,p6,aL',cL',a2,c2,by rw [ne δ];exact f0,by rw [ne δ];exact f1,by rw [ne δ];exact f2,by rw [ne δ];exact f3,by rw [ne δ];exact f4,by rw [ne δ];exact f5,by rw [ne δ];exact f6,fun _ => rfl,by rw [ne δ,ne δ];exact m3,fun _ => by rw [ne δ];exact h6n,by rw [iW δ,Cc hDn,cj δ,cj δ];exact H⟩,r5,r6,r19,r20,r21,r22,r29,r30,r129,r130⟩
   clear H r5 r6 r19 r20 r21 r22 r29 r30 r129 r130 r23 r24
   rintro ρ w13 ⟨⟨p2,p6,aL',cL',aN',cN',_,_,_,f3,_,_,_,f7,_,_,H⟩,r5,r6,r19,r20,r21,r22,r29,r30,r129,r130⟩
   have r186:=f3 (by simp)
   have r190:=f7 (by simp)
   rw [At,At,j5,j5] at H
   refine ph 8 O κ H 2 Js r21 O r186 O O ?_
   intro w hF H
   simp only [List.cons_append,List.nil_append,List.set] at H
   refine ⟨trivial,?_⟩
   refine ph 9 O κ H 3 Js r22 O r190 O O ?_
   intro w hF H
   simp only [List.cons_append,List.nil_append,List.set] at H
   refine ⟨trivial,?_⟩
   refine g7 κ (aF (tn ?_))
   exact ⟨aL',cL',aN',cN',r5,r6,r19,r20,r21,r22,r129,r130,H.sub [0,1,2,3,4,5,6,7,8,9,10] O δ⟩
  case refine_2 =>
  clear H r5 r6 r19 r20 r21 r22 r29 r30 r129 r130 r23 r24
  rintro ρ w13 ⟨aL',cL',aN',cN',r5,r6,r19,r20,r21,r22,r129,r130,H⟩
  refine Cr (ao r130 O (ck (b:=1) ω) (ai O (Lt ?_)))
  refine ⟨many - (g+1),ω,g+1,es++[e0,e1,e2,e3,e4],qs,aL',cL',aN',cN',a,c,k6,Ze,O,ω,by rw [List.length_append,hes];rfl,hqs,hEn,ω,ω,r5,r6,r19,r20,r21,r22,r129,O,?_⟩
  rw [List.map_append,List.map_append]
  exact H.sub [6,7,8,9,2,3,0,1,10] O δ
 case refine_2 =>
 clear H r5 r6 r14 r19 r20
 rintro ρ w9 ⟨es,qs,aL,cL,aN,cN,a5,c5,k5,Ze,hes,hqs,hEn,hk11,hk12,r5,r6,r19,r20,r21,r22,H⟩
 obtain ⟨vl,rfl,_⟩:=(H.get (i:=6) rfl:bT _ _ _ _ _ _ _).cell ω
 obtain ⟨vn,rfl,_⟩:=(H.get (i:=7) rfl:bT _ _ _ _ _ _ _).cell ω
 have hZel:=hEn.len
 rw [hes] at hZel
 have hb15:∀ g q s,(kL es g q s).length≤15:=fun g q s => Ca hEn g q s
 refine Cy (bU r19 (bG D2 O (ai O (Lt (Cb ?_)))))
 refine Cl (fun mm ρ w' => ∃ j a c,mm=ts.length - j∧j≤ts.length∧ρ 6=pT b6∧ρ 21=pT b21∧ρ 22=pT b22∧ρ 192=.slice at_ ts.length ct∧ρ 193=iT ts.length∧ρ 194=iT j ∧
  St W S [eI wb a c (X2++Ze++i_ (kL es) (ts.take j)),aa cb (dt v k5) 39,aa b6 [pT wb] 40,aA at_ ct 88 5 ts.length (bN ts),aa b21 [.slice (aT vl) many cL] 84,aa b22 [.slice (aT vn) many cN] 84,aA (aT vl) cL 91 5 many (es.map fe),aA (aT vn) cN 91 5 many (es.map fb),fE qs] w') ts.length
  ⟨0,a5,c5,rfl,ω,r6,r21,r22,rfl,rfl,rfl,by
   rw [List.take_zero,show i_ (kL es) []=[] from rfl,List.append_nil]
   exact H⟩ ?_
 clear H r5 r6 r19 r20 r21 r22
 rintro mm ρ w10 ⟨j,a6,c6,hmm,hj,r6,r21,r22,r192,r193,r194,H⟩
 have htb:=vz hb15 (ts.take j) fun t ht => (hT.fits t (List.mem_of_mem_take ht)).1
 have htk:(ts.take j).length≤4096:=by rw [List.length_take];omega
 have hXX:(X2++Ze++i_ (kL es) (ts.take j)).length≤X.length+2000000:=by
  rw [List.length_append,List.length_append]
  omega
 refine Cy (bP r194 r193 (Lt ?_))
 by_cases hjlt:j<ts.length
 case neg =>
  obtain rfl:j=ts.length:=ω
  refine Cs (CF O ω (Cx (ax (ax (br ?_)))))
  rw [List.take_length] at H htb htk
  have hmt:main=false→hpx=[]:=fun hm => by
   subst hm
   have:=hZm []
   simp [tj,ret] at this
   exact this.1.2
  refine lu O ⟨a6,c6,Zc++(Zm++(Ze++i_ (kL es) ts)),k5,O,?_,?_,?_,ω,?_⟩
  ·have H2:=H.sub [0,1] (l':=[eI wb a6 c6 (X2++Ze++i_ (kL es) ts),aa cb (dt v k5) 39]) rfl δ
   rw [hX2e,hX1e] at H2
   simpa only [List.append_assoc] using H2
  ·exact yc hZc hZm hEn (by rw [hes,hmg]) hpl h32 hT (fun t ht => by have:=hgts t ht;omega)
  ·unfold DN
   simp only [List.length_append]
   split
   ·omega
   ·rename_i hmf
    have hf:main=false:=by simpa using hmf
    have h1:=hmt hf
    have h2:=(hZm0 hf).1
    subst h2
    rw [h1] at hmg
    have:many=1:=by rw [← hmg];rfl
    simp only [List.length_nil]
    omega
  ·unfold E3
   split
   ·omega
   ·rename_i hmf
    have hf:main=false:=by simpa using hmf
    have h1:=hmt hf
    have h2:=(hZm0 hf).2
    rw [h1] at hmg
    have:many=1:=by rw [← hmg];rfl
    have:=hk6 hf
    omega
 obtain ⟨tb,htbe,_⟩:=(H.get (i:=3) rfl:bT _ _ _ _ _ _ _).cell ω
 obtain ⟨tg,htgd⟩:∃ t,t=ts[j]:=⟨_,rfl⟩
 have htg:ts[j]?=some tg:=by rw [htgd];exact List.getElem?_eq_getElem hjlt
 have htm:tg ∈ ts:=List.mem_of_getElem? htg
 obtain ⟨hfit,i,hi,_,hok⟩:=hT.fits tg htm
 have hgm:=hgts tg htm
 clear htgd
 obtain ⟨tk,g⟩:=tg
 have hcells:∀ i,i<5→w10.cell? ⟨tb,0+j * 5+i,none⟩=(tk.cells g)[i]?:=by
  have hVT:bT w10 at_ ct 88 5 ts.length (bN ts):=H.get (i:=3) rfl
  rw [htbe] at hVT
  exact wA hVT htg
 refine Cs (CT O ω (Ck (tn (Cs (Cb (Cy (Lp (gm j D2 (by rw [← show _=some _ from htbe];exact r192) r194 O hjlt) (Lp (fH (cs:=tk.cells g) wH O (dr _ _) hcells) (cE H CK O ?_)))))))))
 intro w b33 hn33 hb33 H
 refine dG (vs:=tk.cells g) H 0 Cg O O O (dr _ _) (dr _ _) (tw _ _) ?_
 intro w H
 simp only [List.set] at H
 refine Lt (Cy (Lp (fH (cs:=tk.cells g) wH O (dr _ _) (fun i hi => by rw [Nat.zero_add];exact (H.blk (i:=0) O).cell i)) (aS O Hf (vJ _ tk g hfit) O ?_)))
 rintro e w ⟨he,hf⟩
 replace H:=H.quiet hf
 refine ⟨_,he,?_⟩
 refine cE H zX O ?_
 intro w b34 hn34 hb34 H
 refine dG (vs:=lP tk.five) H 0 An O O O (by cases tk <;> rfl) (by cases tk <;> rfl) (by intro u hu;obtain ⟨i,_,rfl⟩:=List.mem_map.1 hu;rfl) ?_
 intro w H
 simp only [List.set] at H
 refine Lt (Cy (Lp (Ka (vc:=pT b33) (vx:=pT b34) r6 r22 O O r21) (bI O (Lt ?_))))
 refine iC (fun ρ w' => ∃ a c,ρ 6=pT b6∧ρ 21=pT b21∧ρ 22=pT b22∧ρ 192=.slice at_ ts.length ct∧ρ 193=iT ts.length∧ρ 194=iT j∧St W S [eI wb a c (X2++Ze++i_ (kL es) (ts.take (j+1))),aa cb (dt v k5) 39,aa b6 [pT wb] 40,aA at_ ct 88 5 ts.length (bN ts),aa b21 [.slice (aT vl) many cL] 84,aa b22 [.slice (aT vn) many cN] 84,aA (aT vl) cL 91 5 many (es.map fe),aA (aT vn) cN 91 5 many (es.map fb),fE qs] w') ?_ ?_
 case refine_1 =>
  cases tk with
  | lit p =>
   have l0:=hb15 g 0 (pG p)
   have l1:=hb15 g 1 (pR p)
   have l2:=hb15 g 2 (pB p)
   refine Cy (db O (lF H hes hqs hEn hgm 0 (pG p) O (by simp [Tk.syms]) hok (by simp only [List.length_append,kZ];omega) O O O ?_))
   intro w a7 c7 H
   refine Lt (Cb (Cy (aU j3 O (aC a_ O (H.cell 1 (v:=iT 0) O O) (Lp (e9 O O) (cU O (Lt (CF O ω (Cy (aU qX O (aC a_ O (H.cell 1 (v:=.int .i64 (-1)) O O) (bP O O (cU O (Lt ?_))))))))))))))
   refine CT O ω (Cy (db O (lF H hes hqs hEn hgm 1 (pR p) O (by simp [Tk.syms]) hok (by simp only [List.length_append,kZ];omega) O O O ?_)))
   intro w a8 c8 H
   refine Lt (Cy (db O (lF H hes hqs hEn hgm 2 (pB p) O (by simp [Tk.syms]) hok (by simp only [List.length_append,kZ];omega) O O O ?_)))
   intro w a9 c9 H
   refine Lt (Cr (db O (lF H hes hqs hEn hgm 3 (pA p) O (by simp [Tk.syms]) hok (by simp only [List.length_append,kZ];omega) O O O ?_)))
   intro w a10 c10 H
   refine Ln (aF (aF (tn ?_)))
   refine ⟨a10,c10,r6,r21,r22,r192,r193,r194,?_⟩
   rw [oP htg]
   simp only [List.append_assoc] at H
   simp only [Tk.bits,List.append_assoc]
   exact H.sub [2,3,4,5,6,7,8,9,10] O δ
  | hit p k =>
   refine Cy (db O (lF H hes hqs hEn hgm 0 (280+k) O (by simp [Tk.syms]) hok (by simp only [List.length_append,kZ];omega) O O O ?_))
   intro w a7 c7 H
   refine Lt (Cb (Cy (aU j3 O (aC a_ O (H.cell 1 (v:=iT 0) O O) (Lp (e9 O O) (cU O (Lt (CF O ω (Cy (aU qX O (aC a_ O (H.cell 1 (v:=iT k) O O) (bP O O (cU O (Lt ?_))))))))))))))
   refine CF O ω (Ck (aF (aF (tn ?_))))
   refine ⟨a7,c7,r6,r21,r22,r192,r193,r194,?_⟩
   rw [oP htg]
   simp only [List.append_assoc] at H
   simp only [Tk.bits,List.append_assoc]
   exact H.sub [2,3,4,5,6,7,8,9,10] O δ
  | cp p far long =>
   obtain ⟨_,f1,f2,f3,f4⟩:=hfit
   have sl:=jS f1 ω
   have sf:=jS f3 f4
   have l0:=hb15 g 0 (256+kh long)
   have l4:=hb15 g 4 (kh far)
   have p18:2 ^ i3 long≤2 ^ 18:=Nat.pow_le_pow_right ω sl.2.2.2.1
   have p18':2 ^ i3 far≤2 ^ 18:=Nat.pow_le_pow_right ω sf.2.2.2.1
   have m1:=sl.2.2.1
   have m2:=sf.2.2.1
   have x1:=sl.2.2.2.1
   have x2:=sf.2.2.2.1
   refine Cy (db O (lF H hes hqs hEn hgm 0 (256+kh long) O (by simp [Tk.syms]) hok (by simp only [List.length_append,kZ];omega) O O O ?_))
   intro w a7 c7 H
   refine Lt (Cb (Cy (aU j3 O (aC a_ O (H.cell 1 (v:=iT long) O O) (Lp (e9 O O) (cU O (Lt (CT O ω (Cy (aU j3 O (aC a_ O (H.cell 1 (v:=iT long) O O) (bZ O zN (mr _ long f1 ω) O (gr O (av O O (av O O ?_)))))))))))))))
   refine av O O (az O (az O (az O (Lt (Cy (aC qj r6 (H.cell 4 O O) (ai O (ai O (di H 2 O (mQ long) (i3 long) ω ω (by simp only [List.length_append];omega) O O O O ?_)))))))))
   intro w a8 c8 H
   refine Lt (Cy (db O (lF H hes hqs hEn hgm 4 (kh far) O (by simp [Tk.syms]) hok (by simp only [List.length_append,kZ];omega) O O O ?_)))
   intro w a9 c9 H
   refine Lt (Cy (aU zy O (aC a_ O (H.cell 1 (v:=iT far) O O) (bZ O zN (mr _ far f3 f4) O (gr O (av O O (av O O (av O O (az O (az O (Lt (Cr (aC qj r6 (H.cell 4 O O) (ai O (ai O (di H 2 O (mQ far) (i3 far) ω ω (by simp only [List.length_append,kZ];omega) O O O O ?_))))))))))))))))
   intro w a10 c10 H
   simp only [List.set] at H
   refine Ln (aF (aF (tn ?_)))
   refine ⟨a10,c10,r6,r21,r22,r192,r193,r194,?_⟩
   rw [oP htg]
   simp only [List.append_assoc] at H
   simp only [Tk.bits,List.append_assoc]
   exact H.sub [2,3,4,5,6,7,8,9,10] O δ
 case refine_2 =>
 clear H r6 r21 r22 r192 r193 r194 hcells
 rintro ρ w11 ⟨a7,c7,r6,r21,r22,r192,r193,r194,H⟩
 refine Cr (ao r194 O (ck (b:=1) ω) (ai O (Lt ?_)))
 exact ⟨ts.length - (j+1),ω,j+1,a7,c7,O,ω,r6,r21,r22,r192,r193,O,H⟩
end Go.Proofs.YtmgemcffhbnpfaaGreatDoor
set_option maxHeartbeats 2000000
namespace Go.Proofs.YtmgemcffhbnpfaaGreatDoor
open Go
def gB (p q:Nat):Nat:=fQ (jb (pA p) (pA q)) (jb (pR p) (pR q)) (jb (pG p) (pG q)) (jb (pB p) (pB q))
theorem ig (p q:Nat):pA (gB p q)=jb (pA p) (pA q)∧pR (gB p q)=jb (pR p) (pR q)∧pG (gB p q)=jb (pG p) (pG q)∧pB (gB p q)=jb (pB p) (pB q)∧gB p q<2 ^ 32:=by
 obtain ⟨a1,a2,a3,a4⟩:=bX p
 obtain ⟨b1,b2,b3,b4⟩:=bX q
 exact eO (fm a1 b1) (fm a2 b2) (fm a3 b3) (fm a4 b4)
theorem jE (W:World) (p q:Nat) (hp:p<2 ^ 32) (hq:q<2 ^ 32) :
  Calls Tryz.prog 59 #[.int .u32 (p:Nat),.int .u32 (q:Nat)] W fun e w' => e=.returned (.int .u32 (gB p q:Nat))∧w'=W:=by
 have a1:=bz p 24
 have a2:=bz p 16
 have a3:=bz p 8
 have a4:=bz p 0
 have b1:=bz q 24
 have b2:=bz q 16
 have b3:=bz q 8
 have b4:=bz q 0
 have e:gB p q=fQ (jb (aI p 24) (aI q 24)) (jb (aI p 16) (aI q 16)) (jb (aI p 8) (aI q 8)) (jb (aI p 0) (aI q 0)):=by
  unfold gB
  rw [j0,j0,jw,jw,jX,jX,jy,jy]
 rw [e]
 have c1:=fm a1 b1
 have c2:=fm a2 b2
 have c3:=fm a3 b3
 have c4:=fm a4 b4
 refine enter (m:=30) Tryz.func59 O Tryz.ntmps59 O (Cy (az O (Lt (Cy (ai O (b_ p 24 hp ω O O O (ai O (b_ q 24 hq ω O O O (ao O O (ck ω) (Lp (ki (r:=((jb (aI p 24) (aI q 24):Nat):Int)) O O ω (Dt ω)) (ai O (b_ p 16 hp ω O O O (ai O (b_ q 16 hq ω O O O (ao O O (ck ω) (Lp (ki (r:=((jb (aI p 16) (aI q 16):Nat):Int)) O O ω (Dt ω)) ?_))))))))))))))))
 refine ai O (b_ p 8 hp ω O O O (ai O (b_ q 8 hq ω O O O (ao O O (ck ω) (Lp (ki (r:=((jb (aI p 8) (aI q 8):Nat):Int)) O O ω (Dt ω)) (ai O (b_ p 0 hp ω O O O (ai O (b_ q 0 hq ω O O O (ao O O (ck ω) (Lp (ki (r:=((jb (aI p 0) (aI q 0):Nat):Int)) O O ω (Dt ω)) (jr (jb (aI p 24) (aI q 24)) (jb (aI p 16) (aI q 16)) (jb (aI p 8) (aI q 8)) (jb (aI p 0) (aI q 0)) ω ω ω ω O O O O O (az O (Lt (Ct ?_)))))))))))))))
 exact ak O O ⟨O,O⟩
theorem zd (W:World) (n:Int) (r:Nat) (hr:(if (if 0<n then n else 0)<255 then (if 0<n then n else 0) else 255)=(r:Int)) :
  Calls Tryz.prog 77 #[.int .i64 n] W fun e w' => e=.returned (iT r)∧w'=W:=by
 refine enter (m:=6) Tryz.func77 O Tryz.ntmps77 O (Cy (az O (Lt (Cy (ai O (Lp (xY O O O) (Lp (A1 (r:=(r:Int)) O O hr) (az O (Lt (Ct ?_))))))))))
 exact ak O O ⟨O,O⟩
theorem E6 (a b c:Nat):(if (if 0<(a:Int)+b - c then (a:Int)+b - c else 0)<255 then (if 0<(a:Int)+b - c then (a:Int)+b - c else 0) else 255)=((gE a b c:Nat):Int):=by
 unfold gE
 repeat' split
 all_goals omega
theorem wD (a b:Nat):((a:Int) - b).tdiv 2=if b≤a then (((a - b) / 2:Nat):Int) else -(((b - a) / 2:Nat):Int):=by
 by_cases h:b≤a
 ·rw [if_pos h,show (a:Int) - b=((a - b:Nat):Int) by omega];rfl
 ·rw [if_neg h,show (a:Int) - b=-((b - a:Nat):Int) by omega,Int.neg_tdiv];rfl
theorem Fp {a b:Nat} (ha:a<256) (hb:b<256):(if (if 0<(a:Int)+((a:Int) - b).tdiv 2 then (a:Int)+((a:Int) - b).tdiv 2 else 0)<255 then (if 0<(a:Int)+((a:Int) - b).tdiv 2 then (a:Int)+((a:Int) - b).tdiv 2 else 0) else 255)=((gG a b:Nat):Int):=by
 have ht:=wD a b
 rw [ht]
 unfold gG
 repeat' split
 all_goals omega
theorem qP (W:World) (p q r k b1 b2 b3:Nat) (hp:p<2 ^ 32) (hq:q<2 ^ 32) (hr:r<2 ^ 32) (hk:k≤24) (h1:W.cell? ⟨b1,0,none⟩=some (.int .u32 (p:Nat))) (h2:W.cell? ⟨b2,0,none⟩=some (.int .u32 (q:Nat))) (h3:W.cell? ⟨b3,0,none⟩=some (.int .u32 (r:Nat))) :
  Calls Tryz.prog 76 #[iT k,pT b1,pT b2,pT b3] W fun e w' => e=.returned (iT (gE (aI p k) (aI q k) (aI r k)))∧cf [] W w':=by
 have H:St W [] [] W:=St.nil W []
 have a1:=bz p k
 have a2:=bz q k
 have a3:=bz r k
 refine enter (m:=18) Tryz.func76 O Tryz.ntmps76 O (Cy (az O (Lt (Cs (Cd aJ κ ?_)))))
 intro w hsame
 replace H:=H.same hsame
 refine aD bD O (cV hsame h1) (bW O (jY p k hp hk O O O (aD bD O (cV hsame h2) (bW O (jY q k hq hk O O O (aG (r:=(aI p k:Int)+(aI q k:Int)) O O (fg ω) (aD bD O (cV hsame h3) (bW O (jY r k hr hk O O O (cx (r:=(aI p k:Int)+(aI q k:Int) - (aI r k:Int)) O O (fg ω) (bJ O H7 (zd _ _ _ (E6 _ _ _)) O (oZ O (Sn (tn (Ct ?_)))))))))))))))
 exact ak O O ⟨O,H.frm⟩
theorem nK (W:World) (p q k b1 b2:Nat) (hp:p<2 ^ 32) (hq:q<2 ^ 32) (hk:k≤24) (h1:W.cell? ⟨b1,0,none⟩=some (.int .u32 (p:Nat))) (h2:W.cell? ⟨b2,0,none⟩=some (.int .u32 (q:Nat))) :
  Calls Tryz.prog 78 #[iT k,pT b1,pT b2] W fun e w' => e=.returned (iT (gG (aI p k) (aI q k)))∧cf [] W w':=by
 have H:St W [] [] W:=St.nil W []
 have a1:=bz p k
 have a2:=bz q k
 have hd1:((aI p k:Int) - (aI q k:Int)).tdiv 2≤256:=by
  rw [wD]
  split <;> omega
 have hd2:-256≤((aI p k:Int) - (aI q k:Int)).tdiv 2:=by
  rw [wD]
  split <;> omega
 refine enter (m:=18) Tryz.func78 O Tryz.ntmps78 O (Cy (az O (Lt (Cs (Cd aJ κ ?_)))))
 intro w hsame
 replace H:=H.same hsame
 refine aD bD O (cV hsame h1) (bW O (jY p k hp hk O O O (aD bD O (cV hsame h1) (bW O (jY p k hp hk O O O (aD bD O (cV hsame h2) (bW O (jY q k hq hk O O O (cx (r:=(aI p k:Int) - (aI q k:Int)) O O (fg ω) (Sp (ki (r:=((aI p k:Int) - (aI q k:Int)).tdiv 2) O O ω (fg ω)) (aG (r:=(aI p k:Int)+((aI p k:Int) - (aI q k:Int)).tdiv 2) O O (fg ω) (bJ O H7 (zd _ _ _ (Fp a1 a2)) O (oZ O (Sn (tn (Ct ?_))))))))))))))))
 exact ak O O ⟨O,H.frm⟩
theorem ku {P:Program} {n:Nat} {ops:Array Oper} {Q:cY} {ρ:dK} {w w0:World} {S:List Nat} {l:List e_} {rest:List Oper} {f:FuncId} {c x:Operand} {cs:List Value} {ts:Array TypeId} {ty:TypeId} {pos:String} {after:Array Edge} {d:Nat} {a v:Value}
  (H:St w0 S l w) (hd:Nat.blt d n=true) (he:fZ P f) (hv:ev ρ c=.func (.func f) ([]:List Value).toArray cs.toArray) (hx:ev ρ x=a) (hc:Calls P f (a :: cs).toArray w fun e w' => e=.returned v∧cf [] w w')
  (h:∀ w',St w0 S l w'→VL P n ops Q rest (eW ρ d v) w'):VL P n ops Q (⟨some d,.call ⟨.value c,#[x],ts⟩,ty,pos,after,none⟩ :: rest) ρ w :=
 tK (fs:=[]) (vs:=[a]) hd he hv hc (by simp [hx]) fun e w' hR => ⟨_,hR.1,h w' (H.quiet hR.2)⟩
def zB (p q r:Nat):Nat:=fQ (gE (pA p) (pA q) (pA r)) (gE (pR p) (pR q) (pR r)) (gE (pG p) (pG q) (pG r)) (gE (pB p) (pB q) (pB r))
def qI (p q:Nat):Nat:=fQ (gG (pA p) (pA q)) (gG (pR p) (pR q)) (gG (pG p) (pG q)) (gG (pB p) (pB q))
theorem Ga (W:World) (p q r:Nat) (hp:p<2 ^ 32) (hq:q<2 ^ 32) (hr:r<2 ^ 32) :
  Calls Tryz.prog 61 #[.int .u32 (p:Nat),.int .u32 (q:Nat),.int .u32 (r:Nat)] W fun e w' => e=.returned (.int .u32 (zB p q r:Nat))∧cf [] W w':=by
 have H:St W [] [] W:=St.nil W []
 have e:zB p q r=fQ (gE (aI p 24) (aI q 24) (aI r 24)) (gE (aI p 16) (aI q 16) (aI r 16)) (gE (aI p 8) (aI q 8) (aI r 8)) (gE (aI p 0) (aI q 0) (aI r 0)):=by
  unfold zB
  rw [j0,j0,j0,jw,jw,jw,jX,jX,jX,jy,jy,jy]
 rw [e]
 have c1:=ol (aI p 24) (aI q 24) (aI r 24)
 have c2:=ol (aI p 16) (aI q 16) (aI r 16)
 have c3:=ol (aI p 8) (aI q 8) (aI r 8)
 have c4:=ol (aI p 0) (aI q 0) (aI r 0)
 refine enter (m:=18) Tryz.func61 O Tryz.ntmps61 O (Cy (fM H (cs:=[.int .u32 (p:Nat)]) O O O ?_))
 intro w b3 hn3 hb3 H
 refine fM H (cs:=[.int .u32 (q:Nat)]) O O O ?_
 intro w b4 hn4 hb4 H
 refine fM H (cs:=[.int .u32 (r:Nat)]) O O O ?_
 intro w b5 hn5 hb5 H
 refine az O (Lt (Cy (Lp (AQ (fs:=[]) (cs:=[pT b3,pT b4,pT b5]) O O) (bI O (Lt (Cy (db O (ku (a:=iT 24) H O As O O (qP _ p q r 24 b3 b4 b5 hp hq hr ω (H.cell 2 O O) (H.cell 1 O O) (H.cell 0 O O)) ?_))))))))
 intro w H
 refine db O (ku (a:=iT 16) H O As O O (qP _ p q r 16 b3 b4 b5 hp hq hr ω (H.cell 2 O O) (H.cell 1 O O) (H.cell 0 O O)) ?_)
 intro w H
 refine db O (ku (a:=iT 8) H O As O O (qP _ p q r 8 b3 b4 b5 hp hq hr ω (H.cell 2 O O) (H.cell 1 O O) (H.cell 0 O O)) ?_)
 intro w H
 refine db O (ku (a:=iT 0) H O As O O (qP _ p q r 0 b3 b4 b5 hp hq hr ω (H.cell 2 O O) (H.cell 1 O O) (H.cell 0 O O)) ?_)
 intro w H
 refine jr (gE (aI p 24) (aI q 24) (aI r 24)) (gE (aI p 16) (aI q 16) (aI r 16)) (gE (aI p 8) (aI q 8) (aI r 8)) (gE (aI p 0) (aI q 0) (aI r 0)) ω ω ω ω O O O O O (az O (Lt (Ct ?_)))
 exact ak O O ⟨O,H.frm⟩
theorem DF (W:World) (p q:Nat) (hp:p<2 ^ 32) (hq:q<2 ^ 32) :
  Calls Tryz.prog 62 #[.int .u32 (p:Nat),.int .u32 (q:Nat)] W fun e w' => e=.returned (.int .u32 (qI p q:Nat))∧cf [] W w':=by
 have H:St W [] [] W:=St.nil W []
 have e:qI p q=fQ (gG (aI p 24) (aI q 24)) (gG (aI p 16) (aI q 16)) (gG (aI p 8) (aI q 8)) (gG (aI p 0) (aI q 0)):=by
  unfold qI
  rw [j0,j0,jw,jw,jX,jX,jy,jy]
 rw [e]
 have c1:=oo (b:=aI q 24) (bz p 24)
 have c2:=oo (b:=aI q 16) (bz p 16)
 have c3:=oo (b:=aI q 8) (bz p 8)
 have c4:=oo (b:=aI q 0) (bz p 0)
 refine enter (m:=16) Tryz.func62 O Tryz.ntmps62 O (Cy (fM H (cs:=[.int .u32 (p:Nat)]) O O O ?_))
 intro w b3 hn3 hb3 H
 refine fM H (cs:=[.int .u32 (q:Nat)]) O O O ?_
 intro w b4 hn4 hb4 H
 refine az O (Lt (Cy (Lp (AQ (fs:=[]) (cs:=[pT b3,pT b4]) O O) (bI O (Lt (Cy (db O (ku (a:=iT 24) H O zD O O (nK _ p q 24 b3 b4 hp hq ω (H.cell 1 O O) (H.cell 0 O O)) ?_))))))))
 intro w H
 refine db O (ku (a:=iT 16) H O zD O O (nK _ p q 16 b3 b4 hp hq ω (H.cell 1 O O) (H.cell 0 O O)) ?_)
 intro w H
 refine db O (ku (a:=iT 8) H O zD O O (nK _ p q 8 b3 b4 hp hq ω (H.cell 1 O O) (H.cell 0 O O)) ?_)
 intro w H
 refine db O (ku (a:=iT 0) H O zD O O (nK _ p q 0 b3 b4 hp hq ω (H.cell 1 O O) (H.cell 0 O O)) ?_)
 intro w H
 refine jr (gG (aI p 24) (aI q 24)) (gG (aI p 16) (aI q 16)) (gG (aI p 8) (aI q 8)) (gG (aI p 0) (aI q 0)) ω ω ω ω O O O O O (az O (Lt (Ct ?_)))
 exact ak O O ⟨O,H.frm⟩
def HV:List Nat:=[24,16,8,0]
def kT (p q:Nat) (i:Nat):Nat:=((HV.take i).map fun k => iA (aI p k) (aI q k)).sum
theorem xC (p q:Nat) {i:Nat} (h:i<4):kT p q (i+1)=kT p q i+iA (aI p (HV.getD i 0)) (aI q (HV.getD i 0)):=by
 have:i=0∨i=1∨i=2∨i=3:=ω
 rcases this with rfl | rfl | rfl | rfl <;> simp [kT,HV] <;> omega
theorem A6 (p q:Nat) {i:Nat} (h:i≤4):kT p q i≤1024:=by
 have a:=fun k => v8 (bz p k) (bz q k)
 have:=a 24
 have:=a 16
 have:=a 8
 have:=a 0
 have:i=0∨i=1∨i=2∨i=3∨i=4:=ω
 rcases this with rfl | rfl | rfl | rfl | rfl <;> simp [kT,HV] <;> omega
theorem GM (c t:Nat):(if (t:Int) - c<(c:Int) - t then (c:Int) - t else (t:Int) - c)=((iA c t:Nat):Int):=by
 unfold iA
 repeat' split
 all_goals omega
theorem C8 (W:World) (l t c:Nat) (hl:l<2 ^ 32) (ht:t<2 ^ 32) (hc:c<2 ^ 32) :
  Calls Tryz.prog 60 #[.int .u32 (l:Nat),.int .u32 (t:Nat),.int .u32 (c:Nat)] W fun e w' => e=.returned (.int .u32 ((if kT c t 4<kT c l 4 then l else t:Nat):Int))∧cf [] W w':=by
 have H:St W [] [] W:=St.nil W []
 refine enter (m:=61) Tryz.func60 O Tryz.ntmps60 O (Cy (az O (Lt (Cy (az O (az O (Lt (Cs (Cy (cH H mg (nums .i64 HV) O O δ δ κ ?_))))))))))
 intro w b12 hn12 hb12 H
 refine bG bh O (ai O (Lt ?_))
 refine aH (fun ρ w' => ρ 0=.int .u32 (l:Nat)∧ρ 1=.int .u32 (t:Nat)∧ρ 7=iT (kT c t 4)∧ρ 8=iT (kT c l 4)∧St W [] [aa b12 (nums .i64 HV) 3] w') ?_ ?_
 case refine_1 =>
  refine Cb ?_
  refine Cl (fun mm ρ w' => ∃ i,mm=4 - i∧i≤4∧ρ 0=.int .u32 (l:Nat)∧ρ 1=.int .u32 (t:Nat)∧ρ 2=.int .u32 (c:Nat)∧ρ 7=iT (kT c t i)∧ρ 8=iT (kT c l i) ∧
   ρ 12=.slice (aT b12) 4 4∧ρ 13=iT 4∧ρ 14=iT i∧St W [] [aa b12 (nums .i64 HV) 3] w') 4
   ⟨0,rfl,ω,rfl,rfl,rfl,rfl,rfl,rfl,rfl,rfl,H⟩ ?_
  clear H
  rintro mm ρ w5 ⟨i,hmm,hi,r0,r1,r2,r7,r8,r12,r13,r14,H⟩
  refine Cy (bP r14 r13 (Lt ?_))
  by_cases hlt:i<4
  case neg =>
   obtain rfl:i=4:=ω
   refine Cs (CF O ω (Cx (ax (ax (br (tn ?_))))))
   exact ⟨r0,r1,r7,r8,H⟩
  obtain ⟨k,hk⟩:∃ k,k=HV.getD i 0:=⟨_,rfl⟩
  have hk24:k≤24:=by
   have:i=0∨i=1∨i=2∨i=3:=ω
   rcases this with rfl | rfl | rfl | rfl <;> simp [hk,HV]
  have a1:=bz l k
  have a2:=bz t k
  have a3:=bz c k
  have s1:=A6 c t (i:=i) ω
  have s2:=A6 c l (i:=i) ω
  have d1:=v8 (bz c k) (bz t k)
  have d2:=v8 (bz c k) (bz l k)
  have e1:=xC c t hlt
  have e2:=xC c l hlt
  rw [← hk] at e1 e2
  refine Cs (CT O ω (Ck (tn (Cs (Cb (Cy (Lp (bO i bh r12 r14 O hlt) (aC a_ O (H.cell 0 (v:=iT k) O (by rw [hk];exact de (by exact hlt))) (az O (Lt (Cy (ai r0 (ai O (b_ l k hl hk24 O O O (ai r1 (ai O ?_))))))))))))))))
  refine b_ t k ht hk24 O O O (ao (r:=(aI l k:Int)+(aI t k:Int)) O O (fg ω) (ai r2 (ai O (b_ c k hc hk24 O O O (bw (r:=(aI l k:Int)+(aI t k:Int) - (aI c k:Int)) O O (fg ω) (az O (Lt (Cy (ai r7 (ai O (ai r0 (ai O (b_ l k hl hk24 O O O (bw (r:=(aI t k:Int) - (aI c k:Int)) O O (by rw [fg ω];omega) (ai r0 (ai O (b_ l k hl hk24 O O O ?_)))))))))))))))))
  refine ai O (bw (r:=(aI c k:Int) - (aI t k:Int)) O O (by rw [fg ω];omega) (Lp (xY (r:=((iA (aI c k) (aI t k):Nat):Int)) O O (GM _ _)) (ao (r:=((kT c t (i+1):Nat):Int)) O O (by rw [fg ω,e1];omega) (az O (Lt (Cr (ai r8 (ai O (ai r1 (ai O (b_ t k ht hk24 O O O (bw (r:=(aI l k:Int) - (aI c k:Int)) O O (by rw [fg ω];omega) (ai r1 (ai O (b_ t k ht hk24 O O O (ai O (bw (r:=(aI c k:Int) - (aI l k:Int)) O O (by rw [fg ω];omega) (Lp (xY (r:=((iA (aI c k) (aI l k):Nat):Int)) O O (GM _ _)) ?_))))))))))))))))))
  refine ao (r:=((kT c l (i+1):Nat):Int)) O O (by rw [fg ω,e2];omega) (az O (Ln (aF (tn (Cr (ao r14 O (ck (b:=1) ω) (ai O (Lt ?_))))))))
  exact ⟨4 - (i+1),ω,i+1,O,ω,r0,r1,r2,O,O,r12,r13,O,H⟩
 case refine_2 =>
 clear H
 rintro ρ w5 ⟨r0,r1,r7,r8,H⟩
 refine Cs (Cy (ai r7 (ai r8 (bP O O (Lt ?_)))))
 by_cases hlt:kT c t 4<kT c l 4
 case pos =>
  refine CT O ω (Cy (ai r0 (az O (Lt (Ct (aE ?_))))))
  exact ak O O ⟨by rw [if_pos hlt];rfl,H.frm⟩
 refine CF O ω (Ck (tn (Cy (ai r1 (az O (Lt (Ct ?_)))))))
 exact ak O O ⟨by rw [if_neg hlt];rfl,H.frm⟩
def nH (w m:Nat) (px:List Nat) (i:Nat):Nat :=
 if i / w=0 then (if i % w=0 then 4278190080 else px.getD (i - 1) 0)
 else if i % w=0 then px.getD (i - w) 0
 else bA m (px.getD (i - 1) 0) (px.getD (i - w) 0) (px.getD (i - w - 1) 0) (px.getD (i - w+1) 0)
theorem A9 {w b i:Nat} {tpx px:List Nat} (hw:1≤w) (hi:i<px.length) (hm:pG (tpx.getD (dS w b i) 0)<14):iU w b tpx (px.take i)=nH w (pG (tpx.getD (dS w b i) 0)) px i:=by
 have hl:(px.take i).length=i:=by rw [List.length_take];omega
 have hg:∀ j,j<i→(px.take i).getD j 0=px.getD j 0:=fun j hj => by
  rw [List.getD_eq_getElem?_getD,List.getElem?_take,if_pos hj,← List.getD_eq_getElem?_getD]
 unfold iU nH
 rw [hl]
 by_cases h0:i / w=0
 ·rw [if_pos h0,if_pos h0]
  by_cases h1:i % w=0
  ·rw [if_pos h1,if_pos h1]
  ·rw [if_neg h1,if_neg h1]
   have:0<i:=Nat.pos_of_ne_zero fun e => h1 (by rw [e];exact Nat.zero_mod _)
   exact hg _ ω
 ·rw [if_neg h0,if_neg h0]
  have hwi:w≤i:=Nat.le_of_not_lt fun h => h0 (Nat.div_eq_of_lt h)
  by_cases h1:i % w=0
  ·rw [if_pos h1,if_pos h1]
   exact hg _ ω
  ·rw [if_neg h1,if_neg h1,Nat.mod_eq_of_lt (show pG (tpx.getD (dS w b i) 0)<16 by omega)]
   have hw2:2≤w:=Nat.lt_of_le_of_ne hw fun e => h1 (by rw [← e];exact Nat.mod_one _)
   rw [hg _ ω,hg _ ω,hg _ ω,hg _ ω]
end Go.Proofs.YtmgemcffhbnpfaaGreatDoor
set_option maxHeartbeats 4000000
namespace Go.Proofs.YtmgemcffhbnpfaaGreatDoor
open Go
section
variable {l t c r:Nat}
theorem My (h:l<2 ^ 32):bA 1 l t c r=l:=jx h
theorem MA (h:t<2 ^ 32):bA 2 l t c r=t:=jx h
theorem MG (h:r<2 ^ 32):bA 3 l t c r=r:=jx h
theorem Mx (h:c<2 ^ 32):bA 4 l t c r=c:=jx h
theorem Mv:bA 5 l t c r=gB (gB l r) t:=by
 obtain ⟨h1,h2,h3,h4,_⟩:=ig l r
 unfold gB at h1 h2 h3 h4 ⊢
 rw [h1,h2,h3,h4]
 rfl
theorem MD:bA 6 l t c r=gB l c:=rfl
theorem ML:bA 7 l t c r=gB l t:=rfl
theorem Mu:bA 8 l t c r=gB c t:=rfl
theorem Mz:bA 9 l t c r=gB t r:=rfl
theorem Mh:bA 10 l t c r=gB (gB l c) (gB t r):=by
 obtain ⟨h1,h2,h3,h4,_⟩:=ig l c
 obtain ⟨g1,g2,g3,g4,_⟩:=ig t r
 unfold gB at h1 h2 h3 h4 g1 g2 g3 g4 ⊢
 rw [h1,h2,h3,h4,g1,g2,g3,g4]
 rfl
theorem Hk (p q:Nat):kT p q 4=iA (pR p) (pR q)+iA (pG p) (pG q)+iA (pB p) (pB q)+iA (pA p) (pA q):=by
 simp only [kT,HV,List.take,List.map,List.sum_cons,List.sum_nil,j0,jw,jX,jy]
 omega
theorem L6:bA 11 l t c r=if kT c t 4<kT c l 4 then l else t:=by
 rw [Hk,Hk]
 rfl
theorem LY:bA 12 l t c r=zB l t c:=rfl
theorem L7:bA 13 l t c r=qI (gB l t) c:=by
 obtain ⟨h1,h2,h3,h4,_⟩:=ig l t
 unfold qI
 rw [h1,h2,h3,h4]
 rfl
end
def z1 (m:Nat):Nat:=if m<14 then m else 0
theorem rE (W:World) (pb po pc:Nat) (px:List Nat) (wd i m:Nat) (hr:l7 W .u32 pb po px) (h32:∀ p ∈ px,p<2 ^ 32) (hw1:1≤wd) (hi:i<px.length) (hn:px.length≤1000000) (hwd:wd≤1000000) :
  Calls Tryz.prog 40 #[.slice (some ⟨pb,po,none⟩) px.length pc,iT wd,iT i,iT m] W fun e w' => e=.returned (.int .u32 (nH wd (z1 m) px i:Nat))∧cf [] W w':=by
 have H:St W [] [] W:=St.nil W []
 have hg:∀ j,j<px.length→W.cell? ⟨pb,po+j,none⟩=some (.int .u32 ((px.getD j 0:Nat):Int))∧px.getD j 0<2 ^ 32:=fun j hj => by
  have e:px.getD j 0=px[j]:=by simp [hj]
  rw [e]
  exact ⟨hr j hj,h32 _ (List.getElem_mem hj)⟩
 have hdv:i / wd≤i:=Nat.div_le_self _ _
 have hmd:i % wd<wd:=Nat.mod_lt _ hw1
 refine enter (m:=138) Tryz.func40 O Tryz.ntmps40 O (Cy (az O (Lt (Cs (Cs (Cd aJ κ ?_))))))
 intro w hsame
 replace H:=H.same hsame
 refine bW O (bW O (Sp (gI (r:=((i % wd:Nat):Int)) O O ω rN) (bW O (bW O (Sp (ki (r:=((i / wd:Nat):Int)) O O ω (Dt ω)) (oZ O (oZ O (Sn (tn (Cb ?_))))))))))
 by_cases hx:i % wd=0
 case pos =>
  by_cases hy:i / wd=0
  case pos =>
   refine Cy (ai O (Lp (bR (b:=true) O O (decide_eq_true ω)) (dh O (Lg (YI O) (Lg (bR (b:=true) O O (decide_eq_true ω)) (ay O O (cU O (Lt ?_))))))))
   refine Cp O ?_
   refine Cy (az O (Lt (Ct (bL (aE ?_)))))
   exact ak O O ⟨by unfold nH;rw [if_pos hy,if_pos hx];rfl,H.frm⟩
  have hwi:wd≤i:=Nat.le_of_not_lt fun h => hy (Nat.div_eq_of_lt h)
  obtain ⟨hc,_⟩:=hg (i - wd) ω
  refine Cy (ai O (Lp (bR (b:=true) O O (decide_eq_true ω)) (dh O (Lg (YI O) (Lg (bR (b:=false) O O (decide_eq_false ω)) (ay O O (cU O (Lt (Cq O (Cy (ai O (bF O O (cU O (Lt (CF O ω ?_)))))))))))))))
  refine Cy (ai O (bF O O (cU O (Lt (CT O ω (Cy (bU O (ai O (ai O (bw (r:=((i - wd:Nat):Int)) O O (iw ⟨ω,ω⟩) (Lp (ci (i - wd) aZ O O O ω) (aC bD O (H.old hc (by simp)) (az O (Lt (Ct ?_)))))))))))))))
  refine bL (aE ?_)
  exact ak O O ⟨by unfold nH;rw [if_neg hy,if_pos hx];rfl,H.frm⟩
 have hi0:0<i:=Nat.pos_of_ne_zero fun e => hx (by rw [e];exact Nat.zero_mod _)
 obtain ⟨hcl,hl32⟩:=hg (i - 1) ω
 by_cases hy:i / wd=0
 case pos =>
  refine Cy (ai O (Lp (bR (b:=false) O O (decide_eq_false ω)) (dh O (Lk (Lk (ay O O (cU O (Lt (Cq O (Cy (ai O (bF O O (cU O (Lt (CT O ω ?_)))))))))))))))
  refine Cy (bU O (ai O (bw (r:=((i - 1:Nat):Int)) O O (iw (b:=1) ⟨ω,ω⟩) (Lp (ci (i - 1) aZ O O O ω) (aC bD O (H.old hcl (by simp)) (az O (Lt (Ct (bL (aE ?_))))))))))
  exact ak O O ⟨by unfold nH;rw [if_pos hy,if_neg hx];rfl,H.frm⟩
 have hwi:wd≤i:=Nat.le_of_not_lt fun h => hy (Nat.div_eq_of_lt h)
 have hwi2:wd<i:=Nat.lt_of_le_of_ne hwi fun e => hx (by rw [← e];exact Nat.mod_self _)
 have hw2:2≤wd:=Nat.lt_of_le_of_ne hw1 fun e => hx (by rw [← e];exact Nat.mod_one _)
 obtain ⟨hct,ht32⟩:=hg (i - wd) ω
 obtain ⟨hcc,hc32⟩:=hg (i - wd - 1) ω
 obtain ⟨hcr,hr32⟩:=hg (i - wd+1) ω
 have hP:nH wd (z1 m) px i=bA (z1 m) (px.getD (i - 1) 0) (px.getD (i - wd) 0) (px.getD (i - wd - 1) 0) (px.getD (i - wd+1) 0):=by unfold nH;rw [if_neg hy,if_neg hx]
 rw [hP]
 clear hP
 generalize px.getD (i - 1) 0=l at *
 generalize px.getD (i - wd) 0=t at *
 generalize px.getD (i - wd - 1) 0=c at *
 generalize px.getD (i - wd+1) 0=r at *
 refine Cy (ai O (Lp (bR (b:=false) O O (decide_eq_false ω)) (dh O (Lk (Lk (ay O O (cU O (Lt (Cq O (Cy (ai O (bF O O (cU O (Lt (CF O ω ?_)))))))))))))))
 refine Cy (ai O (bF O O (cU O (Lt (CF O ω (Ck (aF (tn (Cs (Cd aJ κ ?_))))))))))
 intro w hsame
 replace H:=H.same hsame
 refine cF O (bW O (cx (r:=((i - 1:Nat):Int)) O O (iw (b:=1) ⟨ω,ω⟩) (Sp (ci (i - 1) aZ O O O ω) (aD bD O (H.old hcl (by simp)) (cF O (bW O (bW O (cx (r:=((i - wd:Nat):Int)) O O (iw ⟨ω,ω⟩) (Sp (ci (i - wd) aZ O O O ω) (aD bD O (H.old hct (by simp)) (cF O (bW O (bW O (cx (r:=((i - wd:Nat):Int)) O O (iw ⟨ω,ω⟩) (cx (r:=((i - wd - 1:Nat):Int)) O O (iw (b:=1) ⟨ω,ω⟩) (Sp (ci (i - wd - 1) aZ O O O ω) (aD bD O (H.old hcc (by simp)) (cF O (bW O ?_)))))))))))))))))))
 refine bW O (cx (r:=((i - wd:Nat):Int)) O O (iw ⟨ω,ω⟩) (aG (r:=((i - wd+1:Nat):Int)) O O (ck (b:=1) ω) (Sp (ci (i - wd+1) aZ O O O ω) (aD bD O (H.old hcr (by simp)) (oZ O (oZ O (oZ O (oZ O (Sn (tn (Cs (Cy (ai O (Lt (Cb ?_)))))))))))))))
 by_cases hm:m<14
 case neg =>
  refine Cy (bF O O (cU O (Lt (CF O ω (Cy (bF O O (cU O (Lt (CF O ω (Cy (bF O O (cU O (Lt ?_)))))))))))))
  refine CF O ω (Cy (bF O O (cU O (Lt (CF O ω (Cy (bF O O (cU O (Lt (CF O ω (Cy (bF O O (cU O (Ln ?_))))))))))))))
  refine tn (CF O ω (Cy (bF O O (cU O (Lt (CF O ω (Cy (bF O O (cU O (Lt (CF O ω (Cy (bF O O (cU O ?_))))))))))))))
  refine Lt (CF O ω (Cy (bF O O (cU O (Lt (CF O ω (Cy (bF O O (cU O (Lt (CF O ω (Cy (bF O O ?_)))))))))))))
  refine cU O (Lt (CF O ω (Cy (bF O O (cU O (Lt (CF O ω (Ck (aF (tn (Cy (az O (Lt (Ct ?_))))))))))))))
  exact ak O O ⟨by rw [show z1 m=0 from if_neg hm];rfl,H.frm⟩
 rw [show z1 m=m from if_pos hm]
 refine Cy (bF O O (cU O (Lt ?_)))
 by_cases h1:m=1
 case pos =>
  subst h1
  refine CT O ω (Cy (ai O (az O (Lt (Ct (bL (aE ?_)))))))
  exact ak O O ⟨by rw [My hl32];rfl,H.frm⟩
 refine CF O ω (Cy (bF O O (cU O (Lt ?_))))
 by_cases h2:m=2
 case pos =>
  subst h2
  refine CT O ω (Cy (ai O (az O (Lt (Ct (bL (aE ?_)))))))
  exact ak O O ⟨by rw [MA ht32];rfl,H.frm⟩
 refine CF O ω (Cy (bF O O (cU O (Lt ?_))))
 by_cases h3:m=3
 case pos =>
  subst h3
  refine CT O ω (Cy (ai O (az O (Lt (Ct (bL (aE ?_)))))))
  exact ak O O ⟨by rw [MG hr32];rfl,H.frm⟩
 refine CF O ω (Cy (bF O O (cU O (Lt ?_))))
 by_cases h4:m=4
 case pos =>
  subst h4
  refine CT O ω (Cy (ai O (az O (Lt (Ct (bL (aE ?_)))))))
  exact ak O O ⟨by rw [Mx hc32];rfl,H.frm⟩
 refine CF O ω (Cy (bF O O (cU O (Lt ?_))))
 by_cases h5:m=5
 case pos =>
  subst h5
  refine CT O ω (Cy (ai O (ai O (bZ O n_ (jE _ l r hl32 hr32) O (ai O (bZ O n_ (jE _ (gB l r) t (ig _ _).2.2.2.2 ht32) O (az O (Lt (Ct (bL (aE ?_)))))))))))
  exact ak O O ⟨by rw [Mv];rfl,H.frm⟩
 refine CF O ω (Cy (bF O O (cU O (Lt ?_))))
 by_cases h6:m=6
 case pos =>
  subst h6
  refine CT O ω (Cy (ai O (ai O (bZ O n_ (jE _ l c hl32 hc32) O (az O (Lt (Ct (bL (aE ?_)))))))))
  exact ak O O ⟨by rw [MD];rfl,H.frm⟩
 refine CF O ω (Cy (bF O O (cU O (Lt ?_))))
 by_cases h7:m=7
 case pos =>
  subst h7
  refine CT O ω (Cy (ai O (ai O (bZ O n_ (jE _ l t hl32 ht32) O (az O (Lt (Ct (bL (aE ?_)))))))))
  exact ak O O ⟨by rw [ML];rfl,H.frm⟩
 refine CF O ω (Cy (bF O O (cU O (Lt ?_))))
 by_cases h8:m=8
 case pos =>
  subst h8
  refine CT O ω (Cy (ai O (ai O (bZ O n_ (jE _ c t hc32 ht32) O (az O (Lt (Ct (bL (aE ?_)))))))))
  exact ak O O ⟨by rw [Mu];rfl,H.frm⟩
 refine CF O ω (Cy (bF O O (cU O (Lt ?_))))
 by_cases h9:m=9
 case pos =>
  subst h9
  refine CT O ω (Cy (ai O (ai O (bZ O n_ (jE _ t r ht32 hr32) O (az O (Lt (Ct (bL (aE ?_)))))))))
  exact ak O O ⟨by rw [Mz];rfl,H.frm⟩
 refine CF O ω (Cy (bF O O (cU O (Lt ?_))))
 by_cases h10:m=10
 case pos =>
  subst h10
  refine CT O ω (Cy (ai O (ai O (bZ O n_ (jE _ l c hl32 hc32) O (ai O (ai O (bZ O n_ (jE _ t r ht32 hr32) O (bZ O n_ (jE _ (gB l c) (gB t r) (ig _ _).2.2.2.2 (ig _ _).2.2.2.2) O (az O (Lt (Ct (bL (aE ?_)))))))))))))
  exact ak O O ⟨by rw [Mh];rfl,H.frm⟩
 refine CF O ω (Cy (bF O O (cU O (Lt ?_))))
 by_cases h11:m=11
 case pos =>
  subst h11
  refine CT O ω (Cy (ai O (ai O (ai O (aS O Kh (C8 _ l t c hl32 ht32 hc32) O ?_)))))
  rintro e w ⟨he,hf⟩
  replace H:=H.quiet hf
  refine ⟨_,he,?_⟩
  refine az O (Lt (Ct (bL (aE ?_))))
  exact ak O O ⟨by rw [L6];rfl,H.frm⟩
 refine CF O ω (Cy (bF O O (cU O (Lt ?_))))
 by_cases h12:m=12
 case pos =>
  subst h12
  refine CT O ω (Cy (ai O (ai O (ai O (aS O Kl (Ga _ l t c hl32 ht32 hc32) O ?_)))))
  rintro e w ⟨he,hf⟩
  replace H:=H.quiet hf
  refine ⟨_,he,?_⟩
  refine az O (Lt (Ct (bL (aE ?_))))
  exact ak O O ⟨by rw [LY];rfl,H.frm⟩
 refine CF O ω (Cy (bF O O (cU O (Lt ?_))))
 by_cases h13:m=13
 case pos =>
  subst h13
  refine CT O ω (Cy (ai O (ai O (bZ O n_ (jE _ l t hl32 ht32) O (ai O (aS O JI (DF _ (gB l t) c (ig _ _).2.2.2.2 hc32) O ?_))))))
  rintro e w ⟨he,hf⟩
  replace H:=H.quiet hf
  refine ⟨_,he,?_⟩
  refine az O (Lt (Ct (bL (aE ?_))))
  exact ak O O ⟨by rw [L7];rfl,H.frm⟩
 refine CF O ω (Ck (aF (tn (Cy (az O (Lt (Ct ?_)))))))
 obtain rfl:m=0:=ω
 exact ak O O ⟨O,H.frm⟩
theorem x9 (W:World) (pb po pc:Nat) (px:List Nat) (wd i m:Nat) (hr:l7 W .u32 pb po px) (h32:∀ p ∈ px,p<2 ^ 32) (hw1:1≤wd) (hi:i<px.length) (hn:px.length≤1000000) (hwd:wd≤1000000) (hm:m<14) :
  Calls Tryz.prog 40 #[.slice (some ⟨pb,po,none⟩) px.length pc,iT wd,iT i,iT m] W fun e w' => e=.returned (.int .u32 (nH wd m px i:Nat))∧cf [] W w' :=
 (rE W pb po pc px wd i m hr h32 hw1 hi hn hwd).mono fun e w' ⟨he,hf⟩ => ⟨by rw [he,show z1 m=m from if_pos hm],hf⟩
def gW (kind bits wd:Nat) (iv:Value):List Value:=[iT kind,iT bits,iT wd,iv]
theorem q9 (W:World) (kind bits wd ib ic i:Nat) (tpx:List Nat) (hr:l7 W .u32 ib 0 tpx) (hw1:1≤wd) (hwd:wd≤1000000) (hb:bits≤9) (hi:i≤1000000) (hlt:dS wd bits i<tpx.length) (hn:tpx.length≤1000000) :
  Calls Tryz.prog 41 #[.agg (gW kind bits wd (.slice (aT ib) tpx.length ic)).toArray,iT i] W fun e w' => e=.returned (.int .u32 (tpx.getD (dS wd bits i) 0:Nat))∧cf [] W w':=by
 have H:St W [] [] W:=St.nil W []
 have hcell:=hr _ hlt
 have e:tpx.getD (dS wd bits i) 0=tpx[dS wd bits i]:=by simp [hlt]
 rw [← e,Nat.zero_add] at hcell
 have d1:i / wd≤i:=Nat.div_le_self _ _
 have d2:i / wd / 2 ^ bits≤i / wd:=Nat.div_le_self _ _
 have d3:i % wd≤i:=Nat.mod_le _ _
 have d4:i % wd / 2 ^ bits≤i % wd:=Nat.div_le_self _ _
 have htl:=(cu (b:=bits) hw1).2
 have d5:i / wd / 2 ^ bits * aq wd bits≤1000000 * 1000000:=Nat.mul_le_mul ω ω
 have eb:i / wd / 2 ^ bits * aq wd bits+i % wd / 2 ^ bits=dS wd bits i:=by unfold dS;rw [Nat.mul_comm]
 refine enter (m:=30) Tryz.func41 O Tryz.ntmps41 O (Cy (fM H (cs:=gW kind bits wd (.slice (aT ib) tpx.length ic)) O O O ?_))
 intro w b2 hn2 hb2 H
 refine az O (Lt (Cs (Cd aJ κ ?_)))
 intro w hsame
 replace H:=H.same hsame
 refine dD iP O (aD gw O (H.cell 0 (v:=.slice (aT ib) tpx.length ic) O O) (bW O (dD kF O (aD a_ O (H.cell 0 (v:=iT wd) O O) (Sp (ki (r:=((i / wd:Nat):Int)) O O ω (Dt ω)) (dD eV O (aD a_ O (H.cell 0 (v:=iT bits) O O) (Sp (d6 (r:=((i / wd / 2 ^ bits:Nat):Int)) O O ω (jd (k:=.i64) (by show _≤(64:Nat);omega))) (dD kF O (aD a_ O (H.cell 0 (v:=iT wd) O O) (dD eV O (aD a_ O (H.cell 0 (v:=iT bits) O O) (bJ O ke (eN _ wd bits hwd hb) O (Sp (cX (r:=((i / wd / 2 ^ bits * aq wd bits:Nat):Int)) O O (pK ω)) (bW O (dD kF O (aD a_ O (H.cell 0 (v:=iT wd) O O) (Sp (gI (r:=((i % wd:Nat):Int)) O O ω rN) (dD eV O ?_)))))))))))))))))))
 refine aD a_ O (H.cell 0 (v:=iT bits) O O) (Sp (d6 (r:=((i % wd / 2 ^ bits:Nat):Int)) O O ω (jd (k:=.i64) (by show _≤(64:Nat);omega))) (aG (r:=((dS wd bits i:Nat):Int)) O O (by rw [ck ω,eb]) (Sp (bO (dS wd bits i) aZ O O O hlt) (aD bD O (H.old hcell (by simp)) (oZ O (Sn (tn (Ct ?_))))))))
 exact ak O O ⟨O,H.frm⟩
theorem Gy:∀ x:Nat,x<256→IntKind.i8.wrap (x:Int)=sg x:=δ
theorem JT {x:Nat} (h:x<256):IntKind.i8.wrap (x:Int)=sg x:=Gy x h
theorem HA (x:Int):x.fdiv (2 ^ min (5:Int).toNat IntKind.i64.bits)=x / 32:=by
 show x.fdiv (2 ^ 5)=_
 rw [Int.fdiv_eq_ediv_of_nonneg _ δ]
 rfl
theorem np (W:World) (a b:Nat) (ha:a<256) (hb:b<256) :
  Calls Tryz.prog 42 #[iT a,iT b] W fun e w' => e=.returned (.int .i64 (sg a * sg b / 32))∧w'=W:=by
 have sa:-128≤sg a∧sg a≤127:=by unfold sg;split <;> omega
 have sb:-128≤sg b∧sg b≤127:=by unfold sg;split <;> omega
 have hm:-16384≤sg a * sg b∧sg a * sg b≤16384:=by
  have h1:=Int.natAbs_mul (sg a) (sg b)
  have h2:(sg a).natAbs * (sg b).natAbs≤128 * 128:=Nat.mul_le_mul ω ω
  omega
 refine enter (m:=13) Tryz.func42 O Tryz.ntmps42 O (Cy (az O (Lt (Cy (ai O (cm (r:=sg a) qQ O (JT ha) (cm (r:=sg a) qL O (fg ω) (ai O (cm (r:=sg b) qQ O (JT hb) (cm (r:=sg b) qL O (fg ω) (Lp (cX (r:=sg a * sg b) O O (fg ω)) (Lp (d6 (r:=sg a * sg b / 32) O O ω (HA _)) (az O (Lt (Ct ?_)))))))))))))))
 exact ak O O ⟨O,O⟩
theorem mD (a b:Nat):(sg a * sg b / 32) % 256=((dA a b:Nat):Int):=by
 unfold dA
 omega
end Go.Proofs.YtmgemcffhbnpfaaGreatDoor
set_option maxHeartbeats 1000000
namespace Go.Proofs.YtmgemcffhbnpfaaGreatDoor
open Go
theorem wJ:JB Tryz.prog 79 .u32 (.bool false):=⟨_,_,_,rfl,rfl,rfl,rfl⟩
theorem lw:JB Tryz.prog 45 .i64 (.bool false):=⟨_,_,_,rfl,rfl,rfl,rfl⟩
theorem Gb:JB Tryz.prog 99 .u32 (.int .i64 0):=⟨_,_,_,rfl,rfl,rfl,rfl⟩
def gV (cs:List Nat) (x:Int):Option Value:=bif cs.any (fun q => decide (((q:Nat):Int)=x)) then some (.bool true) else none
theorem xW (cs:List Nat) (p:Nat):(gV cs (p:Nat)).getD (.bool false)=.bool (decide (p ∈ cs)):=by
 unfold gV
 by_cases h:p ∈ cs
 ·rw [show cs.any (fun q => decide (((q:Nat):Int)=((p:Nat):Int)))=true from List.any_eq_true.2 ⟨p,h,by simp⟩]
  simp [h]
 ·rw [show cs.any (fun q => decide (((q:Nat):Int)=((p:Nat):Int)))=false from by
   rw [List.any_eq_false]
   intro q hq hqp
   have:q=p:=by have:=of_decide_eq_true hqp;omega
   exact h (this ▸ hq)]
  simp [h]
theorem uf (cs:List Nat) (p:Nat):(fun y => if y=((p:Nat):Int) then some (.bool true) else gV cs y)=gV (cs++[p]):=by
 funext y
 unfold gV
 rw [List.any_append]
 by_cases h:y=((p:Nat):Int)
 ·subst h;simp
 ·have:¬ ((p:Nat):Int)=y:=fun e => h e.symm
  simp [h,this]
def ny (cs:List Nat) (p:Nat):List Nat:=if p ∉ cs∧cs.length<257 then cs++[p] else cs
def jM (px:List Nat):List Nat:=px.foldl ny []
theorem CO {px:List Nat} {i:Nat} (h:i<px.length):jM (px.take (i+1))=ny (jM (px.take i)) px[i]:=by
 unfold jM
 rw [List.take_succ_eq_append_getElem h,List.foldl_append]
 rfl
structure xt (px cs:List Nat):Prop where
 le:cs.length≤257
 nodup:cs.Nodup
 sub:∀ q ∈ cs,q ∈ px
 all:cs.length≤256→∀ p ∈ px,p ∈ cs
theorem BF:∀ (px cs pre:List Nat),xt pre cs→xt (pre++px) (px.foldl ny cs)
 | [],cs,pre,h => by simpa using h
 | p :: r,cs,pre,h => by
  rw [List.foldl_cons,show pre++p :: r=(pre++[p])++r by simp]
  refine BF r (ny cs p) (pre++[p]) ?_
  unfold ny
  by_cases hc:p ∉ cs∧cs.length<257
  ·rw [if_pos hc]
   refine ⟨by simp;omega,?_,fun q hq => ?_,fun hl q hq => ?_⟩
   ·rw [List.nodup_append]
    exact ⟨h.nodup,by simp,fun a ha b hb => by simp at hb;subst hb;exact fun e => hc.1 (e ▸ ha)⟩
   ·rcases List.mem_append.1 hq with hq | hq
    ·exact List.mem_append_left _ (h.sub q hq)
    ·exact List.mem_append_right _ hq
   ·simp at hl
    rcases List.mem_append.1 hq with hq | hq
    ·exact List.mem_append_left _ (h.all ω q hq)
    ·exact List.mem_append_right _ hq
  ·rw [if_neg hc]
   refine ⟨h.le,h.nodup,fun q hq => List.mem_append_left _ (h.sub q hq),fun hl q hq => ?_⟩
   rcases List.mem_append.1 hq with hq | hq
   ·exact h.all hl q hq
   ·simp at hq
    subst hq
    exact Classical.byContradiction fun hn => hc ⟨hn,ω⟩
theorem wI (px:List Nat):xt px (jM px):=by
 have:=BF px [] [] ⟨by simp,by simp,by simp,by simp⟩
 simpa [jM] using this
theorem xt.pos {px cs:List Nat} (h:xt px cs) (hp:px≠[]):1≤cs.length:=by
 by_cases hl:cs.length≤256
 ·obtain ⟨p,hpx⟩:=List.exists_mem_of_ne_nil px hp
  have:=h.all hl p hpx
  exact List.length_pos_iff.2 (List.ne_nil_of_mem this)
 ·omega
theorem CP (W:World) (pb po pc:Nat) (px:List Nat) (hr:l7 W .u32 pb po px) (hn:px.length≤1000000) :
  Calls Tryz.prog 15 #[.slice (some ⟨pb,po,none⟩) px.length pc] W fun e w' => ∃ a c,e=.returned (.slice a (jM px).length c)∧bT w' a c 36 1 (jM px).length (nums .u32 (jM px))∧(∀ x ∈ bQ a,W.heap.size≤x)∧cf [] W w':=by
 have H:St W [] [] W:=St.nil W []
 refine enter (m:=31) Tryz.func15 O Tryz.ntmps15 O (Cy (bI O (Lt (Cy (oU .u32 H O ?_)))))
 intro w mb hnm hbm H
 refine bI O (Lt ?_)
 replace H:=H.vec0 36 1
 refine Cy (bI O (Lt (Cs (Cy (bU O (bG aZ O (ai O (Lt ?_))))))))
 refine aH (fun ρ w' => ∃ a c mb,ρ 4=.slice a (jM px).length c∧St W [] [aA a c 36 1 (jM px).length (nums .u32 (jM px)),fx .u32 mb (gV (jM px))] w') ?_ ?_
 case refine_1 =>
  refine Cb ?_
  refine Cl (fun mm ρ w' => ∃ i a c,i≤px.length∧mm=px.length - i∧ρ 3=.map (some mb)∧ρ 4=.slice a (jM (px.take i)).length c∧ρ 8=.slice (some ⟨pb,po,none⟩) px.length pc∧ρ 9=iT px.length∧ρ 10=iT i∧St W [] [aA a c 36 1 (jM (px.take i)).length (nums .u32 (jM (px.take i))),fx .u32 mb (gV (jM (px.take i)))] w') px.length
   ⟨0,none,0,ω,rfl,rfl,rfl,rfl,rfl,rfl,H⟩ ?_
  clear H
  rintro mm ρ w5 ⟨i,a,c,hi,hmm,h3,h4,h8,h9,h10,H⟩
  refine Cy (bP η η (Lt ?_))
  by_cases hy:i=px.length
  case pos =>
   subst hy
   refine Cs (CF O ω (Cx (ax (ax (br (tn ?_))))))
   rw [List.take_length] at H h4
   exact ⟨a,c,mb,h4,H⟩
  have hlt:i<px.length:=ω
  have eg:=CO hlt
  obtain ⟨p,hp⟩:∃ p,p=px[i]:=⟨_,rfl⟩
  rw [← hp] at eg
  have hrow:W.cell? ⟨pb,po+i,none⟩=some (.int .u32 (p:Nat)):=hp ▸ hr i hlt
  have hS:pb ∉ ([]:List Nat):=List.not_mem_nil
  have hle:=(wI (px.take i)).le
  obtain ⟨cs,hcs⟩:∃ cs,cs=jM (px.take i):=⟨_,rfl⟩
  rw [← hcs] at eg h4 H hle
  clear hcs
  refine Cs (CT O ω (Ck (tn (Cs (Cb (Cy (Lp (ci i aZ h8 h10 O hlt) (aC bD O (H.old η η) (az O (Lt ?_))))))))))
  by_cases hin:p ∈ cs
  case pos =>
   have es:(gV cs (p:Nat)).getD (.bool false)=.bool true:=by rw [xW,decide_eq_true hin]
   refine Cy (db h3 (ai O (Lp (oK 1 H wJ O O O es) (Lp (fT O) (dh O (Lk (Lk (Lk (ay O O (Lt (Cq O (Ck (aF (tn (Cr (ao (r:=((i+1:Nat):Int)) h10 O (ck (b:=1) ω) (ai O (Ln ?_))))))))))))))))))
   refine tn ?_
   have e2:jM (px.take (i+1))=cs:=by rw [eg];unfold ny;rw [if_neg (fun h => h.1 hin)]
   exact ⟨px.length - (i+1),ω,i+1,a,c,ω,O,h3,by rw [e2];exact h4,h8,h9,O,by rw [e2];exact H⟩
  have es:(gV cs (p:Nat)).getD (.bool false)=.bool false:=by rw [xW,decide_eq_false hin]
  refine Cy (db h3 (ai O (Lp (oK 1 H wJ O O O es) (Lp (fT O) (dh O (Lg (YS h4) (Lg (dx aZ O) (Lg (AZ O O) (ay O O (Lt ?_))))))))))
  by_cases hfull:cs.length<257
  case neg =>
   refine CF O ω (Ck (aF (tn (Cr (ao (r:=((i+1:Nat):Int)) h10 O (ck (b:=1) ω) (ai O (Lt ?_)))))))
   have e2:jM (px.take (i+1))=cs:=by rw [eg];unfold ny;rw [if_neg (fun h => hfull h.2)]
   exact ⟨px.length - (i+1),ω,i+1,a,c,ω,O,h3,by rw [e2];exact h4,h8,h9,O,by rw [e2];exact H⟩
  refine CT O ω (Cy (db h3 (ai O (kH (v:=.bool true) 1 H wJ O O O O ?_))))
  intro w H
  rw [uf] at H
  refine Lt (Cr (bU h4 (ai O (cH H gj (nums .u32 [p]) O O δ δ κ ?_))))
  intro w b12 hn12 hb12 H
  refine dH H 1 gj δ O O O O (news:=nums .u32 [p]) O (fun j u hj => by rw [Nat.zero_add];exact H.cell 0 O hj) (fD _ _) (by simp only [maxLen];omega) ω ?_
  intro a' c' w hfa H
  replace H:St W [] [aA a' c' 36 1 (cs++[p]).length (nums .u32 (cs++[p])),fx .u32 mb (gV (cs++[p]))] w:=by rw [dT,List.length_append];exact H.sub [1,2] rfl δ
  refine gS O (Ln (aF (tn (Cr (ao (r:=((i+1:Nat):Int)) h10 O (ck (b:=1) ω) (ai O (Lt ?_)))))))
  have e2:jM (px.take (i+1))=cs++[p]:=by rw [eg];unfold ny;rw [if_pos ⟨hin,hfull⟩]
  exact ⟨px.length - (i+1),ω,i+1,a',c',ω,O,h3,by rw [e2,List.length_append];rfl,h8,h9,O,by rw [e2];exact H⟩
 case refine_2 =>
 clear H
 rintro ρ w5 ⟨a,c,mb,h4,H⟩
 refine Cy (bU η (gS O (Lt (Ct ?_))))
 exact ak O O ⟨a,c,O,H.get (i:=0) rfl,fun x hx => by
  rcases H.own _ (List.mem_cons_self ..) x hx with h | h
  ·simp at h
  ·exact h,H.frm⟩
end Go.Proofs.YtmgemcffhbnpfaaGreatDoor
