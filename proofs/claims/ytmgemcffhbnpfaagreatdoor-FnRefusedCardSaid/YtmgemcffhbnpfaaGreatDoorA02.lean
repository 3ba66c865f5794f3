/-
  A picture is written and read: part 2 of 13 (Dec, Gl, Vec, Slice, Maps, Tree, Next, PT, Ins, Insert).
-/
import Derived.Test.YtmgemcffhbnpfaaGreatDoorA01
import Derived.Test.YtmgemcffhbnpfaaGreatDoorRows
import Derived.ProofKit
import Derived.LaidMore
import Derived.LaidLaws
import Derived.OpenShut
import Derived.Stop.Joined
import Derived.Stop.ErrReads
import Derived.Laws.AppendOwn
import Derived.Great.BuildSlice
import Derived.ChangeMaps5
set_option linter.unusedVariables false
set_option linter.unusedSimpArgs false
set_option maxRecDepth 100000
namespace Go.Proofs.YtmgemcffhbnpfaaGreatDoor
open Go
def tO (w:World) (g:Nat):Prop:=∃ a,w.cell? ⟨g,0,none⟩=some (.iface 149 (.pointer (some a)))
def pD (w:World) (g:Nat) (k:IntKind) (l:List Nat):Prop:=∀ j,j<l.length→w.cell? ⟨g,0+j,none⟩=some (.int k (l.getD j 0:Nat))
structure Gl (w:World):Prop where
  high:nG≤w.heap.size
  eof:tO w 1
  unx:tO w 2
  badLen:tO w 7
  badTree:tO w 5
  rev:pD w 10 .u8 gq
  order:pD w 6 .u8 bY
  repB:pD w 8 .u8 mO
  repO:pD w 9 .u8 kU
  alpha:pD w 3 .u32 dM
  dist:pD w 4 .u8 eT
  inv:∀ j f,[(124:Nat),125,126,127][j]?=some f→w.cell? ⟨0,j,none⟩=some (.func (.func f) #[] #[])
theorem tO.keep {S:List Nat} {w w':World} {g:Nat} (h:tO w g) (hf:cf S w w') (hg:g ∉ S):tO w' g:=let ⟨a,ha⟩:=h;⟨a,hf.cell ha hg⟩
theorem pD.keep {S:List Nat} {w w':World} {g:Nat} {k:IntKind} {l:List Nat} (h:pD w g k l) (hf:cf S w w') (hg:g ∉ S):pD w' g k l:=fun j hj => hf.cell (h j hj) (by exact hg)
def rC (S:List Nat):Prop:=∀ b ∈ S,nG≤b
theorem rC.no {S:List Nat} (h:rC S) {g:Nat} (hg:g<nG):g ∉ S:=fun hm => by have:=h g hm;omega
theorem rC.g {S:List Nat} (h:rC S) (g:Nat) (hg:Nat.blt g nG=true):g ∉ S:=h.no (by simpa [Nat.blt_eq] using hg)
theorem Gl.keep {S:List Nat} {w w':World} (h:Gl w) (hf:cf S w w') (hS:rC S):Gl w' :=
  ⟨Nat.le_trans h.high hf.size,h.eof.keep hf (hS.no δ),h.unx.keep hf (hS.no δ),h.badLen.keep hf (hS.no δ),h.badTree.keep hf (hS.no δ),
   h.rev.keep hf (hS.no δ),h.order.keep hf (hS.no δ),h.repB.keep hf (hS.no δ),h.repO.keep hf (hS.no δ),h.alpha.keep hf (hS.no δ),h.dist.keep hf (hS.no δ),
   fun j f hj => hf.cell (h.inv j f hj) (hS.no (show 0<nG by decide))⟩
structure pL where
  d:Nat
  rd:Nat
  sb:Nat
  so:Nat
  cap:Nat
  s:List Nat
def cD (σ:pL) (R:aM):e_:=⟨[σ.d,σ.rd],fun w => ∃ i nb pr,ff w σ.d [.iface 67 (.pointer (some ⟨σ.rd,0,none⟩)),.int .u32 (val (R.take nb):Nat),.int .u32 (nb:Nat)] 145 ∧
  ff w σ.rd [.slice (some ⟨σ.sb,σ.so,none⟩) σ.s.length σ.cap,iT i,.int .i64 pr] 124∧nb≤14∧xv σ.s R i nb⟩
theorem cK (σ:pL) (R:aM):(cD σ R).Local∧(cD σ R).In:=by
  refine ⟨fun w w' h ⟨i,nb,pr,h1,h2,h3,h4⟩ => ⟨i,nb,pr,?_,?_,h3,h4⟩,fun w ⟨i,nb,pr,h1,h2,h3,h4⟩ b hb => ?_⟩
  · exact (h σ.d (by simp [cD])).trans h1
  · exact (h σ.rd (by simp [cD])).trans h2
  · simp only [cD,List.mem_cons,List.not_mem_nil,or_false] at hb
    rcases hb with rfl | rfl
    · exact h1.lt
    · exact h2.lt
structure RO (σ:pL) (w:World):Prop where
  gl:Gl w
  bytes:∀ j (h:j<σ.s.length),w.cell? ⟨σ.sb,σ.so+j,none⟩=some (.int .u8 (σ.s[j]:Nat))
  small:∀ c ∈ σ.s,c<256
  len:σ.s.length≤4611686018427387904
  sbl:σ.sb<w.heap.size
  ne:σ.d≠σ.rd∧nG≤σ.d∧nG≤σ.rd∧σ.sb≠σ.d∧σ.sb≠σ.rd
def zG (σ:pL) (S:List Nat):Prop:=rC S∧σ.sb ∉ S
theorem RO.keep {σ:pL} {S:List Nat} {w w':World} (h:RO σ w) (hf:cf S w w') (hS:zG σ S):RO σ w' :=
  ⟨h.gl.keep hf hS.1,fun j hj => hf.cell (h.bytes j hj) hS.2,h.small,h.len,Nat.lt_of_lt_of_le h.sbl hf.size,h.ne⟩
theorem RO.okS {σ:pL} {w:World} (h:RO σ w):zG σ [σ.d,σ.rd]:=by
  obtain ⟨h1,h2,h3,h4,h5⟩:=h.ne
  exact ⟨fun b hb => by simp at hb;rcases hb with rfl | rfl <;> assumption,by simp [h4,h5]⟩
def Jm (σ:pL) (R:aM) (i nb:Nat) (pr:Int):List e_:=[aa σ.d [.iface 67 (.pointer (some ⟨σ.rd,0,none⟩)),.int .u32 (val (R.take nb):Nat),.int .u32 (nb:Nat)] 145,
  aa σ.rd [.slice (some ⟨σ.sb,σ.so,none⟩) σ.s.length σ.cap,iT i,.int .i64 pr] 124]
theorem yC {σ:pL} {R:aM} {w:World} (D:(cD σ R).pred w) (ro:RO σ w):∃ i nb pr,St w [σ.d,σ.rd] (Jm σ R i nb pr) w∧nb≤14∧xv σ.s R i nb:=by
  obtain ⟨i,nb,pr,h1,h2,h3,h4⟩:=D
  refine ⟨i,nb,pr,?_,h3,h4⟩
  refine St.cons (St.one h2 ⟨cw _ _ _,dW _ _ _⟩ (by simp [aa])) h1 ⟨cw _ _ _,dW _ _ _⟩ (by simp [aa]) ?_
  intro s hs b hb
  simp only [List.mem_singleton] at hs
  subst hs
  simp only [aa,List.mem_singleton] at hb ⊢
  subst hb
  exact ro.ne.1
theorem o9 {w0:World} {S:List Nat} {σ:pL} {R:aM} {i nb:Nat} {pr:Int} {w:World} (H:St w0 S (Jm σ R i nb pr) w) (hn:nb≤14) (hr:xv σ.s R i nb):(cD σ R).pred w :=
  ⟨i,nb,pr,H.blk (i:=0) rfl,H.blk (i:=1) rfl,hn,hr⟩
def Hx (σ:pL) (R:aM) (n:Nat) (w:World) (e:Ending) (w':World):Prop :=
  (n≤R.length∧e=.returned (.tuple #[.int .u32 (val (R.take n):Nat),.nilIface])∧(cD σ (R.drop n)).pred w'∧cf [σ.d,σ.rd] w w') ∨
  (R.length<n∧(∃ a,e=.returned (.tuple #[.int .u32 0,.iface 149 (.pointer (some a))]))∧cf [σ.d,σ.rd] w w')
theorem BG (σ:pL) (R:aM) (n:Nat) (hn:n≤18) (w:World) (D:(cD σ R).pred w) (ro:RO σ w) :
    Calls Tryz.prog 49 #[.pointer (some ⟨σ.d,0,none⟩),.int .u32 (n:Nat)] w (Hx σ R n w):=by
  obtain ⟨i,nb,pr,H,hnb,hreg⟩:=yC D ro
  have hlen:=ro.len
  refine enter (m:=76) Tryz.func49 O Tryz.ntmps49 O (Cy (az O (bI O (Lt (Cs (Cb ?_))))))
  refine Cl (fun m ρ w' => ∃ i nb pr,m=32 - nb∧ρ 0=.pointer (some ⟨σ.d,0,none⟩)∧ρ 1=.int .u32 (n:Nat)∧St w [σ.d,σ.rd] (Jm σ R i nb pr) w'∧nb≤25∧(nb≤14∨nb<n+8)∧xv σ.s R i nb) (32 - nb)
    ⟨i,nb,pr,rfl,rfl,rfl,H,ω,.inl hnb,hreg⟩ ?_
  clear H hreg hnb D
  rintro m ρ w1 ⟨i,nb,pr,rfl,h0,h1,H,hnb,hnb2,hreg⟩
  have hl:=hreg.length
  have hi:=hreg.i_le
  refine Cs (Cy (bH h0 (aK O (aU fF O (aC bD O (H.cell 0 O O) (ai h1 (bP O O (Lt ?_))))))))
  by_cases hlt:nb<n
  case pos =>
   by_cases hil:i<σ.s.length
   case pos =>
    have hc:=ro.small _ (List.getElem_mem hil)
    have hv:=hreg.val_more hil hc
    have hvl:=bK R nb
    have hvl2:=bK R (nb+8)
    refine CT O ω (Ck (tn (Cb (Cy (bH h0 (aK O (aU od O (aC uX O (H.cell 0 O O) (mC O g9 O (nW w1 σ.rd σ.sb σ.so σ.s.length σ.cap i pr σ.s[i] (H.blk (i:=1) O) (H.old (ro.bytes i hil) ro.okS.2) ro.ne.2.2.2.2 hil ω) O ?_)))))))))
    rintro e w2 ⟨rfl,hb,hf⟩
    replace H:=H.turnB 1 rfl hf hb
    refine ⟨_,O,?_⟩
    refine gr O (av O O (av O O (az O (bI O (Lt (Cs (Cy (db O (Lp (bj aX O O) (Lt (Cq O (Ck (tn ?_)))))))))))))
    have hp:2 ^ (nb+8)≤2 ^ 25:=Nat.pow_le_pow_right ω ω
    have e1:=xM (n:=nb) (a:=σ.s[i]) ω ω
    have e2:=Jd (b:=σ.s[i]) hvl ω
    refine Cs (ar 12 aJ κ ?_)
    intro w hsame
    replace H:=H.same hsame
    refine mY h0 (du O (dD fS O (aD bD O (H.cell 0 O O) (bW O (Sp (rp gx O (ew ω)) (mY h0 (du O (dD fF O (aD bD O (H.cell 0 O O) (Sp (ed O O ω e1) (Sp (sH O O e2) (Sn (aK O (aU fS O (bC H 0 dY O O O O ?_)))))))))))))))
    intro w H
    refine Lt (Cr (bH h0 (aK O (aU fF O (aC bD O (H.cell 0 O O) (ao O O (ew ω) (aK O (aU fF O (bC H 0 dY O O O O ?_)))))))))
    intro w H
    refine Ln (aF (tn ?_))
    rw [← hv] at H
    exact ⟨_,ω,i+1,nb+8,-1,O,h0,h1,H,ω,.inr ω,hreg.more hil⟩
   case neg =>
    obtain ⟨ae,hae⟩:=ro.gl.eof
    obtain ⟨au,hau⟩:=ro.gl.unx
    refine CT O ω (Ck (tn (Cb (Cy (bH h0 (aK O (aU od O (aC uX O (H.cell 0 O O) (mC O g9 O (oF w1 σ.rd σ.sb σ.so σ.s.length σ.cap i pr _ (H.blk (i:=1) O) (H.old hae (ro.okS.1.no δ)) (by have:=ro.ne.2.2.1;exact Nat.lt_of_lt_of_le δ this) ω ω) O ?_)))))))))
    rintro e w2 ⟨rfl,hb,hf⟩
    replace H:=H.turnB 1 rfl hf hb
    refine ⟨_,O,?_⟩
    refine gr O (av O O (av O O (az O (bI O (Lt (Cs (Cy (db O (Lp (bu aX O O) (Lt ?_))))))))))
    refine Cp O ?_
    refine Cs (Cy (db O (aC nk O (H.old hae (ro.okS.1.no δ)) (Lp (xF aX wu O O) (Lt ?_)))))
    refine Cp O ?_
    refine Cr (aC nk O (H.old hau (ro.okS.1.no δ)) (bI O (Lt (Cy (db O (az O (bI O (Lt (Ct (aE (bL (aE (bL (aE ?_))))))))))))))
    exact cr O O O (.inr ⟨ω,⟨_,O⟩,H.frm⟩)
  case neg =>
    have hvl:=bK R nb
    refine CF O ω (Cx (ax (ax (br (tn ?_)))))
    have hp:2 ^ nb≤2 ^ 25:=Nat.pow_le_pow_right ω ω
    have hp2:2 ^ n≤2 ^ 18:=Nat.pow_le_pow_right ω ω
    have hp3:=Nat.two_pow_pos n
    have e1:=xM (n:=n) (a:=1) ω ω
    have e2:IntKind.u32.wrap (((1 * 2 ^ n:Nat):Int) - 1)=((2 ^ n - 1:Nat):Int):=by rw [ew ω];omega
    have e3:=t8 (a:=val (R.take nb)) (n:=n) ω ω
    rw [← AD (R:=R) (by omega:n≤nb)] at e3
    have e4:=rS (a:=val (R.take nb)) (n:=n) ω
    rw [← oX (by omega:n≤nb) hreg.nb_le] at e4
    refine Cy (bH h0 (aK O (aU fS O (aC bD O (H.cell 0 O O) (ai h1 (Lp (ed O O ω e1) (bw O O e2 (Lp (gZ O O e3) (az O (Lt (Cy (bH h0 (aK O (aU fS O (aC bD O (H.cell 0 O O) (ai h1 ?_))))))))))))))))
    refine Lp (d6 O O ω e4) (aK O (aU fS O (bC H 0 dY O O O O ?_)))
    intro w H
    refine Lt (Cy (bH h0 (aK O (aU fF O (aC bD O (H.cell 0 O O) (ai h1 (bw (r:=((nb - n:Nat):Int)) O O (by rw [ew ω];omega) (aK O (aU fF O (bC H 0 dY O O O O ?_))))))))))
    intro w H
    refine Lt (Cy (ai O (az O (bI O (Lt (Ct ?_))))))
    exact cr O O O (.inl ⟨ω,O,o9 H ω (hreg.less ω),H.frm⟩)
theorem DR (σ:pL) (R:aM) (n:Nat) (hn:n≤18) (hR:n≤R.length) (w:World) (D:(cD σ R).pred w) (ro:RO σ w) :
    Calls Tryz.prog 49 #[.pointer (some ⟨σ.d,0,none⟩),.int .u32 (n:Nat)] w fun e w' => e=.returned (.tuple #[.int .u32 (val (R.take n):Nat),.nilIface])∧(cD σ (R.drop n)).pred w'∧cf [σ.d,σ.rd] w w' :=
  (BG σ R n hn w D ro).mono fun e w' h => by
    rcases h with ⟨_,h⟩ | ⟨h,_⟩
    · exact h
    · omega
theorem uF (σ:pL) (R:aM) (n:Nat) (hn:n≤18) (hR:R.length<n) (w:World) (D:(cD σ R).pred w) (ro:RO σ w) :
    Calls Tryz.prog 49 #[.pointer (some ⟨σ.d,0,none⟩),.int .u32 (n:Nat)] w fun e w' => (∃ a,e=.returned (.tuple #[.int .u32 0,.iface 149 (.pointer (some a))]))∧cf [σ.d,σ.rd] w w' :=
  (BG σ R n hn w D ro).mono fun e w' h => by
    rcases h with ⟨h,_⟩ | ⟨_,h⟩
    · omega
    · exact h
theorem RO.frm {σ:pL} {w0 w:World} {S:List Nat} {l:List e_} (ro:RO σ w0) (H:St w0 S l w) (hS:zG σ S):RO σ w:=ro.keep H.frm hS
section
variable {w0 w:World} {S:List Nat} {l:List e_} {σ:pL} {R:aM}
theorem St.dec (H:St w0 S l w) (i:Nat) {R':aM} {w':World} (hi:l[i]?=some (cD σ R)) (hf:cf [σ.d,σ.rd] w w') (hr:(cD σ R').pred w'):St w0 S (l.set i (cD σ R')) w' :=
  H.turn hi hf hr (cK σ R') (fun b hb => .inl hb)
theorem St.decFrm (H:St w0 S l w) {i:Nat} {w':World} (hi:l[i]?=some (cD σ R)) (hf:cf [σ.d,σ.rd] w w'):cf S w0 w' :=
  H.frm.then hf (fun b hb => H.own _ (List.mem_of_getElem? hi) b hb)
variable {n:Nat} {ops:Array Oper} {Q:cY} {rest:List Oper} {ρ:dK} {ty:TypeId} {pos:String} {after:Array Edge} {x y:Operand} {d k:Nat} {ts:Array TypeId}
theorem dB (H:St w0 S l w) (i:Nat) (hi:l[i]?=some (cD σ R)) (ro:RO σ w0) (hS:zG σ S) (hk:k≤18) (hR:k≤R.length) (hd:Nat.blt d n=true) (hx:ev ρ x=.pointer (some ⟨σ.d,0,none⟩)) (hy:ev ρ y=.int .u32 (k:Nat))
    (h:∀ w',St w0 S (l.set i (cD σ (R.drop k))) w'→VL Tryz.prog n ops Q rest (eW ρ d (.tuple #[.int .u32 (val (R.take k):Nat),.nilIface])) w') :
    VL Tryz.prog n ops Q (⟨some d,.call ⟨.value (.func 49),#[x,y],ts⟩,ty,pos,after,none⟩ :: rest) ρ w :=
  aS hd xO (DR σ R k hk hR w (H.get hi) (ro.frm H hS)) (by simp [hx,hy]) fun e w' ⟨he,hr,hf⟩ => ⟨_,he,h _ (H.dec i hi hf hr)⟩
theorem ri (H:St w0 S l w) (i:Nat) (hi:l[i]?=some (cD σ R)) (ro:RO σ w0) (hS:zG σ S) (hk:k≤18) (hR:R.length<k) (hd:Nat.blt d n=true) (hx:ev ρ x=.pointer (some ⟨σ.d,0,none⟩)) (hy:ev ρ y=.int .u32 (k:Nat))
    (h:∀ w' a,cf S w0 w'→VL Tryz.prog n ops Q rest (eW ρ d (.tuple #[.int .u32 0,.iface 149 (.pointer (some a))])) w') :
    VL Tryz.prog n ops Q (⟨some d,.call ⟨.value (.func 49),#[x,y],ts⟩,ty,pos,after,none⟩ :: rest) ρ w :=
  aS hd xO (uF σ R k hk hR w (H.get hi) (ro.frm H hS)) (by simp [hx,hy]) fun e w' ⟨⟨a,he⟩,hf⟩ => ⟨_,he,h _ a (H.decFrm hi hf)⟩
theorem dJ (H:St w0 S l w) (i:Nat) (hi:l[i]?=some (cD σ R)) (ro:RO σ w0) (hS:zG σ S) (hk:k≤18) (hR:R.length<k) (hd:Nat.blt d n=true) (hx:ev ρ x=.pointer (some ⟨σ.d,0,none⟩)) (hy:ev ρ y=.int .u32 (k:Nat))
    (h:∀ w' a,St w0 S (l.eraseIdx i) w'→VL Tryz.prog n ops Q rest (eW ρ d (.tuple #[.int .u32 0,.iface 149 (.pointer (some a))])) w') :
    VL Tryz.prog n ops Q (⟨some d,.call ⟨.value (.func 49),#[x,y],ts⟩,ty,pos,after,none⟩ :: rest) ρ w :=
  aS hd xO (uF σ R k hk hR w (H.get hi) (ro.frm H hS)) (by simp [hx,hy]) fun e w' ⟨⟨a,he⟩,hf⟩ => ⟨_,he,h _ a (H.lost hi hf)⟩
theorem EI {lo:List Oper} {fuel:Nat} {listed:Array Bool} (i:Nat) (hio:lo[i]?=some ⟨some d,.call ⟨.value (.func 49),#[x,y],ts⟩,ty,pos,after,none⟩) (hr:Region.ready .any lo.toArray listed=[i])
    (H:St w0 S l w) (j:Nat) (hi:l[j]?=some (cD σ R)) (ro:RO σ w0) (hS:zG σ S) (hk:k≤18) (hR:k≤R.length) (hd:Nat.blt d n=true) (hx:ev ρ x=.pointer (some ⟨σ.d,0,none⟩)) (hy:ev ρ y=.int .u32 (k:Nat))
    (h:∀ w',St w0 S (l.set j (cD σ (R.drop k))) w'→VH Tryz.prog n lo.toArray Q (cf S w0) fuel (listed.setIfInBounds i true) (eW ρ d (.tuple #[.int .u32 (val (R.take k):Nat),.nilIface])) w') :
    VH Tryz.prog n lo.toArray Q (cf S w0) (fuel+1) listed ρ w :=
  gA i hio hr hd xO (DR σ R k hk hR w (H.get hi) (ro.frm H hS)) (by simp [hx,hy]) fun e w' ⟨he,hr,hf⟩ => ⟨_,he,(H.dec j hi hf hr).frm,h _ (H.dec j hi hf hr)⟩
theorem Fw {lo:List Oper} {fuel:Nat} {listed:Array Bool} (i:Nat) (hio:lo[i]?=some ⟨some d,.call ⟨.value (.func 49),#[x,y],ts⟩,ty,pos,after,none⟩) (hr:Region.ready .any lo.toArray listed=[i])
    (H:St w0 S l w) (j:Nat) (hi:l[j]?=some (cD σ R)) (ro:RO σ w0) (hS:zG σ S) (hk:k≤18) (hR:R.length<k) (hd:Nat.blt d n=true) (hx:ev ρ x=.pointer (some ⟨σ.d,0,none⟩)) (hy:ev ρ y=.int .u32 (k:Nat))
    (h:∀ w' a,St w0 S (l.eraseIdx j) w'→VH Tryz.prog n lo.toArray Q (cf S w0) fuel (listed.setIfInBounds i true) (eW ρ d (.tuple #[.int .u32 0,.iface 149 (.pointer (some a))])) w') :
    VH Tryz.prog n lo.toArray Q (cf S w0) (fuel+1) listed ρ w :=
  gA i hio hr hd xO (uF σ R k hk hR w (H.get hi) (ro.frm H hS)) (by simp [hx,hy]) fun e w' ⟨⟨a,he⟩,hf⟩ => ⟨_,he,(H.lost hi hf).frm,h _ a (H.lost hi hf)⟩
end
end Go.Proofs.YtmgemcffhbnpfaaGreatDoor
set_option maxHeartbeats 1000000
namespace Go.Proofs.YtmgemcffhbnpfaaGreatDoor
open Go Go.ChangeShapes Go.WideShapes Go.ChangeAt Go.RowKit
theorem tm {P:Program} {w:World}:∀ (l:List (String × DataW Unit)) (ps:List MemPlace),DataW.LaidVars P w l ps→∀ n d,(n,d) ∈ l →
  ∃ g t cs fuel p,P.globalNamed n=some g∧(P.globals[g]?).map (·.type)=some t∧w.var? P n=some cs∧DataW.trod (fun _ => ()) P w 0 (fun _ => true) false fuel t cs.toList=some (d,p)∧∀ x ∈ MemPlace.row ⟨g,0,none⟩ cs.size++p,x ∈ ps
 | [],ps,h,n,d,hm => by cases hm
 | (n1,d1) :: r,ps,h,n,d,hm => by
  obtain ⟨g,t,cs,fuel,p,q,h1,h2,h3,h4,h5,rfl⟩:=h
  rcases List.mem_cons.1 hm with e | hm
  ·cases e
   exact ⟨g,t,cs,fuel,p,h1,h2,h3,h4,fun x hx => by rw [List.mem_append];exact .inl hx⟩
  ·obtain ⟨g',t',cs',fuel',p',k1,k2,k3,k4,k5⟩:=tm r q h5 n d hm
   exact ⟨g',t',cs',fuel',p',k1,k2,k3,k4,fun x hx => by rw [List.mem_append];exact .inr (k5 x hx)⟩
theorem HR {H:Type} {enc:TypeId × Value→H} {P:Program} {w:World} {base:Nat} {sp:Nat→Bool} {held:Bool} {fuel:Nat} {t:TypeId} {k:IntKind} {c:Value} {y:DataW H × List MemPlace}
  (ht:P.underlying t=some (.int k)) (h:DataW.trod enc P w base sp held fuel t [c]=some y):∃ n,c=.int k n∧y=(.lit (.int k n),[]):=by
 cases fuel with
 | zero => simp [DataW.trod] at h
 | succ fuel =>
  cases c <;> simp [DataW.trod,ht] at h
  rename_i k' n
  obtain ⟨⟨rfl,_⟩,rfl⟩:=h
  exact ⟨n,O,O⟩
theorem AX {H:Type} {enc:TypeId × Value→H} {P:Program} {w:World} {name:String} {g:Nat} {base:Nat} {sp:Nat→Bool} {held:Bool} {fuel:Nat} {t e n:Nat} {k:IntKind} {cs:Array Value} {p:List MemPlace} (ls:List Nat)
  (ht:P.underlying t=some (.array n e)) (he:P.underlying e=some (.int k)) (hc:P.cellsOf e=1) (hct:P.cellsOf t=n) (hl:ls.length=n) (hg:P.globalNamed name=some g) (hv:w.var? P name=some cs)
  (h:DataW.trod enc P w base sp held fuel t cs.toList=some (.agg (ls.map fun v => .lit (.int k ((v:Nat):Int))),p)):pD w g k ls:=by
 obtain ⟨xs,m,rfl,hx,hlen,hxl,hel⟩:=DataW.trod_array ht h
 simp only [Prod.mk.injEq,DataW.agg.injEq] at hx
 intro j hj
 rw [Nat.zero_add,World.var?_cell hg hv j]
 have hj2:j<n:=ω
 have h1:=hel j hj2
 rw [hc,Nat.mul_one] at h1
 have hjc:j<cs.toList.length:=ω
 have e1:(cs.toList.drop j).take 1=[cs.toList[j]]:=by rw [List.drop_eq_getElem_cons hjc];rfl
 have e2:xs[j]?=some xs[j]:=List.getElem?_eq_getElem ω
 rw [e1,e2] at h1
 obtain ⟨v,hv1,hv2⟩:=HR he h1
 have e3:=congrArg (fun l => l[j]?) hx.1
 simp only [List.getElem?_map,e2,Option.map_some,hv2] at e3
 rw [List.getElem?_eq_getElem hj] at e3
 simp at e3
 have e4:ls.getD j 0=ls[j]:=by simp [hj]
 rw [e4]
 have:cs[j]?=some (cs.toList[j]):=by rw [← Array.getElem?_toList];exact List.getElem?_eq_getElem hjc
 rw [this,hv1]
 rw [e3]
abbrev iZ:List (String × DataW Unit):=Rows.fnAnyRow.laid
theorem AH : "*" ++ "errors.errorString" = "*errors.errorString" := by decide
theorem Id (u : TypeId) (h : Tryz.prog.typeName? 3 u = some "*errors.errorString") : u = 149 :=
 typeName_ptr_named (nm := "errors.errorString") (by rw [AH]; kernel_rfl) (by kernel_rfl) (by decide) u (by rw [AH]; exact h)
theorem AP {w:World} {name:String} {g:Nat} {t fuel:Nat} {cs:Array Value} {p:List MemPlace} {text:List UInt8} (ht:t=64) (hg:Tryz.prog.globalNamed name=some g) (hv:w.var? Tryz.prog name=some cs)
  (h : DataW.trod (fun _ => ()) Tryz.prog w 0 (fun _ => true) false fuel t cs.toList = some (.iface "*errors.errorString" (.ptr (.agg [.lit (.string text)])), p))
  (hok:∀ u v,cs.toList=[.iface u v]→Value.okWide Tryz.prog w .any 0 u v):tO w g:=by
 subst ht
 obtain ⟨a,s,hcs,_⟩:=errorString_of_trod Tryz.underlying64 Id Tryz.underlying149 Tryz.underlying151 rfl rfl Tryz.underlying9 κ κ h hok
 refine ⟨a,?_⟩
 rw [World.var?_cell hg hv 0,← Array.getElem?_toList,hcs]
 rfl
theorem Jl : Tryz.prog.globalNamed "tintslate/pub/image/vp8l.inverseTransforms" = some 0 := by kernel_rfl
theorem DD {W:World} (h:laidMetH Tryz.prog iZ W):laidMet Tryz.prog (iZ.filter fun x => x.2.handleName?.isNone) W:=by
 have h':laidMet Tryz.prog (iZ.filter fun x => x.2.handleName?.isNone) W∧handlesMet Tryz.prog (iZ.filter fun x => x.2.handleName?.isSome) W:=h
 exact h'.1
theorem wt {W:World} (h:laidMetH Tryz.prog iZ W):Gl W:=by
 obtain ⟨ps,hps,_,hrows⟩:=DD h
 have mem:=tm _ ps hps
 have err : ∀ (n : String) (g : Nat) (text : List UInt8), Tryz.prog.globalNamed n = some g → (Tryz.prog.globals[g]?).map (·.type) = some 64 → (n, DataW.iface "*errors.errorString" (.ptr (.agg [.lit (.string text)]))) ∈ (iZ.filter fun x => x.2.handleName?.isNone) → tO W g := by
  intro n g text hg ht hm
  obtain ⟨g',t,cs,fuel,p,k1,k2,k3,k4,k5⟩:=mem n _ hm
  obtain rfl:=Option.some.inj (hg.symm.trans k1)
  obtain rfl:=Option.some.inj (ht.symm.trans k2)
  refine AP O hg k3 k4 fun u v e => ?_
  have hcs:0<cs.size:=by rw [← Array.length_toList,e];simp
  refine (hrows g 0 (k5 _ (List.mem_append_left _ ?_))).2 u v ?_
  ·simp only [MemPlace.row,List.mem_map,List.mem_range]
   exact ⟨0,hcs,O⟩
  ·rw [World.var?_cell hg k3 0,← Array.getElem?_toList,e]
   rfl
 have tab:∀ (n:String) (g t e m:Nat) (k:IntKind) (ls:List Nat),Tryz.prog.globalNamed n=some g→(Tryz.prog.globals[g]?).map (·.type)=some t→Tryz.prog.underlying t=some (.array m e)→Tryz.prog.underlying e=some (.int k)→Tryz.prog.cellsOf e=1→Tryz.prog.cellsOf t=m→ls.length=m →
   (n,DataW.agg (ls.map fun v => .lit (.int k ((v:Nat):Int)))) ∈ (iZ.filter fun x => x.2.handleName?.isNone)→pD W g k ls:=by
  intro n g t e m k ls hg ht hu he hc hct hl hm
  obtain ⟨g',t',cs,fuel,p,k1,k2,k3,k4,_⟩:=mem n _ hm
  obtain rfl:=Option.some.inj (hg.symm.trans k1)
  obtain rfl:=Option.some.inj (ht.symm.trans k2)
  exact AX ls hu he hc hct hl hg k3 k4
 have trev : pD W 10 .u8 gq := tab "tintslate/pub/image/vp8l.reverseBits" _ 197 5 256 .u8 _ (by kernel_rfl) (by kernel_rfl) (by kernel_rfl) (by kernel_rfl) (by kernel_rfl) (by kernel_rfl) rfl (List.mem_filter.2 ⟨by unfold iZ Rows.fnAnyRow; simp only [List.mem_cons]; repeat (first | exact .inl rfl | refine .inr ?_), rfl⟩)
 have hmax:∀ g c,W.cell? ⟨g,0,none⟩=some c→g<W.heap.size:=fun g c hc => World.block_lt_of_cell? W _ hc
 refine ⟨?_, err "io.EOF" _ _ (by kernel_rfl) (by kernel_rfl) (List.mem_filter.2 ⟨by unfold iZ Rows.fnAnyRow; simp only [List.mem_cons]; repeat (first | exact .inl O | refine .inr ?_), rfl⟩),
  err "io.ErrUnexpectedEOF" _ _ (by kernel_rfl) (by kernel_rfl) (List.mem_filter.2 ⟨by unfold iZ Rows.fnAnyRow; simp only [List.mem_cons]; repeat (first | exact .inl rfl | refine .inr ?_), rfl⟩),
  err "tintslate/pub/image/vp8l.errInvalidCodeLengths" _ _ (by kernel_rfl) (by kernel_rfl) (List.mem_filter.2 ⟨by unfold iZ Rows.fnAnyRow; simp only [List.mem_cons]; repeat (first | exact .inl rfl | refine .inr ?_), rfl⟩),
  err "tintslate/pub/image/vp8l.errInvalidHuffmanTree" _ _ (by kernel_rfl) (by kernel_rfl) (List.mem_filter.2 ⟨by unfold iZ Rows.fnAnyRow; simp only [List.mem_cons]; repeat (first | exact .inl rfl | refine .inr ?_), rfl⟩),
  trev,
  tab "tintslate/pub/image/vp8l.codeLengthCodeOrder" _ 190 5 19 .u8 _ (by kernel_rfl) (by kernel_rfl) (by kernel_rfl) (by kernel_rfl) (by kernel_rfl) (by kernel_rfl) rfl (List.mem_filter.2 ⟨by unfold iZ Rows.fnAnyRow; simp only [List.mem_cons]; repeat (first | exact .inl rfl | refine .inr ?_), rfl⟩),
  tab "tintslate/pub/image/vp8l.repeatBits" _ 194 5 3 .u8 _ (by kernel_rfl) (by kernel_rfl) (by kernel_rfl) (by kernel_rfl) (by kernel_rfl) (by kernel_rfl) rfl (List.mem_filter.2 ⟨by unfold iZ Rows.fnAnyRow; simp only [List.mem_cons]; repeat (first | exact .inl rfl | refine .inr ?_), rfl⟩),
  tab "tintslate/pub/image/vp8l.repeatOffsets" _ 194 5 3 .u8 _ (by kernel_rfl) (by kernel_rfl) (by kernel_rfl) (by kernel_rfl) (by kernel_rfl) (by kernel_rfl) rfl (List.mem_filter.2 ⟨by unfold iZ Rows.fnAnyRow; simp only [List.mem_cons]; repeat (first | exact .inl rfl | refine .inr ?_), rfl⟩),
  tab "tintslate/pub/image/vp8l.alphabetSizes" _ 177 36 5 .u32 _ (by kernel_rfl) (by kernel_rfl) (by kernel_rfl) (by kernel_rfl) (by kernel_rfl) (by kernel_rfl) rfl (List.mem_filter.2 ⟨by unfold iZ Rows.fnAnyRow; simp only [List.mem_cons]; repeat (first | exact .inl rfl | refine .inr ?_), rfl⟩),
  tab "tintslate/pub/image/vp8l.distanceMapTable" _ 182 5 120 .u8 _ (by kernel_rfl) (by kernel_rfl) (by kernel_rfl) (by kernel_rfl) (by kernel_rfl) (by kernel_rfl) rfl (List.mem_filter.2 ⟨by unfold iZ Rows.fnAnyRow; simp only [List.mem_cons]; repeat (first | exact .inl rfl | refine .inr ?_), rfl⟩), ?_⟩
 ·have:=hmax 10 _ (trev 0 δ)
  show nG≤_
  unfold nG
  omega
 ·obtain ⟨g, t, cs, fuel, p, k1, k2, k3, k4⟩ := h.funcs (n := "tintslate/pub/image/vp8l.inverseTransforms") (by unfold iZ Rows.fnAnyRow; simp only [List.mem_cons]; repeat (first | exact .inl rfl | refine .inr ?_))
  obtain rfl:=Option.some.inj (Jl.symm.trans k1)
  obtain rfl:=Option.some.inj ((show (Tryz.prog.globals[(0:Nat)]?).map (·.type)=some 121 by kernel_rfl).symm.trans k2)
  obtain ⟨xs,m,rfl,hx,hlen,hxl,hel⟩:=DataW.trod_array Tryz.underlying121 k4
  simp only [Prod.mk.injEq] at hx
  have hx1:=hx.1
  have hce:Tryz.prog.cellsOf 120=1:=κ
  have hct:Tryz.prog.cellsOf 121=4:=κ
  rw [hct] at hlen
  have key:∀ (j f0:Nat) (b:UInt8) (r:List UInt8),j<4→(xs.map (·.1))[j]?=some (.held (b :: r))→((List.range Tryz.prog.funcs.size).filter fun f => (Tryz.prog.funcs[f]?).any (·.name.toUTF8.data.toList == b :: r))=[f0]→W.cell? ⟨0,j,none⟩=some (.func (.func f0) #[] #[]):=by
   intro j f0 b r hj hxj hone
   have h1:=hel j hj
   rw [hce,Nat.mul_one] at h1
   have hjc:j<cs.toList.length:=ω
   have e1:(cs.toList.drop j).take 1=[cs.toList[j]]:=by rw [List.drop_eq_getElem_cons hjc];rfl
   have e2:xs[j]?=some xs[j]:=List.getElem?_eq_getElem ω
   rw [List.getElem?_map,e2,Option.map_some] at hxj
   rw [e1,e2] at h1
   have h2:xs[j]=(.held (b :: r),xs[j].2):=Prod.ext (Option.some.inj hxj) rfl
   rw [h2] at h1
   have h3:=func_of_trod (f0:=f0) Tryz.underlying120 hone h1
   rw [World.var?_cell Jl k3 j,← Array.getElem?_toList,List.getElem?_eq_getElem hjc,h3]
  intro j f hj
  have hj4:j<4:=(List.getElem?_eq_some_iff.1 hj).1
  have hxx:xs.map (·.1)=[.held [116,105,110,116,115,108,97,116,101,47,112,117,98,47,105,109,97,103,101,47,118,112,56,108,46,105,110,118,101,114,115,101,80,114,101,100,105,99,116,111,114],.held [116,105,110,116,115,108,97,116,101,47,112,117,98,47,105,109,97,103,101,47,118,112,56,108,46,105,110,118,101,114,115,101,67,114,111,115,115,67,111,108,111,114],.held [116,105,110,116,115,108,97,116,101,47,112,117,98,47,105,109,97,103,101,47,118,112,56,108,46,105,110,118,101,114,115,101,83,117,98,116,114,97,99,116,71,114,101,101,110],.held [116,105,110,116,115,108,97,116,101,47,112,117,98,47,105,109,97,103,101,47,118,112,56,108,46,105,110,118,101,114,115,101,67,111,108,111,114,73,110,100,101,120,105,110,103]]:=by
   have e:(DataW.agg (xs.map (·.1)):DataW (List UInt8))=_:=hx1.symm
   exact DataW.agg.inj e
  match j,hj4,hj with
  | 0,_,hj => cases hj;exact key 0 _ _ _ δ (by rw [hxx];rfl) κ
  | 1,_,hj => cases hj;exact key 1 _ _ _ δ (by rw [hxx];rfl) κ
  | 2,_,hj => cases hj;exact key 2 _ _ _ δ (by rw [hxx];rfl) κ
  | 3,_,hj => cases hj;exact key 3 _ _ _ δ (by rw [hxx];rfl) κ
end Go.Proofs.YtmgemcffhbnpfaaGreatDoor
namespace Go.Proofs.YtmgemcffhbnpfaaGreatDoor
open Go
def bT (w:World) (a:Option Addr) (c:Nat) (e:TypeId) (k n:Nat) (xs:List Value):Prop :=
 (a=none∧c=0∧n=0∧xs=[])∨∃ g cur,a=aT g∧ff w g cur e∧n≤c∧c≤maxLen∧c * k≤cur.length∧cur.take (n * k)=xs
def bQ:Option Addr→List Nat
 | some a => [a.block]
 | none => []
def aA (a:Option Addr) (c:Nat) (e:TypeId) (k n:Nat) (xs:List Value):e_:=⟨bQ a,fun w => bT w a c e k n xs⟩
theorem cI (a:Option Addr) (c:Nat) (e:TypeId) (k n:Nat) (xs:List Value):(aA a c e k n xs).Local∧(aA a c e k n xs).In:=by
 refine ⟨fun w w' h hp => ?_,fun w hp b hb => ?_⟩
 ·rcases hp with hp | ⟨g,cur,rfl,h1,h2⟩
  ·exact .inl hp
  ·exact .inr ⟨g,cur,O,(h g (by simp [aA,bQ])).trans h1,h2⟩
 ·rcases hp with ⟨rfl,_⟩ | ⟨g,cur,rfl,h1,h2⟩
  ·simp [aA,bQ] at hb
  ·simp only [aA,bQ,List.mem_singleton] at hb
   subst hb
   exact h1.lt
theorem bT.len {w:World} {a:Option Addr} {c:Nat} {e:TypeId} {k n:Nat} {xs:List Value} (h:bT w a c e k n xs):xs.length=n * k:=by
 rcases h with ⟨_,_,rfl,rfl⟩ | ⟨g,cur,_,_,h1,_,h2,rfl⟩
 ·simp
 ·rw [List.length_take]
  have:=Nat.mul_le_mul_right k h1
  omega
theorem bT.cell {w:World} {a:Option Addr} {c:Nat} {e:TypeId} {k n:Nat} {xs:List Value} (h:bT w a c e k n xs) (hn:0<n):∃ g,a=aT g∧∀ j v,xs[j]?=some v→w.cell? ⟨g,j,none⟩=some v:=by
 rcases h with ⟨_,_,rfl,_⟩ | ⟨g,cur,rfl,h1,_,_,h2,rfl⟩
 ·omega
 ·refine ⟨g,O,fun j v hv => h1.cellv ?_⟩
  rw [List.getElem?_take] at hv
  split at hv
  ·exact hv
  ·cases hv
section
variable {P:Program} {w:World} {t ty el by_:Nat} {zs:List Value} {a:Option Addr} {c n m c2 b off:Nat} {xs news:List Value}
theorem wB (w:World) (g:Nat) (cur cur':List Value) (e:TypeId) (h:ff w g cur e):ff (w.setRow g cur'.toArray) g cur' e:=setRow_heap w g cur.toArray cur'.toArray e _ h
theorem su (F:MK P t el by_ zs) (hz:0<zs.length) (hV:bT w a c el zs.length n xs) (hl:news.length=m * zs.length) (hc:∀ j u,news[j]?=some u→w.cell? ⟨b,off+j,none⟩=some u) (h1:∀ u ∈ news,u.oneCell'=true)
  (h63:n+m≤maxLen) (hby:(n+m) * by_≤140737488355328) :
  ∃ a' c' w',(Builtin.append_ #[t,t] ty #[.slice a n c,.slice (some ⟨b,off,none⟩) m c2]).run P w=.ok (.slice a' (n+m) c') w'∧bT w' a' c' el zs.length (n+m) (xs++news)∧cf (bQ a) w w'∧(∀ x ∈ bQ a',x ∈ bQ a∨w.heap.size≤x):=by
 obtain ⟨hu,i,z,hi,hz1,hz2,hz3,hz4⟩:=F
 have hzs:z.cells.size=zs.length:=by rw [← hz2];simp
 have hc':∀ j u,news[j]?=some u→w.cell? ((⟨b,off,none⟩:Addr).add j)=some u:=fun j u hj => by rw [ky];exact hc j u hj
 have hsmall:n+m≤9223372036854775807:=by simp only [maxLen] at h63;omega
 have hzero:∀ q,(Builtin.zeroCells z.cells q).toList.length=q * zs.length:=fun q => by
  have:=size_zeroCells z.cells q
  rw [hzs] at this
  simpa using this
 rcases hV with ⟨rfl,rfl,rfl,rfl⟩ | ⟨g,cur,rfl,hg,hnc,hcm,hcl,htk⟩
 ·by_cases hm:m=0
  ·subst hm
   have hn:news=[]:=List.eq_nil_of_length_eq_zero (by simpa using hl)
   subst hn
   refine ⟨none,0,w,?_,.inl ⟨O,O,O,O⟩,cf.refl _ _,by simp [bQ]⟩
   simp [Builtin.append_,run_underlying hu,sizeOf,typeInfo,hi,Builtin.lenOf,Builtin.firstCells,loadCells,loadCellsFrom]
  ·have hr:=run_append_nil (P:=P) w t ty el i z hu hi hz1 ⟨b,off,none⟩ m c2 news (by rw [hz3];exact hl) hc' ω ω (by subst hz4;rw [Nat.zero_add] at hby;omega)
   have hge:=grownCap_ge w m 0 el
   have hle:=grownCap_le_maxLen w m 0 el ω
   rw [Nat.zero_add]
   refine ⟨some ⟨w.heap.size,0,none⟩,grownCap w m 0 el,_,hr,.inr ⟨w.heap.size,news++(Builtin.zeroCells z.cells (grownCap w m 0 el - m)).toList,O,?_,hge,hle,?_,?_⟩,?_,by simp [bQ]⟩
   ·have:=ff.new w.drew (news++(Builtin.zeroCells z.cells (grownCap w m 0 el - m)).toList) el
    have e:(news++(Builtin.zeroCells z.cells (grownCap w m 0 el - m)).toList).toArray=news.toArray++Builtin.zeroCells z.cells (grownCap w m 0 el - m):=by apply Array.ext';simp
    rw [e] at this
    exact this
   ·rw [List.length_append,hzero,hl,← Nat.add_mul];exact Nat.mul_le_mul_right _ ω
   ·rw [List.nil_append,List.take_left' hl]
   ·exact (cf.drew _ w).trans (cf.new _ _ _)
 ·by_cases hroom:n+m≤c
  ·have hle1:=Nat.mul_le_mul_right zs.length hroom
   have hnl:(cur.take (n * zs.length)).length=n * zs.length:=by rw [List.length_take];have:=Nat.mul_le_mul_right zs.length hnc;omega
   rw [Nat.add_mul] at hle1
   have hr:=run_append_room (P:=P) w t ty el i hu hi g n c cur.toArray hg ⟨b,off,none⟩ m c2 news (by rw [hz3];exact hl) hc' h1 hroom (by rw [hz3];simp only [List.size_toArray];omega)
   rw [hz3] at hr
   refine ⟨aT g,c,_,hr,.inr ⟨g,_,O,wB w g cur _ el hg,hroom,hcm,?_,?_⟩,?_,by simp [bQ]⟩
   ·simp only [List.length_append,List.length_drop,hnl];omega
   ·rw [List.append_assoc,Nat.add_mul,← hl,List.take_append,hnl,List.take_of_length_le (by rw [hnl];omega),show n * zs.length+news.length - n * zs.length=news.length by omega,List.take_left,← htk]
   ·exact ⟨O,O,O,by simp,fun x _ hx => setRow_other w g x _ (fun e => hx (by simp [bQ,e]))⟩
  ·have hxl:xs.length=n * zs.length:=by rw [← htk,List.length_take];have:=Nat.mul_le_mul_right zs.length hnc;omega
   have holds:∀ j u,xs[j]?=some u→w.cell? ((⟨g,0,none⟩:Addr).add j)=some u:=fun j u hj => by
    rw [ky,Nat.zero_add]
    refine hg.cellv ?_
    rw [← htk,List.getElem?_take] at hj
    split at hj
    ·exact hj
    ·cases hj
   have hr:=run_append_grow (P:=P) w t ty el i z hu hi hz1 ⟨g,0,none⟩ n c xs (by rw [hz3];exact hxl) holds ⟨b,off,none⟩ m c2 news (by rw [hz3];exact hl) hc' ω ω (by subst hz4;exact growslice_fits ω hby)
   have hge:=grownCap_ge w (n+m) c el
   have hle:=grownCap_le_maxLen w (n+m) c el h63
   refine ⟨some ⟨w.heap.size,0,none⟩,grownCap w (n+m) c el,_,hr,.inr ⟨w.heap.size,xs++news++(Builtin.zeroCells z.cells (grownCap w (n+m) c el - (n+m))).toList,O,?_,hge,hle,?_,?_⟩,?_,by simp [bQ]⟩
   ·have:=ff.new w.drew (xs++news++(Builtin.zeroCells z.cells (grownCap w (n+m) c el - (n+m))).toList) el
    have e:(xs++news++(Builtin.zeroCells z.cells (grownCap w (n+m) c el - (n+m))).toList).toArray=xs.toArray++news.toArray++Builtin.zeroCells z.cells (grownCap w (n+m) c el - (n+m)):=by apply Array.ext';simp
    rw [e] at this
    exact this
   ·rw [List.length_append,List.length_append,hzero,hl,hxl,← Nat.add_mul,← Nat.add_mul];exact Nat.mul_le_mul_right _ ω
   ·exact List.take_left' (by rw [List.length_append,hl,hxl,Nat.add_mul])
   ·exact (cf.drew _ w).trans (cf.new _ _ _)
variable {w0:World} {S:List Nat} {l:List e_} {nn d:Nat} {ops:Array Oper} {Q:cY} {rest:List Oper} {ρ:dK} {pos:String} {after:Array Edge} {s x:Operand}
theorem dH (H:St w0 S l w) (i:Nat) (F:MK P t el by_ zs) (hz:0<zs.length) (hd:Nat.blt d nn=true) (hs:ev ρ s=.slice a n c) (hi:l[i]?=some (aA a c el zs.length n xs)) (hx:ev ρ x=.slice (some ⟨b,off,none⟩) m c2)
  (hl:news.length=m * zs.length) (hc:∀ j u,news[j]?=some u→w.cell? ⟨b,off+j,none⟩=some u) (h1:∀ u ∈ news,u.oneCell'=true) (h63:n+m≤maxLen) (hby:(n+m) * by_≤140737488355328)
  (h:∀ a' c' w',cf (bQ a) w w'→St w0 S (l.set i (aA a' c' el zs.length (n+m) (xs++news))) w'→VL P nn ops Q rest (eW ρ d (.slice a' (n+m) c')) w') :
  VL P nn ops Q (⟨some d,.call ⟨.builtin .append,#[s,x],#[t,t]⟩,ty,pos,after,none⟩ :: rest) ρ w:=by
 obtain ⟨a',c',w',hr,hV,hf,hfoot⟩:=su (ty:=ty) (c2:=c2) F hz (H.get hi) hl hc h1 h63 hby
 refine Lo hd (v:=.slice a' (n+m) c') (w':=w') ?_ (h a' c' w' hf (H.turn hi hf hV (cI _ _ _ _ _ _) hfoot))
 unfold dE
 simp only [execOp,resolve,Sem.run_bind,Sem.run_pure,Result.andThen_ok,Go.invoke,builtin,List.map_toArray,List.map_cons,List.map_nil,hs,hx,hr]
end
section
variable {P:Program} {e:Operand→Value} {d:Option Tmp} {ty:TypeId} {pos:String} {after:Array Edge} {g:Option (Nat × Bool)} {w:World}
variable {t:TypeId} {x y:Operand} {k k':IntKind} {m m':Int}
theorem yN {el size:Nat} {lo hi:Operand} {b off l c:Nat} (p q:Nat) (F:SL P t el size) (hx:e x=.slice (some ⟨b,off,none⟩) l c) (h1:e lo=.int k m) (h2:e hi=.int k' m') (hp:m=(p:Int)) (hq:m'=(q:Int)) (hpq:p≤q) (hqc:q≤c) (hpc:p<c) :
  dE P e ⟨d,.slice t x (some lo) (some hi) none,ty,pos,after,g⟩ w (.slice (some ⟨b,off+p * size,none⟩) (q - p) (c - p)) w:=by
 subst hp hq
 unfold dE
 simp only [execOp,hx,Option.map_none,Option.map_some,h1,h2,Sem.run_bind,Instr.sliceAt,Instr.slice,run_underlying F.1,Result.andThen_ok,Instr.sliceBounds,Instr.sliceBound,asIntOf,Sem.run_pure,if_pos (show 0≤(q:Int)∧(q:Int)≤(c:Int) by omega),if_pos (show 0≤(p:Int)∧(p:Int)≤(q:Int) by omega),Int.toNat_natCast,FF F.2 w]
 rw [if_neg ω]
 simp [Addr.add]
end
section
variable {P:Program} {w w0:World} {t ty el by_:Nat} {zs:List Value} {a:Option Addr} {c n m c2 b off:Nat} {xs news:List Value} {S:List Nat} {l:List e_} {nn d:Nat} {Q:cY} {lo:List Oper} {ρ:dK} {pos:String} {after:Array Edge} {s x:Operand} {fuel:Nat} {listed:Array Bool}
theorem E5 (i:Nat) (hio:lo[i]?=some ⟨some d,.call ⟨.builtin .append,#[s,x],#[t,t]⟩,ty,pos,after,none⟩) (hrd:Region.ready .any lo.toArray listed=[i]) (H:St w0 S l w) (j:Nat) (F:MK P t el by_ zs) (hz:0<zs.length) (hd:Nat.blt d nn=true) (hs:ev ρ s=.slice a n c) (hi:l[j]?=some (aA a c el zs.length n xs)) (hx:ev ρ x=.slice (some ⟨b,off,none⟩) m c2)
  (hl:news.length=m * zs.length) (hc:∀ j u,news[j]?=some u→w.cell? ⟨b,off+j,none⟩=some u) (h1:∀ u ∈ news,u.oneCell'=true) (h63:n+m≤maxLen) (hby:(n+m) * by_≤140737488355328)
  (h:∀ a' c' w',cf (bQ a) w w'→St w0 S (l.set j (aA a' c' el zs.length (n+m) (xs++news))) w'→VH P nn lo.toArray Q (cf S w0) fuel (listed.setIfInBounds i true) (eW ρ d (.slice a' (n+m) c')) w') :
  VH P nn lo.toArray Q (cf S w0) (fuel+1) listed ρ w:=by
 obtain ⟨a',c',w',hr,hV,hf,hfoot⟩:=su (ty:=ty) (c2:=c2) F hz (H.get hi) hl hc h1 h63 hby
 have H':=H.turn hi hf hV (cI _ _ _ _ _ _) hfoot
 refine JA i hio hrd hd (v:=.slice a' (n+m) c') (w':=w') ?_ H'.frm (h a' c' w' hf H')
 unfold dE
 simp only [execOp,resolve,Sem.run_bind,Sem.run_pure,Result.andThen_ok,Go.invoke,builtin,List.map_toArray,List.map_cons,List.map_nil,hs,hx,hr]
variable {parts:Array (Nat × Operand)} {len:Nat} {ops:Array Oper} {rest:List Oper}
theorem cH (H:St w0 S l w) (F:MK P t el by_ zs) (cs:List Value) (hd:Nat.blt d nn=true) {ps:List (Nat × Value)} (hp:(parts.toList.map fun q => (q.1,ev ρ q.2))=ps) (h24:len * zs.length≤2 ^ 24) (h0:len * zs.length≠0)
  (hf:Instr.fill (fun i => some (i * zs.length,zs.length)) (dk len zs).toArray ps=some cs.toArray)
  (h:∀ w' b,w.heap.size≤b→w0.heap.size≤b→St w0 S (aa b cs el :: l) w'→VL P nn ops Q rest (eW ρ d (.slice (aT b) len len)) w') :
  VL P nn ops Q (⟨some d,.buildSlice t len parts,ty,pos,after,none⟩ :: rest) ρ w:=by
 obtain ⟨hu,i,z,h1,h2,h3,h4,h5⟩:=F
 have hz:z.cells=zs.toArray:=by rw [← h3]
 have hzs:z.cells.size=zs.length:=by rw [hz];simp
 have hr:=run_buildSlice (P:=P) w t el len (parts.map fun q => (q.1,ev ρ q.2)) cs.toArray i z hu h1 h2 (by rw [h4];omega) (by rw [h4];exact h0) (by
  have e:madeCells zs.toArray (len * zs.length)=(dk len zs).toArray:=by rw [← iE]
  rw [h4,hz,Array.toList_map,hp,← hf,← e]
  rfl)
 refine Lo hd (v:=.slice (some ⟨w.heap.size,0,none⟩) len len) (w':=w.alloc (.cells cs.toArray el)) ?_ (h _ _ (Nat.le_refl _) H.high (H.new _ el))
 unfold dE
 simp only [execOp,Sem.run_bind,hr,Result.andThen_ok]
 rfl
end
def Jc (k:IntKind) (x:Int):Value→Bool
 | .int j y => decide (j=k) && decide (y=x)
 | _ => false
theorem p_ (k:IntKind) (x y:Int):Jc k x (.int k y)=decide (y=x):=by simp [Jc]
def rx (k:IntKind) (x:Int):List MapEntry→Option Value
 | [] => none
 | e :: r => bif Jc k x e.key then some e.val else rx k x r
def wT (k:IntKind) (es:List MapEntry):Prop:=∀ e ∈ es,∃ y,e.key=.int k y
theorem oY {k:IntKind} {x:Int}:∀ (es:List MapEntry) (i:Nat),wT k es→rx k x es=none→Instr.findNow (.int k) (.int k x) es i=some none
 | [],_,_,_ => rfl
 | e :: r,i,h,hs => by
  obtain ⟨y,hy⟩:=h e (by simp)
  have hr:wT k r:=fun e he => h e (List.mem_cons_of_mem _ he)
  simp only [rx,hy,p_] at hs
  by_cases hxy:y=x
  ·subst hxy;simp at hs
  ·simp only [hxy,decide_false,cond_false] at hs
   simp only [Instr.findNow,Instr.sameNow,hy,if_true]
   rw [show (x == y)=false by simpa using (Ne.symm hxy)]
   exact oY r (i+1) hr hs
theorem o4 {k:IntKind} {x:Int} {v:Value}:∀ (es:List MapEntry) (i:Nat),wT k es→rx k x es=some v →
  ∃ j e,es[j]?=some e∧e.key=.int k x∧e.val=v∧Instr.findNow (.int k) (.int k x) es i=some (some (i+j,v)) ∧
   ∀ (u:Value) y,rx k y (es.modify j fun e => { e with key:=.int k x,val:=u })=if y=x then some u else rx k y es
 | [],_,_,hs => by cases hs
 | e :: r,i,h,hs => by
  obtain ⟨y,hy⟩:=h e (by simp)
  have hr:wT k r:=fun e he => h e (List.mem_cons_of_mem _ he)
  simp only [rx,hy,p_] at hs
  by_cases hxy:y=x
  ·subst hxy
   simp only [decide_true,cond_true,Option.some.injEq] at hs
   refine ⟨0,e,O,hy,hs,by simp [Instr.findNow,Instr.sameNow,hy,hs],fun u z => ?_⟩
   simp only [List.modify_zero_cons,rx,hy,p_]
   by_cases hz:z=y
   ·subst hz;simp
   ·simp [hz,Ne.symm hz]
  ·simp only [hxy,decide_false,cond_false] at hs
   obtain ⟨j,e',h1,h2,h3,h4,h5⟩:=o4 r (i+1) hr hs
   refine ⟨j+1,e',by simpa using h1,h2,h3,?_,fun u z => ?_⟩
   ·simp only [Instr.findNow,Instr.sameNow,hy,if_true]
    rw [show (x == y)=false by simpa using (Ne.symm hxy)]
    simp only [h4]
    rw [show i+1+j=i+(j+1) by omega]
   ·simp only [List.modify_succ_cons,rx,h5 u z,hy,p_]
    by_cases hz:z=x
    ·subst hz
     simp [hxy]
    ·simp [hz]
theorem yW {k:IntKind} {x y:Int} {u:Value} {c:Nat}:∀ (es:List MapEntry),rx k x es=none→rx k y (es++[⟨.int k x,u,c⟩])=if y=x then some u else rx k y es
 | [],_ => by
  simp only [List.nil_append,rx,p_]
  by_cases h:y=x
  ·simp [h]
  ·simp [h,Ne.symm h]
 | e :: r,hs => by
  simp only [rx] at hs
  cases he:Jc k x e.key with
  | true => rw [he] at hs;cases hs
  | false =>
   rw [he] at hs
   simp only [List.cons_append,rx,yW r hs]
   by_cases h:y=x
   ·subst h;simp [he]
   ·simp [h]
def Mp (k:IntKind) (w:World) (b:Nat) (m:Int→Option Value):Prop:=∃ es clock,w.heap[b]?=some (.map es clock)∧wT k es.toList∧∀ x,rx k x es.toList=m x
def fx (k:IntKind) (b:Nat) (m:Int→Option Value):e_:=⟨[b],fun w => Mp k w b m⟩
theorem wM (k:IntKind) (b:Nat) (m:Int→Option Value):(fx k b m).Local:=fun w w' h hb => by
 obtain ⟨es,c,h1,h2⟩:=hb
 exact ⟨es,c,by rw [h b (by simp [fx])];exact h1,h2⟩
theorem DV (k:IntKind) (b:Nat) (m:Int→Option Value):(fx k b m).In:=fun w h x hx => by
 simp only [fx,List.mem_singleton] at hx
 subst hx
 obtain ⟨es,c,h1,h2⟩:=h
 exact (Array.getElem?_eq_some_iff.1 h1).1
section
variable {P:Program} {k:IntKind}
def JB (P:Program) (t:TypeId) (k:IntKind) (z:Value):Prop:=∃ kt et i,P.underlying t=some (.map kt et)∧P.underlying kt=some (.int k)∧P.info? et=some i∧i.zero=some z
theorem tZ {kt:TypeId} (h:P.underlying kt=some (.int k)) (bo:Bool) (v:Value) (w:World):(Instr.checkKey bo 10000 kt v).run P w=.ok () w:=by
 unfold Instr.checkKey
 rw [Sem.run_bind,run_underlying h]
 rfl
theorem wK {t:TypeId} {z:Value} (F:JB P t k z) {w:World} {b:Nat} {m:Int→Option Value} (h:Mp k w b m) (x:Int):(Instr.lookup t (.map (some b)) (.int k x) false).run P w=.ok ((m x).getD z) w:=by
 obtain ⟨kt,et,i,h1,h2,h3,h4⟩:=F
 obtain ⟨es,c,h5,h6,h7⟩:=h
 have hz:(zeroValue et).run P w=.ok z w:=by simp [zeroValue,typeInfo,h3,h4]
 have hg:(getObj b).run P w=.ok (.map es c) w:=by simp [getObj,Sem.run,h5]
 simp only [Instr.lookup,Sem.run_bind,run_underlying h1,Result.andThen_ok,hg,Sem.run_pure,tZ h2,Instr.findKey,run_underlying h2]
 cases hm:m x with
 | none =>
  rw [oY es.toList 0 h6 ((h7 x).trans hm)]
  simp [Sem.run_bind,hz]
 | some v =>
  obtain ⟨j,e,_,_,_,h8,_⟩:=o4 es.toList 0 h6 ((h7 x).trans hm)
  rw [h8]
  simp [Sem.run_bind]
theorem tQ {t:TypeId} {z:Value} (F:JB P t k z) {w:World} {b:Nat} {m:Int→Option Value} (h:Mp k w b m) (x:Int) (v:Value) :
  ∃ w',(Instr.mapUpdate t (.map (some b)) (.int k x) v).run P w=.ok () w'∧Mp k w' b (fun y => if y=x then some v else m y)∧cf [b] w w':=by
 obtain ⟨kt,et,i,h1,h2,h3,h4⟩:=F
 obtain ⟨es,c,h5,h6,h7⟩:=h
 have hg:(getObj b).run P w=.ok (.map es c) w:=by simp [getObj,Sem.run,h5]
 have hset:∀ o,(setObj b o).run P w=.ok () (ChangeMaps.setBlock w b o):=fun o => by
  simp [setObj,Sem.run,ChangeMaps.setBlock,h5]
 have hfrm:∀ o,cf [b] w (ChangeMaps.setBlock w b o):=fun o =>
  ⟨rfl,rfl,rfl,by simp [ChangeMaps.setBlock],fun i _ hi => ChangeMaps.heap_setBlock_other h5 o (by simpa using hi)⟩
 simp only [Instr.mapUpdate,Sem.run_bind,run_underlying h1,Result.andThen_ok,hg,tZ h2,Instr.findKey,run_underlying h2]
 cases hm:m x with
 | none =>
  have hs:=(h7 x).trans hm
  rw [oY es.toList 0 h6 hs]
  refine ⟨_,hset _,⟨_,_,ChangeMaps.heap_setBlock_same h5 _,?_,fun y => ?_⟩,hfrm _⟩
  ·intro e he
   simp only [Array.toList_push,List.mem_append,List.mem_singleton] at he
   rcases he with he | rfl
   ·exact h6 e he
   ·exact ⟨x,O⟩
  ·rw [Array.toList_push,yW es.toList hs,h7 y]
 | some u =>
  obtain ⟨j,e,h8,h9,h10,h11,h12⟩:=o4 es.toList 0 h6 ((h7 x).trans hm)
  rw [h11]
  have hk:(Instr.keyThatStays ((es[j]?.map (·.key)).getD (.int k x)) (.int k x)).run P w=.ok (.int k x) w:=by
   have:es[j]?=some e:=by rw [← h8];simp
   rw [this]
   simp [Instr.keyThatStays,h9,Instr.sameBits]
  simp only [Nat.zero_add,Sem.run_bind,Sem.run_pure,Result.andThen_ok,hk]
  refine ⟨_,hset _,⟨_,_,ChangeMaps.heap_setBlock_same h5 _,?_,fun y => ?_⟩,hfrm _⟩
  ·intro e' he
   obtain ⟨q,hq⟩:=List.mem_iff_getElem?.1 he
   simp only [Array.toList_modify,List.getElem?_modify] at hq
   by_cases hjq:j=q
   ·subst hjq
    rw [h8] at hq
    simp at hq
    exact ⟨x,by rw [← hq]⟩
   ·simp [hjq] at hq
    exact h6 e' (by rw [← Array.getElem?_toList] at hq;exact List.mem_of_getElem? hq)
  ·rw [Array.toList_modify,h12 v y,h7 y]
variable {w0 w:World} {S:List Nat} {l:List e_}
variable {n:Nat} {ops:Array Oper} {Q:cY} {rest:List Oper} {ρ:dK} {ty:TypeId} {pos:String} {after:Array Edge} {t:TypeId} {x y u:Operand} {b d:Nat} {v z:Value} {m:Int→Option Value} {q:Int}
theorem oU (k:IntKind) (H:St w0 S l w) (hd:Nat.blt d n=true)
  (h:∀ w' b,w.heap.size≤b→w0.heap.size≤b→St w0 S (fx k b (fun _ => none) :: l) w'→VL P n ops Q rest (eW ρ d (.map (some b))) w') :
  VL P n ops Q (⟨some d,.makeMap t none,ty,pos,after,none⟩ :: rest) ρ w:=by
 refine Lo hd (v:=.map (some w.heap.size)) (w':=w.alloc (.map #[] 0)) ?_ (h _ _ (Nat.le_refl _) H.high
  (H.add (cf.new [] w _) ⟨#[],0,by show (w.heap.push _)[w.heap.size]?=_;rw [Array.getElem?_push,if_pos rfl],by intro e he;simp at he,fun x => rfl⟩ ⟨wM _ _ _,DV _ _ _⟩ (by simp [fx])))
 unfold dE
 simp only [execOp,Sem.run_bind]
 rfl
theorem KI {e:Operand→Value} {d:Option Tmp} {g:Option (Nat × Bool)} (i:Nat) (H:St w0 S l w) (F:JB P t k z) (hi:l[i]?=some (fx k b m)) (hx:e x=.map (some b)) (hy:e y=.int k q) :
  dE P e ⟨d,.lookup t x y false,ty,pos,after,g⟩ w ((m q).getD z) w:=by
 have hm:Mp k w b m:=H.get hi
 unfold dE
 simp only [execOp,hx,hy,Sem.run_bind,wK F hm q,Result.andThen_ok]
 rfl
theorem oK {e:Operand→Value} {d:Option Tmp} {g:Option (Nat × Bool)} (i:Nat) (H:St w0 S l w) (F:JB P t k z) (hi:l[i]?=some (fx k b m)) (hx:e x=.map (some b)) (hy:e y=.int k q) (hv:(m q).getD z=v) :
  dE P e ⟨d,.lookup t x y false,ty,pos,after,g⟩ w v w:=hv ▸ KI i H F hi hx hy
theorem kH (i:Nat) (H:St w0 S l w) (F:JB P t k z) (hi:l[i]?=some (fx k b m)) (hx:ev ρ x=.map (some b)) (hy:ev ρ y=.int k q) (hu:ev ρ u=v)
  (h:∀ w',St w0 S (l.set i (fx k b (fun y => if y=q then some v else m y))) w'→VL P n ops Q rest ρ w') :
  VL P n ops Q (⟨none,.mapUpdate t x y u,ty,pos,after,none⟩ :: rest) ρ w:=by
 obtain ⟨w',h1,h2,h3⟩:=tQ F (show Mp k w b m from H.get hi) q v
 refine xZ (w':=w') ?_ (h _ (H.turn hi h3 h2 ⟨wM _ _ _,DV _ _ _⟩ (fun b hb => .inl hb)))
 unfold IW
 simp only [execOp,hx,hy,hu,Sem.run_bind,h1,Result.andThen_ok]
 rfl
end
inductive T where
 | leaf (s:Nat)
 | node (a b:T)
def T.depth:T→Nat
 | .leaf _ => 0
 | .node a b => max a.depth b.depth+1
def T.adv:T→aM→T × aM
 | .leaf s,R => (.leaf s,R)
 | .node a b,[] => (.node a b,[])
 | .node a b,true :: R => b.adv R
 | .node a b,false :: R => a.adv R
def T.walk (t:T) (R:aM):Option (Nat × aM) :=
 match t.adv R with
 | (.leaf s,R') => some (s,R')
 | (.node _ _,_) => none
theorem oS:∀ (t:T) (a b:aM),t.adv (a++b)=(t.adv a).1.adv ((t.adv a).2++b)
 | .leaf s,a,b => rfl
 | .node x y,[],b => rfl
 | .node x y,true :: a,b => oS y a b
 | .node x y,false :: a,b => oS x a b
theorem oR:∀ (t:T) (R:aM),∃ p,R=p++(t.adv R).2
 | .leaf s,R => ⟨[],rfl⟩
 | .node x y,[] => ⟨[],rfl⟩
 | .node x y,true :: R => let ⟨p,hp⟩:=oR y R;⟨true :: p,congrArg (true :: ·) hp⟩
 | .node x y,false :: R => let ⟨p,hp⟩:=oR x R;⟨false :: p,congrArg (false :: ·) hp⟩
theorem vP (t:T) (R:aM):(t.adv R).2=R.drop (R.length - (t.adv R).2.length):=by
 obtain ⟨p,hp⟩:=oR t R
 have hl:R.length=p.length+(t.adv R).2.length:=by have:=congrArg List.length hp;rw [List.length_append] at this;exact this
 generalize (t.adv R).2=r at *
 subst hp
 rw [List.length_append,Nat.add_sub_cancel,List.drop_left]
theorem l6:∀ (t:T) (R:aM) (x y:T),(t.adv R).1=.node x y→(t.adv R).2=[]
 | .leaf s,R,x,y,h => by simp [T.adv] at h
 | .node a b,[],x,y,h => rfl
 | .node a b,true :: R,x,y,h => l6 b R x y h
 | .node a b,false :: R,x,y,h => l6 a R x y h
theorem lS (a b:T) (c:Bool) (R:aM):(T.node a b).walk (c :: R)=(if c then b else a).walk R:=by cases c <;> rfl
theorem rK (t:T) (a b:aM):t.walk (a++b)=(t.adv a).1.walk ((t.adv a).2++b):=by
 unfold T.walk;rw [oS]
def sE (ns:List (Nat × Int)):Nat→T→Prop
 | i,.leaf s => ns[i]?=some (s,-1)
 | i,.node a b => ∃ (s c:Nat),ns[i]?=some (s,(c:Int))∧0<c∧sE ns c a∧sE ns (c+1) b
theorem sE.lt {ns:List (Nat × Int)} {i:Nat} {t:T} (h:sE ns i t):i<ns.length:=by
 cases t with
 | leaf s => exact (List.getElem?_eq_some_iff.1 h).1
 | node a b => obtain ⟨s,c,h1,_⟩:=h;exact (List.getElem?_eq_some_iff.1 h1).1
theorem sE.adv {ns:List (Nat × Int)}:∀ {t:T} {i:Nat} (R:aM),sE ns i t→∃ j,sE ns j (t.adv R).1
 | .leaf s,i,R,h => ⟨i,h⟩
 | .node a b,i,[],h => ⟨i,h⟩
 | .node a b,i,true :: R,⟨_,c,_,_,_,h⟩ => sE.adv R h
 | .node a b,i,false :: R,⟨_,c,_,_,h,_⟩ => sE.adv R h
def Lz (ns:List (Nat × Int)) (v:Nat):T × aM→Prop
 | (.leaf s,r) => s<65536∧v=s * 256+(7 - r.length)+1
 | (.node a b,_) => ∃ i,v=i * 256∧sE ns i (.node a b)
def Kr (ns:List (Nat × Int)) (t:T) (lut:Nat→Nat):Prop:=∀ x,x<128→Lz ns (lut x) (t.adv (aV x 7))
theorem Fc {c:Bool} {R:aM} {nb:Nat} (h:0<nb):val ((c :: R).take nb) % 2=c.toNat:=by
 obtain ⟨k,rfl⟩:∃ k,nb=k+1:=⟨nb - 1,ω⟩
 have:=Bool.toNat_le c
 simp only [List.take_succ_cons,val]
 omega
theorem Fq {c:Bool} {R:aM} {nb:Nat} (h:0<nb):val ((c :: R).take nb) / 2=val (R.take (nb - 1)):=by
 obtain ⟨k,rfl⟩:∃ k,nb=k+1:=⟨nb - 1,ω⟩
 have:=Bool.toNat_le c
 simp only [List.take_succ_cons,val,Nat.add_sub_cancel]
 omega
theorem wZ (a b:Int):sL .u32 a b=sL .u32 b a:=by unfold sL;rw [BitVec.and_comm]
theorem Li {R:aM} {nb:Nat} (h:7≤nb) (hR:nb≤R.length):aV (val (R.take nb) % 2 ^ 7) 7=R.take 7:=by
 rw [← AD h]
 have hl:(R.take 7).length=7:=by rw [List.length_take];omega
 have:=oa (R.take 7)
 rwa [hl] at this
structure HT (S:List Nat) (w:World) (b off bn cap:Nat) (ns:List (Nat × Int)) (lut:Nat→Nat) (t:T):Prop where
  nodes:w.cell? ⟨b,off,none⟩=some (.slice (aT bn) ns.length cap)
  sym:∀ i n,ns[i]?=some n→w.cell? ⟨bn,0+i * 2,none⟩=some (.int .u32 (n.1:Nat))
  chi:∀ i n,ns[i]?=some n→w.cell? ⟨bn,0+i * 2+1,none⟩=some (.int .i32 n.2)
  look:∀ x,x<128→w.cell? ⟨b,off+1+x,none⟩=some (.int .u32 (lut x:Nat))
  rep:sE ns 0 t
  lutT:Kr ns t lut
  small:ns.length≤65536
  off:b ∉ S∧bn ∉ S
def oc (S:List Nat) (w:World) (b off:Nat) (t:T):Prop:=∃ bn cap ns lut,HT S w b off bn cap ns lut t
theorem HT.keep {S S':List Nat} {w w':World} {b off bn cap:Nat} {ns:List (Nat × Int)} {lut:Nat→Nat} {t:T} (h:HT S w b off bn cap ns lut t) (hf:cf S' w w') (hs:∀ x ∈ S',x ∈ S):HT S w' b off bn cap ns lut t :=
  ⟨hf.cell h.nodes (fun hm => h.off.1 (hs _ hm)),fun i n hn => hf.cell (h.sym i n hn) (fun hm => h.off.2 (hs _ hm)),fun i n hn => hf.cell (h.chi i n hn) (fun hm => h.off.2 (hs _ hm)),
   fun x hx => hf.cell (h.look x hx) (fun hm => h.off.1 (hs _ hm)),h.rep,h.lutT,h.small,h.off⟩
theorem oc.keep {S S':List Nat} {w w':World} {b off:Nat} {t:T} (h:oc S w b off t) (hf:cf S' w w') (hs:∀ x ∈ S',x ∈ S):oc S w' b off t :=
  let ⟨bn,cap,ns,lut,h⟩:=h;⟨bn,cap,ns,lut,h.keep hf hs⟩
def Hi (σ:pL) (R:aM) (t:T) (w:World) (e:Ending) (w':World):Prop :=
  (∃ s R',t.walk R=some (s,R')∧e=.returned (.tuple #[.int .u32 (s:Nat),.nilIface])∧(cD σ R').pred w'∧cf [σ.d,σ.rd] w w') ∨
  (t.walk R=none∧(∃ a,e=.returned (.tuple #[.int .u32 0,.iface 149 (.pointer (some a))]))∧cf [σ.d,σ.rd] w w')
def JE (σ:pL) (w:World) (b off:Nat) (ns:List (Nat × Int)) (t:T) (R0:aM) (m:Nat) (ρ:dK) (w':World):Prop :=
  ∃ i nb pr R k t',m=t'.depth∧ρ 0=.pointer (some ⟨b,off,none⟩)∧ρ 1=.pointer (some ⟨σ.d,0,none⟩)∧ρ 6=.int .u32 (k:Nat) ∧
    St w [σ.d,σ.rd] (Jm σ R i nb pr) w'∧nb≤14∧xv σ.s R i nb∧sE ns k t'∧t.walk R0=t'.walk R
theorem Ax (σ:pL) (R:aM) (t:T) (b off:Nat) (w:World) (D:(cD σ R).pred w) (ro:RO σ w) (ht:oc [σ.d,σ.rd] w b off t) :
    Calls Tryz.prog 71 #[.pointer (some ⟨b,off,none⟩),.pointer (some ⟨σ.d,0,none⟩)] w (Hi σ R t w):=by
  obtain ⟨bn,cap,ns,lut,ht⟩:=ht
  obtain ⟨i,nb,pr,H,hnb,hreg⟩:=yC D ro
  have hlen:=ro.len
  have hi:=hreg.i_le
  have hl:=hreg.length
  obtain ⟨ae,hae⟩:=ro.gl.eof
  obtain ⟨au,hau⟩:=ro.gl.unx
  refine enter (m:=176) Tryz.func71 O Tryz.ntmps71 O (Cy (az O (bI O (Lt ?_))))
  refine Fz (l:=0) (fun ρ w' => ∃ m,JE σ w b off ns t R m ρ w') O ?_ ?_
  case refine_1 =>
    clear H hreg hnb D hi hl
    rintro ρ w1 ⟨m,hI⟩
    refine Cs (Cb (Cl (JE σ w b off ns t R) m hI ?_))
    clear hI m ρ w1
    rintro m ρ w1 ⟨i,nb,pr,R1,k,t',rfl,h0,h1,h6,H,hnb,hreg,hrep,hw⟩
    have hi:=hreg.i_le
    have hl:=hreg.length
    have hk:=hrep.lt
    cases t' with
    | leaf s =>
      have e1:=H.old (ht.chi k _ hrep) ht.off.2
      have e2:=H.old (ht.sym k _ hrep) ht.off.2
      refine Cs (Cy (bH h0 (aK O (aU eS O (aC jl O (H.old ht.nodes ht.off.1) (ai h6 (Lp (gm k jo O O O hk) (aU lX O (aC nP O e1 (Lp (mh O O) (Lt (CF O (by simp) (Cx (ax (ax (br (tn (Cy (bH h0 (aK O ?_))))))))))))))))))))
      refine aU eS O (aC jl O (H.old ht.nodes ht.off.1) (ai h6 (Lp (gm k jo O O O hk) (aU xK O (aC bD O e2 (az O (bI O (Lt (Ct (Jv ?_))))))))))
      exact cr O O O (.inl ⟨s,R1,hw,O,o9 H hnb hreg,H.frm⟩)
    | node x y =>
      obtain ⟨sy,c,hn,hc,hx,hy⟩:=hrep
      have e1:=H.old (ht.chi k _ hn) ht.off.2
      refine Cs (Cy (bH h0 (aK O (aU eS O (aC jl O (H.old ht.nodes ht.off.1) (ai h6 (Lp (gm k jo O O O hk) (aU lX O (aC nP O e1 (Lp (mh O O) (Lt (CT O ω (Ck (tn (Cb (Cs (Cy (bH h1 (aK O ?_)))))))))))))))))))
      refine aU fF O (aC bD O (H.cell 0 O O) (bF O O (Lt ?_)))
      refine aH (fun ρ w' => ∃ i nb pr,ρ 0=.pointer (some ⟨b,off,none⟩)∧ρ 1=.pointer (some ⟨σ.d,0,none⟩)∧ρ 6=.int .u32 (k:Nat) ∧
        St w [σ.d,σ.rd] (Jm σ R1 i nb pr) w'∧0<nb∧nb≤14∧xv σ.s R1 i nb) ?_ ?_
      case refine_1 =>
        by_cases hz:nb=0
        case neg =>
          refine CF O ω (Ck (tn ?_))
          exact ⟨i,nb,pr,h0,h1,h6,H,ω,hnb,hreg⟩
        case pos =>
          subst hz
          refine CT O ω ?_
          by_cases hil:i<σ.s.length
          case pos =>
            have hc:=ro.small _ (List.getElem_mem hil)
            have hv:=hreg.val_more hil hc
            have hv0:val (R1.take (0+8))=σ.s[i]:=by rw [hv];simp [val]
            refine Cy (bH h1 (aK O (aU od O (aC uX O (H.cell 0 O O) (mC O g9 O (nW _ σ.rd σ.sb σ.so σ.s.length σ.cap i pr σ.s[i] (H.blk (i:=1) O) (H.old (ro.bytes i hil) ro.okS.2) ro.ne.2.2.2.2 hil ω) O ?_)))))
            rintro e w2 ⟨rfl,hb,hf⟩
            replace H:=H.turnB 1 rfl hf hb
            refine ⟨_,O,?_⟩
            refine gr O (av O O (av O O (az O (bI O (Lt (Cs (Cy (db O (Lp (bj aX O O) (Lt (Cq O (Ck (tn (Cy (bH h1 (ai O (cm gx O (ew ω) ?_)))))))))))))))))
            refine aK O (aU fS O (bC H 0 dY O O O O ?_))
            intro w H
            refine Lt (Cr (bH h1 (aK O (aU fF O (bC H 0 dY O O O O ?_)))))
            intro w H
            refine Lt ?_
            rw [← hv0] at H
            exact ⟨i+1,0+8,-1,h0,h1,h6,H,ω,ω,hreg.more hil⟩
          case neg =>
            refine Cy (bH h1 (aK O (aU od O (aC uX O (H.cell 0 O O) (mC O g9 O (oF _ σ.rd σ.sb σ.so σ.s.length σ.cap i pr _ (H.blk (i:=1) O) (H.old hae (ro.okS.1.no δ)) (by have:=ro.ne.2.2.1;exact Nat.lt_of_lt_of_le δ this) ω ω) O ?_)))))
            rintro e w2 ⟨rfl,hb,hf⟩
            replace H:=H.turnB 1 rfl hf hb
            refine ⟨_,O,?_⟩
            refine gr O (av O O (av O O (az O (bI O (Lt (Cs (Cy (db O (Lp (bu aX O O) (Lt ?_))))))))))
            refine Cp O ?_
            refine Cs (Cy (db O (aC nk O (H.old hae (ro.okS.1.no δ)) (Lp (xF aX wu O O) (Lt ?_)))))
            refine Cp O ?_
            refine Cr (aC nk O (H.old hau (ro.okS.1.no δ)) (bI O (Lt (Cy (db O (az O (bI O (Lt (Ct (aE (aE (bL (aE (bL (aE (Jv ?_))))))))))))))))
            have hR1:R1=[]:=List.eq_nil_of_length_eq_zero ω
            subst hR1
            exact cr O O O (.inr ⟨hw,⟨_,O⟩,H.frm⟩)
      case refine_2 =>
        clear H hreg hnb hi hl h0 h1 h6
        rintro ρ w1 ⟨i,nb,pr,h0,h1,h6,H,hn0,hnb,hreg⟩
        have hnl:=hreg.nb_le
        obtain ⟨c0,R2,rfl⟩:∃ c0 R2,R1=c0 :: R2:=by
          cases R1 with
          | nil => simp at hnl;omega
          | cons c0 R2 => exact ⟨c0,R2,rfl⟩
        have hc01:=Bool.toNat_le c0
        have hvl:=bK (c0 :: R2) nb
        have hp:2 ^ nb≤2 ^ 14:=Nat.pow_le_pow_right ω ω
        have e2:sL .u32 1 (val ((c0 :: R2).take nb):Nat)=(c0.toNat:Nat):=by
          rw [wZ]
          have:=t8 (a:=val ((c0 :: R2).take nb)) (n:=1) ω ω
          rw [show (2 ^ 1:Nat)=2 from rfl,Fc hn0] at this
          exact this
        have e3:=rS (a:=val ((c0 :: R2).take nb)) (n:=1) ω
        rw [show (2 ^ 1:Nat)=2 from rfl,Fq hn0] at e3
        have e4:=H.old (ht.chi k _ hn) ht.off.2
        have hcl:=hx.lt
        have hsm:=ht.small
        refine Cs (Cd aJ κ ?_)
        intro w hsame
        replace H:=H.same hsame
        refine mY h0 (du O (dD eS O (aD jl O (H.old ht.nodes ht.off.1) (bW h6 (Sp (gm k jo O O O hk) (dD lX O (aD nP O (H.old (ht.chi k _ hn) ht.off.2) (Sp (rp (r:=(c:Nat)) oe O (ew ω)) (mY h1 (du O (dD fS O (aD bD O (H.cell 0 O O) (Sp (gZ O O e2) (aG (r:=((c+c0.toNat:Nat):Int)) O O (by rw [ew ω];omega) (oZ O (Sn (tn (Cy ?_))))))))))))))))))
        refine bH h1 (aK O (aU fS O (aC bD O (H.cell 0 O O) (Lp (d6 O O ω e3) (aK O (aU fS O (bC H 0 dY O O O O ?_)))))))
        intro w H
        refine Lt (Cr (bH h1 (aK O (aU fF O (aC bD O (H.cell 0 O O) (bw (r:=((nb - 1:Nat):Int)) O O (by rw [ew ω];omega) (aK O (aU fF O (bC H 0 dY O O O O ?_)))))))))
        intro w H
        refine Ln (aF (tn ?_))
        have hreg':xv σ.s R2 i (nb - 1):=hreg.less (n:=1) ω
        cases c0 with
        | false => exact ⟨x.depth,by simp only [T.depth];omega,i,nb - 1,pr,R2,c,x,rfl,h0,h1,rfl,H,ω,hreg',hx,hw⟩
        | true => exact ⟨y.depth,by simp only [T.depth];omega,i,nb - 1,pr,R2,c+1,y,rfl,h0,h1,rfl,H,ω,hreg',hy,hw⟩
  intro hslow
  refine Cy (az O (Lt (Cs (Cy (bH O (aK O (aU fF O (aC bD O (H.cell 0 O O) (bP O O (Lt ?_))))))))))
  refine aH (fun ρ w' => ∃ i nb pr,ρ 0=.pointer (some ⟨b,off,none⟩)∧ρ 1=.pointer (some ⟨σ.d,0,none⟩) ∧
    St w [σ.d,σ.rd] (Jm σ R i nb pr) w'∧7≤nb∧nb≤14∧xv σ.s R i nb) ?_ ?_
  case refine_2.refine_1 =>
    by_cases h7:nb<7
    case neg =>
      refine CF O ω (Ck (tn ?_))
      exact ⟨i,nb,pr,O,O,H,ω,hnb,hreg⟩
    case pos =>
      refine CT O ω ?_
      by_cases hil:i<σ.s.length
      case pos =>
        have hc:=ro.small _ (List.getElem_mem hil)
        have hv:=hreg.val_more hil hc
        have hvl:=bK R nb
        have hvl2:=bK R (nb+8)
        have hp:2 ^ (nb+8)≤2 ^ 25:=Nat.pow_le_pow_right ω ω
        have e1:=xM (n:=nb) (a:=σ.s[i]) ω ω
        have e2:=Jd (b:=σ.s[i]) hvl ω
        refine Cy (bH O (aK O (aU od O (aC uX O (H.cell 0 O O) (mC O g9 O (nW _ σ.rd σ.sb σ.so σ.s.length σ.cap i pr σ.s[i] (H.blk (i:=1) O) (H.old (ro.bytes i hil) ro.okS.2) ro.ne.2.2.2.2 hil ω) O ?_)))))
        rintro e w2 ⟨rfl,hb,hf⟩
        replace H:=H.turnB 1 rfl hf hb
        refine ⟨_,O,?_⟩
        refine gr O (av O O (av O O (az O (bI O (Lt (Cs (Cy (db O (Lp (bj aX O O) (Lt (Cq O (Ck (tn (Cs (ar 12 aJ κ ?_)))))))))))))))
        intro w hsame
        replace H:=H.same hsame
        refine mY O (du O (dD fS O (aD bD O (H.cell 0 O O) (bW O (Sp (rp gx O (ew ω)) (mY O (du O (dD fF O (aD bD O (H.cell 0 O O) (Sp (ed O O ω e1) (Sp (sH O O e2) (Sn (aK O (aU fS O (bC H 0 dY O O O O ?_)))))))))))))))
        intro w H
        refine Lt (Cr (bH O (aK O (aU fF O (aC bD O (H.cell 0 O O) (ao O O (ew ω) (aK O (aU fF O (bC H 0 dY O O O O ?_)))))))))
        intro w H
        refine Lt ?_
        rw [← hv] at H
        exact ⟨i+1,nb+8,-1,O,O,H,ω,ω,hreg.more hil⟩
      case neg =>
        refine Cy (bH O (aK O (aU od O (aC uX O (H.cell 0 O O) (mC O g9 O (oF _ σ.rd σ.sb σ.so σ.s.length σ.cap i pr _ (H.blk (i:=1) O) (H.old hae (ro.okS.1.no δ)) (by have:=ro.ne.2.2.1;exact Nat.lt_of_lt_of_le δ this) ω ω) O ?_)))))
        rintro e w2 ⟨rfl,hb,hf⟩
        replace H:=H.turnB 1 rfl hf hb
        refine ⟨_,O,?_⟩
        refine gr O (av O O (av O O (az O (bI O (Lt (Cs (Cy (db O (Lp (bu aX O O) (Lt ?_))))))))))
        refine Cp O ?_
        refine Cs (Cy (db O (aC nk O (H.old hae (ro.okS.1.no δ)) (Lp (xF aX wu O O) (Lt ?_)))))
        refine Cp O ?_
        refine VC.goto (Ha (Ha (Ha ?_)))
        exact LQ ⟨t.depth,i,nb,-1,R,0,t,O,O,O,O,H,hnb,hreg,ht.rep,O⟩
  case refine_2.refine_2 =>
    clear H hreg hnb D hi hl
    rintro ρ w1 ⟨i,nb,pr,h0,h1,H,h7,hnb,hreg⟩
    have hnl:=hreg.nb_le
    have hvl:=bK R nb
    have hp:2 ^ nb≤2 ^ 14:=Nat.pow_le_pow_right ω ω
    have e1:=t8 (a:=val (R.take nb)) (n:=7) ω ω
    obtain ⟨x,hxe⟩:∃ x,x=val (R.take nb) % 2 ^ 7:=⟨_,rfl⟩
    have hx:x<128:=by rw [hxe];exact Nat.mod_lt _ δ
    have hb7:aV x 7=R.take 7:=by rw [hxe];exact Li h7 hnl
    have hlk:=ht.lutT x hx
    rw [← hxe] at e1
    have hsplit:R=R.take 7++R.drop 7:=(List.take_append_drop 7 R).symm
    have hl7:(R.take 7).length=7:=by rw [List.length_take];omega
    have hwalk:t.walk R=(t.adv (R.take 7)).1.walk ((t.adv (R.take 7)).2++R.drop 7):=by
      conv => lhs;rw [hsplit]
      rw [rK]
    have hrest:=vP t (R.take 7)
    have hnode:=l6 t (R.take 7)
    rw [hb7] at hlk
    obtain ⟨lx,hlx⟩:∃ lx,lx=lut x:=⟨_,rfl⟩
    have hlc:=ht.look x hx
    rw [← hlx] at hlk hlc
    cases hadv:t.adv (R.take 7) with
    | mk u r =>
    rw [hadv] at hlk hwalk hrest hnode
    cases u with
    | leaf s =>
      obtain ⟨hs,hlv⟩:=hlk
      obtain ⟨d,hd⟩:∃ d,d=7 - r.length:=⟨_,rfl⟩
      have hrl:r.length≤7:=by
        obtain ⟨p,hp⟩:=oR t (R.take 7)
        rw [hadv] at hp
        have:=congrArg List.length hp
        rw [hl7,List.length_append] at this
        simp only at this
        omega
      have hd7:d≤7:=ω
      rw [← hd] at hlv
      have hr2:r++R.drop 7=R.drop d:=by
        simp only [hl7] at hrest
        rw [← hd] at hrest
        rw [hrest]
        conv => rhs;rw [hsplit]
        rw [List.drop_append_of_le_length ω]
      have hw:t.walk R=some (s,R.drop d):=by rw [hwalk,← hr2];rfl
      have e5:=t8 (a:=lx) (n:=8) ω ω
      rw [show lx % 2 ^ 8=d+1 by omega] at e5
      have e6:=rS (a:=val (R.take nb)) (n:=d) ω
      rw [← oX (by omega:d≤nb) hnl] at e6
      have e7:=rS (a:=lx) (n:=8) ω
      rw [show lx / 2 ^ 8=s by omega] at e7
      refine Cs (Cd aJ κ ?_)
      intro w hsame
      replace H:=H.same hsame
      refine mY h0 (mY h1 (du O (dD fS O (aD bD O (H.cell 0 O O) (Sp (gZ O O e1) (du O (dD ov O (Sp (fo x uU O O O hx) (aD bD O (H.old hlc ht.off.1) (oZ O (Sn (tn (Cs (Cy (ai O (Lp (gZ O O e5) (az O (Lt ?_))))))))))))))))))
      refine Cy (ai O (Lp (mh O O) (Lt (CT O ω (Cy (ai O (bw (r:=(d:Nat)) O O (by rw [ew ω];omega) (az O (Lt (Cy (bH h1 (aK O (aU fS O (aC bD O (H.cell 0 O O) ?_))))))))))))))
      refine ai O (Lp (d6 O O ω e6) (aK O (aU fS O (bC H 0 dY O O O O ?_))))
      intro w H
      refine Lt (Cy (bH h1 (aK O (aU fF O (aC bD O (H.cell 0 O O) (ai O (bw (r:=((nb - d:Nat):Int)) O O (by rw [ew ω];omega) (aK O (aU fF O (bC H 0 dY O O O O ?_))))))))))
      intro w H
      refine Lt (Cy (ai O (Lp (d6 O O ω e7) (az O (bI O (Lt (Ct (aE (Le ?_)))))))))
      exact cr O O O (.inl ⟨s,R.drop d,hw,O,o9 H ω (hreg.less ω),H.frm⟩)
    | node ua ub =>
      obtain ⟨k,hkv,hkr⟩:=hlk
      have hkl:=hkr.lt
      have hks:=ht.small
      have hr0:r=[]:=hnode ua ub rfl
      subst hr0
      have e5:=t8 (a:=lx) (n:=8) ω ω
      rw [show lx % 2 ^ 8=0 by omega] at e5
      have e6:=rS (a:=val (R.take nb)) (n:=7) ω
      rw [← oX (by omega:7≤nb) hnl] at e6
      have e7:=rS (a:=lx) (n:=8) ω
      rw [show lx / 2 ^ 8=k by omega] at e7
      refine Cs (Cd aJ κ ?_)
      intro w hsame
      replace H:=H.same hsame
      refine mY h0 (mY h1 (du O (dD fS O (aD bD O (H.cell 0 O O) (Sp (gZ O O e1) (du O (dD ov O (Sp (fo x uU O O O hx) (aD bD O (H.old hlc ht.off.1) (oZ O (Sn (tn (Cs (Cy (ai O (Lp (gZ O O e5) (az O (Lt ?_))))))))))))))))))
      refine Cy (ai O (Lp (mh O O) (Lt (CF O ω (Ck (tn (Cy (ai O (Lp (d6 O O ω e7) (az O (Lt (Cy (bH h1 (aK O ?_))))))))))))))
      refine aU fS O (aC bD O (H.cell 0 O O) (Lp (d6 O O ω e6) (aK O (aU fS O (bC H 0 dY O O O O ?_)))))
      intro w H
      refine Lt (Cy (bH h1 (aK O (aU fF O (aC bD O (H.cell 0 O O) (bw (r:=((nb - 7:Nat):Int)) O O (by rw [ew ω];omega) (aK O (aU fF O (bC H 0 dY O O O O ?_)))))))))
      intro w H
      refine Lt (Cs (VC.label (tn ?_)))
      refine hslow _ _ ⟨(T.node ua ub).depth,i,nb - 7,pr,R.drop 7,k,.node ua ub,O,h0,h1,O,H,ω,hreg.less ω,hkr,?_⟩
      rw [hwalk]
      rfl
theorem HT.sub {S S':List Nat} {w:World} {b off bn cap:Nat} {ns:List (Nat × Int)} {lut:Nat→Nat} {t:T} (h:HT S w b off bn cap ns lut t) (hs:∀ x ∈ S',x ∈ S):HT S' w b off bn cap ns lut t :=
  ⟨h.nodes,h.sym,h.chi,h.look,h.rep,h.lutT,h.small,fun hm => h.off.1 (hs _ hm),fun hm => h.off.2 (hs _ hm)⟩
theorem oc.sub {S S':List Nat} {w:World} {b off:Nat} {t:T} (h:oc S w b off t) (hs:∀ x ∈ S',x ∈ S):oc S' w b off t :=
  let ⟨bn,cap,ns,lut,h⟩:=h;⟨bn,cap,ns,lut,h.sub hs⟩
section
variable {w0 w:World} {S:List Nat} {l:List e_} {σ:pL} {R R':aM} {t:T} {s b off:Nat}
variable {n:Nat} {ops:Array Oper} {Q:cY} {rest:List Oper} {ρ:dK} {ty:TypeId} {pos:String} {after:Array Edge} {x y:Operand} {d:Nat} {ts:Array TypeId}
theorem mH (H:St w0 S l w) (i:Nat) (hi:l[i]?=some (cD σ R)) (ro:RO σ w0) (hS:zG σ S) (ht:oc S w0 b off t) (hdS:∀ z ∈ [σ.d,σ.rd],z ∈ S) (hw:t.walk R=some (s,R')) (hd:Nat.blt d n=true) (hx:ev ρ x=.pointer (some ⟨b,off,none⟩)) (hy:ev ρ y=.pointer (some ⟨σ.d,0,none⟩))
    (h:∀ w',St w0 S (l.set i (cD σ R')) w'→VL Tryz.prog n ops Q rest (eW ρ d (.tuple #[.int .u32 (s:Nat),.nilIface])) w') :
    VL Tryz.prog n ops Q (⟨some d,.call ⟨.value (.func 71),#[x,y],ts⟩,ty,pos,after,none⟩ :: rest) ρ w :=
  aS hd Gp (Ax σ R t b off w (H.get hi) (ro.frm H hS) ((ht.keep H.frm (fun _ h => h)).sub hdS)) (by simp [hx,hy]) fun e w' hP => by
    rcases hP with ⟨s',R'',h1,h2,h3,h4⟩ | ⟨h1,_⟩
    · rw [hw] at h1
      obtain ⟨rfl,rfl⟩:=Prod.mk.inj (Option.some.inj h1)
      exact ⟨_,h2,h _ (H.dec i hi h4 h3)⟩
    · rw [hw] at h1;cases h1
theorem mF (H:St w0 S l w) (i:Nat) (hi:l[i]?=some (cD σ R)) (ro:RO σ w0) (hS:zG σ S) (ht:oc S w0 b off t) (hdS:∀ z ∈ [σ.d,σ.rd],z ∈ S) (hw:t.walk R=none) (hd:Nat.blt d n=true) (hx:ev ρ x=.pointer (some ⟨b,off,none⟩)) (hy:ev ρ y=.pointer (some ⟨σ.d,0,none⟩))
    (h:∀ w' a,cf S w0 w'→VL Tryz.prog n ops Q rest (eW ρ d (.tuple #[.int .u32 0,.iface 149 (.pointer (some a))])) w') :
    VL Tryz.prog n ops Q (⟨some d,.call ⟨.value (.func 71),#[x,y],ts⟩,ty,pos,after,none⟩ :: rest) ρ w :=
  aS hd Gp (Ax σ R t b off w (H.get hi) (ro.frm H hS) ((ht.keep H.frm (fun _ h => h)).sub hdS)) (by simp [hx,hy]) fun e w' hP => by
    rcases hP with ⟨s',R'',h1,_⟩ | ⟨_,⟨a,h2⟩,h3⟩
    · rw [hw] at h1;cases h1
    · exact ⟨_,h2,h _ a (H.decFrm hi h3)⟩
end
inductive PT where
 | e
 | l (s:Nat)
 | n (a b:PT)
def PT.ins:PT→aM→Nat→Option PT
 | .e,[],s => some (.l s)
 | .l _,[],s => some (.l s)
 | .n _ _,[],_ => none
 | .l _,_ :: _,_ => none
 | .e,true :: p,s => (PT.ins .e p s).map (.n .e ·)
 | .e,false :: p,s => (PT.ins .e p s).map (.n · .e)
 | .n a b,true :: p,s => (b.ins p s).map (.n a ·)
 | .n a b,false :: p,s => (a.ins p s).map (.n · b)
def PT.inner:PT→Nat
 | .n a b => a.inner+b.inner+1
 | _ => 0
inductive K_ where
 | leaf (s left:Nat)
 | inner
 | empty
def PT.obs:PT→aM→K_
 | .e,_ => .empty
 | .l s,q => .leaf s q.length
 | .n _ _,[] => .inner
 | .n a b,true :: q => b.obs q
 | .n a b,false :: q => a.obs q
theorem eQ:∀ (t:PT) (p:aM) (s:Nat) (t':PT),t.ins p s=some t'→∀ r,t'.obs (p++r)=.leaf s r.length
 | .e,[],s,t',h,r => by simp only [PT.ins,Option.some.injEq] at h;subst h;rfl
 | .l _,[],s,t',h,r => by simp only [PT.ins,Option.some.injEq] at h;subst h;rfl
 | .n _ _,[],s,t',h,r => by simp [PT.ins] at h
 | .l _,_ :: _,s,t',h,r => by simp [PT.ins] at h
 | .e,true :: p,s,t',h,r => by
  simp only [PT.ins,Option.map_eq_some_iff] at h
  obtain ⟨u,hu,rfl⟩:=h
  exact eQ .e p s u hu r
 | .e,false :: p,s,t',h,r => by
  simp only [PT.ins,Option.map_eq_some_iff] at h
  obtain ⟨u,hu,rfl⟩:=h
  exact eQ .e p s u hu r
 | .n a b,true :: p,s,t',h,r => by
  simp only [PT.ins,Option.map_eq_some_iff] at h
  obtain ⟨u,hu,rfl⟩:=h
  exact eQ b p s u hu r
 | .n a b,false :: p,s,t',h,r => by
  simp only [PT.ins,Option.map_eq_some_iff] at h
  obtain ⟨u,hu,rfl⟩:=h
  exact eQ a p s u hu r
theorem iB:∀ (t:PT) (q:aM) (c:Bool) (p:aM) (s:Nat) (t':PT),t.ins (q++c :: p) s=some t'→t'.obs q=.inner
 | .e,[],true,p,s,t',h => by
  simp only [List.nil_append,PT.ins,Option.map_eq_some_iff] at h
  obtain ⟨u,hu,rfl⟩:=h;rfl
 | .e,[],false,p,s,t',h => by
  simp only [List.nil_append,PT.ins,Option.map_eq_some_iff] at h
  obtain ⟨u,hu,rfl⟩:=h;rfl
 | .l _,[],c,p,s,t',h => by simp [PT.ins] at h
 | .n a b,[],true,p,s,t',h => by
  simp only [List.nil_append,PT.ins,Option.map_eq_some_iff] at h
  obtain ⟨u,hu,rfl⟩:=h;rfl
 | .n a b,[],false,p,s,t',h => by
  simp only [List.nil_append,PT.ins,Option.map_eq_some_iff] at h
  obtain ⟨u,hu,rfl⟩:=h;rfl
 | .l _,_ :: _,c,p,s,t',h => by simp [PT.ins] at h
 | .e,true :: q,c,p,s,t',h => by
  simp only [List.cons_append,PT.ins,Option.map_eq_some_iff] at h
  obtain ⟨u,hu,rfl⟩:=h
  exact iB .e q c p s u hu
 | .e,false :: q,c,p,s,t',h => by
  simp only [List.cons_append,PT.ins,Option.map_eq_some_iff] at h
  obtain ⟨u,hu,rfl⟩:=h
  exact iB .e q c p s u hu
 | .n a b,true :: q,c,p,s,t',h => by
  simp only [List.cons_append,PT.ins,Option.map_eq_some_iff] at h
  obtain ⟨u,hu,rfl⟩:=h
  exact iB b q c p s u hu
 | .n a b,false :: q,c,p,s,t',h => by
  simp only [List.cons_append,PT.ins,Option.map_eq_some_iff] at h
  obtain ⟨u,hu,rfl⟩:=h
  exact iB a q c p s u hu
def pH (p q:aM):Prop:=¬ p <+: q∧¬ q <+: p
theorem pH.tail {c:Bool} {p q:aM} (h:pH (c :: p) (c :: q)):pH p q :=
 ⟨fun hp => h.1 (by simpa using hp),fun hp => h.2 (by simpa using hp)⟩
theorem fL:∀ (t:PT) (p q:aM) (s:Nat) (t':PT),t.ins p s=some t'→pH p q→t'.obs q=t.obs q
 | t,[],q,s,t',h,ha => absurd (List.nil_prefix) ha.1
 | t,_ :: _,[],s,t',h,ha => absurd (List.nil_prefix) ha.2
 | .l _,_ :: _,_ :: _,s,t',h,ha => by simp [PT.ins] at h
 | .e,true :: p,true :: q,s,t',h,ha => by
  simp only [PT.ins,Option.map_eq_some_iff] at h
  obtain ⟨u,hu,rfl⟩:=h
  exact fL .e p q s u hu ha.tail
 | .e,false :: p,false :: q,s,t',h,ha => by
  simp only [PT.ins,Option.map_eq_some_iff] at h
  obtain ⟨u,hu,rfl⟩:=h
  exact fL .e p q s u hu ha.tail
 | .e,true :: p,false :: q,s,t',h,ha => by
  simp only [PT.ins,Option.map_eq_some_iff] at h
  obtain ⟨u,hu,rfl⟩:=h
  rfl
 | .e,false :: p,true :: q,s,t',h,ha => by
  simp only [PT.ins,Option.map_eq_some_iff] at h
  obtain ⟨u,hu,rfl⟩:=h
  rfl
 | .n a b,true :: p,true :: q,s,t',h,ha => by
  simp only [PT.ins,Option.map_eq_some_iff] at h
  obtain ⟨u,hu,rfl⟩:=h
  exact fL b p q s u hu ha.tail
 | .n a b,false :: p,false :: q,s,t',h,ha => by
  simp only [PT.ins,Option.map_eq_some_iff] at h
  obtain ⟨u,hu,rfl⟩:=h
  exact fL a p q s u hu ha.tail
 | .n a b,true :: p,false :: q,s,t',h,ha => by
  simp only [PT.ins,Option.map_eq_some_iff] at h
  obtain ⟨u,hu,rfl⟩:=h
  rfl
 | .n a b,false :: p,true :: q,s,t',h,ha => by
  simp only [PT.ins,Option.map_eq_some_iff] at h
  obtain ⟨u,hu,rfl⟩:=h
  rfl
theorem j_:∀ (t:PT) (p q:aM) (s:Nat) (t':PT),t.ins p s=some t'→q <+: p→q≠p→∀ s' k,t.obs q≠.leaf s' k
 | .e,p,q,s,t',h,hq,hne,s',k => by cases q <;> simp [PT.obs]
 | .l _,[],q,s,t',h,hq,hne,s',k => by
  have:q=[]:=by simpa using hq
  exact absurd this hne
 | .l _,_ :: _,q,s,t',h,hq,hne,s',k => by simp [PT.ins] at h
 | .n a b,[],q,s,t',h,hq,hne,s',k => by simp [PT.ins] at h
 | .n a b,c :: p,[],s,t',h,hq,hne,s',k => by simp [PT.obs]
 | .n a b,true :: p,c :: q,s,t',h,hq,hne,s',k => by
  obtain ⟨rfl,hq⟩:c=true∧q <+: p:=by simpa using hq
  simp only [PT.ins,Option.map_eq_some_iff] at h
  obtain ⟨u,hu,rfl⟩:=h
  exact j_ b p q s u hu (by simpa using hq) (fun e => hne (by rw [e])) s' k
 | .n a b,false :: p,c :: q,s,t',h,hq,hne,s',k => by
  obtain ⟨rfl,hq⟩:c=false∧q <+: p:=by simpa using hq
  simp only [PT.ins,Option.map_eq_some_iff] at h
  obtain ⟨u,hu,rfl⟩:=h
  exact j_ a p q s u hu (by simpa using hq) (fun e => hne (by rw [e])) s' k
def mj (ns:List (Nat × Int)):Nat→PT→List Nat→Prop
 | i,.e,A => A=[i]∧∃ s:Nat,ns[i]?=some (s,0)
 | i,.l s,A => A=[i]∧ns[i]?=some (s,-1)
 | i,.n a b,A => ∃ (s c:Nat) (B C:List Nat),ns[i]?=some (s,(c:Int))∧0<c∧mj ns c a B∧mj ns (c+1) b C∧A=i :: (B++C)
theorem mj.congr {ns ns':List (Nat × Int)}:∀ {t:PT} {i:Nat} {A:List Nat},mj ns i t A→(∀ k ∈ A,ns'[k]?=ns[k]?)→mj ns' i t A
 | .e,i,A,⟨hA,s,hs⟩,hk => ⟨hA,s,by rw [hk i (by simp [hA]),hs]⟩
 | .l s,i,A,⟨hA,hs⟩,hk => ⟨hA,by rw [hk i (by simp [hA]),hs]⟩
 | .n a b,i,A,⟨s,c,B,C,hn,hc,ha,hb,hA⟩,hk => by
  subst hA
  exact ⟨s,c,B,C,by rw [hk i (by simp),hn],hc,ha.congr (fun k hk' => hk k (by simp [hk'])),hb.congr (fun k hk' => hk k (by simp [hk'])),O⟩
theorem mj.count {ns:List (Nat × Int)}:∀ {t:PT} {i:Nat} {A:List Nat},mj ns i t A→A.length=2 * t.inner+1
 | .e,i,A,⟨hA,_⟩ => by simp [hA,PT.inner]
 | .l s,i,A,⟨hA,_⟩ => by simp [hA,PT.inner]
 | .n a b,i,A,⟨s,c,B,C,hn,hc,ha,hb,hA⟩ => by
  subst hA
  have h1:=ha.count
  have h2:=hb.count
  simp only [List.length_cons,List.length_append,PT.inner,h1,h2]
  omega
theorem mj.root {ns:List (Nat × Int)} {t:PT} {i:Nat} {A:List Nat} (h:mj ns i t A):i ∈ A:=by
 cases t with
 | e => simp [h.1]
 | l s => simp [h.1]
 | n a b => obtain ⟨s,c,B,C,_,_,_,_,rfl⟩:=h;simp
def jk (ns:List (Nat × Int)):Nat→aM→Nat
 | i,[] => i
 | i,c :: q => jk ns (((ns[i]?.getD (0,0)).2).toNat+c.toNat) q
theorem qG (ns:List (Nat × Int)):∀ (p:aM) (i:Nat) (q:aM),jk ns i (p++q)=jk ns (jk ns i p) q
 | [],i,q => rfl
 | c :: p,i,q => qG ns p _ q
theorem mj.idx_same {ns ns':List (Nat × Int)}:∀ {t:PT} {i:Nat} {A:List Nat} (q:aM),mj ns i t A→t.obs q=.inner→(∀ (k:Nat) (m:Nat × Int),ns[k]?=some m→0<m.2→∃ s:Nat,ns'[k]?=some (s,m.2))→jk ns' i q=jk ns i q
 | .e,i,A,q,h,ho,hk => by cases q <;> simp [PT.obs] at ho
 | .l s,i,A,q,h,ho,hk => by cases q <;> simp [PT.obs] at ho
 | .n a b,i,A,[],h,ho,hk => rfl
 | .n a b,i,A,true :: q,⟨s,c,B,C,hn,hc,ha,hb,hA⟩,ho,hk => by
  obtain ⟨s',hs'⟩:=hk i _ hn (by simpa using hc)
  have:=hb.idx_same q ho hk
  simpa [jk,hn,hs'] using this
 | .n a b,i,A,false :: q,⟨s,c,B,C,hn,hc,ha,hb,hA⟩,ho,hk => by
  obtain ⟨s',hs'⟩:=hk i _ hn (by simpa using hc)
  have:=ha.idx_same q ho hk
  simpa [jk,hn,hs'] using this
def CY (ns:List (Nat × Int)) (q:aM) (v:Nat):K_→Prop
 | .leaf s k => s<65536∧v=s * 256+(7 - k)+1
 | .inner => v=jk ns 0 q * 256
 | .empty => v=0
def It (ns:List (Nat × Int)) (t:PT) (lut:Nat→Nat):Prop:=∀ x,x<128→CY ns (aV x 7) (lut x) (t.obs (aV x 7))
def aB (code:Nat):Nat→aM
 | 0 => []
 | l+1 => code.testBit l :: aB code l
theorem bV (code:Nat):∀ l,(aB code l).length=l
 | 0 => rfl
 | l+1 => by simp [aB,bV code l]
theorem jZ (code:Nat):∀ m j,aB code (m+j)=aB (code >>> j) m++aB code j
 | 0,j => by simp [aB]
 | m+1,j => by
  rw [show m+1+j=(m+j)+1 by omega]
  simp only [aB,List.cons_append,jZ code m j,Nat.testBit_shiftRight]
  rw [Nat.add_comm m j]
theorem mo (code:Nat) (k:Nat):∀ l,l≤k→aB (code % 2 ^ k) l=aB code l
 | 0,_ => rfl
 | l+1,h => by
  simp only [aB,mo code k l ω,Nat.testBit_mod_two_pow]
  rw [decide_eq_true ω,Bool.true_and]
theorem tC:∀ (l j x:Nat),aV x (l+j)=aV x l++aV (x / 2 ^ l) j
 | 0,j,x => by simp [aV]
 | l+1,j,x => by
  rw [show l+1+j=(l+j)+1 by omega]
  simp only [aV,List.cons_append,tC l j (x / 2),Nat.pow_succ]
  rw [Nat.div_div_eq_div_mul,Nat.mul_comm 2]
theorem Jf {p q:aM} (hl:p.length=q.length) (h:val p=val q):p=q:=by
 rw [← oa p,← oa q,h,hl]
theorem sv {p:aM} {x:Nat} (hp:p.length≤7):p <+: aV x 7 ↔ x % 2 ^ p.length=val p:=by
 have h7:aV x 7=aV x p.length++aV (x / 2 ^ p.length) (7 - p.length):=by
  rw [← tC];congr 1;omega
 constructor
 ·intro h
  have h1:=List.prefix_iff_eq_take.1 h
  rw [h7,List.take_left' (kZ _ _)] at h1
  conv => rhs;rw [h1]
  rw [mK]
 ·intro h
  have h1:p=aV x p.length:=Jf (by rw [kZ]) (by rw [mK,h])
  rw [h7]
  exact ⟨_,by rw [← h1]⟩
theorem vw {p:aM} {x:Nat} (hx:x<128) (hp:7≤p.length):aV x 7 <+: p ↔ x=val (p.take 7):=by
 have hl:(p.take 7).length=7:=by rw [List.length_take];omega
 constructor
 ·intro h
  have h1:=List.prefix_iff_eq_take.1 h
  rw [kZ] at h1
  rw [← h1,mK,Nat.mod_eq_of_lt ω]
 ·intro h
  have h1:aV x 7=p.take 7:=by
   have:=oa (p.take 7)
   rw [hl,← h] at this
   exact this
  rw [h1]
  exact List.take_prefix 7 p
def c_ (ns:List (Nat × Int)):List Value:=ns.flatMap fun n => [.int .u32 (n.1:Nat),.int .i32 n.2]
theorem gO (n:Nat × Int) (ns:List (Nat × Int)):c_ (n :: ns)=.int .u32 (n.1:Nat) :: .int .i32 n.2 :: c_ ns:=rfl
theorem lJ:∀ (ns:List (Nat × Int)) (k:Nat) (n:Nat × Int),ns[k]?=some n→(c_ ns)[k * 2]?=some (.int .u32 (n.1:Nat))
 | [],k,n,h => by simp at h
 | m :: ns,0,n,h => by simp at h;subst h;rfl
 | m :: ns,k+1,n,h => by
  have:=lJ ns k n (by simpa using h)
  rw [gO,show (k+1) * 2=k * 2+1+1 by omega]
  simpa using this
theorem io:∀ (ns:List (Nat × Int)) (k:Nat) (n:Nat × Int),ns[k]?=some n→(c_ ns)[k * 2+1]?=some (.int .i32 n.2)
 | [],k,n,h => by simp at h
 | m :: ns,0,n,h => by simp at h;subst h;rfl
 | m :: ns,k+1,n,h => by
  have:=io ns k n (by simpa using h)
  rw [gO,show (k+1) * 2+1=k * 2+1+1+1 by omega]
  simpa using this
theorem lD:∀ (ns:List (Nat × Int)) (k:Nat) (n:Nat × Int) (c:Int),ns[k]?=some n→(c_ ns).set (k * 2+1) (.int .i32 c)=c_ (ns.set k (n.1,c))
 | [],k,n,c,h => by simp at h
 | m :: ns,0,n,c,h => by simp at h;subst h;rfl
 | m :: ns,k+1,n,c,h => by
  have:=lD ns k n c (by simpa using h)
  rw [gO,show (k+1) * 2+1=k * 2+1+1+1 by omega,List.set_cons_succ,List.set_cons_succ,this,List.set_cons_succ,gO]
theorem lm:∀ (ns:List (Nat × Int)) (k:Nat) (n:Nat × Int) (s:Nat),ns[k]?=some n→(c_ ns).set (k * 2) (.int .u32 (s:Nat))=c_ (ns.set k (s,n.2))
 | [],k,n,s,h => by simp at h
 | m :: ns,0,n,s,h => by simp at h;subst h;rfl
 | m :: ns,k+1,n,s,h => by
  have:=lm ns k n s (by simpa using h)
  rw [gO,show (k+1) * 2=k * 2+1+1 by omega,List.set_cons_succ,List.set_cons_succ,this,List.set_cons_succ,gO]
def Jk (ns:List (Nat × Int)) (n:Nat) (C:PT→PT) (K:List Nat):Prop :=
 ∀ (ns':List (Nat × Int)) (X':PT) (A':List Nat),(∀ k ∈ K,ns'[k]?=ns[k]?)→mj ns' n X' A'→∃ A'',mj ns' 0 (C X') A''∧A''.Perm (A'++K)
structure uh (ns0:List (Nat × Int)) (t0:PT) (s:Nat) (path q p:aM) (ns:List (Nat × Int)) (len n:Nat) (X:PT) (A:List Nat) (C:PT→PT) (K:List Nat):Prop where
 way:path=q++p
 rep:mj ns n X A
 wand:Jk ns n C K
 nodup:(A++K).Nodup
 below:∀ k ∈ A++K,k<len
 count:(A++K).length=len
 ins:t0.ins path s=(X.ins p s).map C
 zero:∀ k,len≤k→k<ns.length→ns[k]?=some (0,0)
 size:ns.length=ns0.length
 len_le:len≤ns.length
 keep:∀ (k:Nat) (m:Nat × Int),ns0[k]?=some m→0<m.2→ns[k]?=some m
 idx:n=jk ns 0 q
 anc:∀ q1 c q2,q=q1++c :: q2→jk ns 0 q1 ∈ K
 cin:∀ Y,(C Y).inner=(C .e).inner+Y.inner
theorem pl {ns ns':List (Nat × Int)}:∀ (q:aM) (i:Nat),(∀ q1 c q2,q=q1++c :: q2→ns'[jk ns i q1]?=ns[jk ns i q1]?)→jk ns' i q=jk ns i q
 | [],i,h => rfl
 | c :: q,i,h => by
  have h0:=h [] c q rfl
  simp only [jk] at h0 ⊢
  rw [h0]
  refine pl q _ fun q1 c' q2 he => ?_
  have:=h (c :: q1) c' q2 (by rw [he];rfl)
  simpa [jk] using this
theorem xT {q q1 q2:aM} {c c':Bool} (h:q++[c']=q1++c :: q2):(∃ q3,q=q1++c :: q3)∨q1=q:=by
 rcases List.append_eq_append_iff.1 h with ⟨a,h1,h2⟩ | ⟨a,h1,h2⟩
 ·cases a with
  | nil => right;simpa using h1
  | cons x a =>
   simp only [List.cons_append,List.cons.injEq] at h2
   have:=congrArg List.length h2.2
   simp at this
 ·cases a with
  | nil => right;simpa using h1.symm
  | cons x a =>
   simp only [List.cons_append,List.cons.injEq] at h2
   left
   exact ⟨a,by rw [h1,h2.1]⟩
theorem IS (ns:List (Nat × Int)):Jk ns 0 (fun X => X) []:=fun ns' X' A' _ h => ⟨A',h,by simp⟩
theorem EU {ns0:List (Nat × Int)} {t0:PT} {s:Nat} {path:aM} {len:Nat} {A:List Nat} (hrep:mj ns0 0 t0 A) (hnd:A.Nodup) (hb:∀ k ∈ A,k<len) (hc:A.length=len)
  (hz:∀ k,len≤k→k<ns0.length→ns0[k]?=some (0,0)) (hl:len≤ns0.length):uh ns0 t0 s path [] path ns0 len 0 t0 A (fun X => X) [] :=
 ⟨rfl,hrep,IS _,by simpa using hnd,by simpa using hb,by simpa using hc,by cases t0.ins path s <;> rfl,hz,rfl,hl,fun k m h _ => h,rfl,fun q1 c q2 h => by simp at h,fun Y => by simp [PT.inner]⟩
section
variable {ns0 ns:List (Nat × Int)} {t0:PT} {s:Nat} {path q p:aM} {len n:Nat} {A K:List Nat} {C:PT→PT}
theorem uh.right {a b:PT} (z:uh ns0 t0 s path q (true :: p) ns len n (.n a b) A C K):∃ (c:Nat) (B D:List Nat),ns[n]?.map (·.2)=some (c:Int)∧0<c∧c+1<len ∧
  uh ns0 t0 s path (q++[true]) p ns len (c+1) b D (fun y => C (.n a y)) (n :: B++K):=by
 obtain ⟨sy,c,B,D,hn,hc,ha,hb,rfl⟩:=z.rep
 have hlt:c+1<len:=z.below _ (by simp [hb.root])
 refine ⟨c,B,D,by rw [hn];rfl,hc,hlt,⟨by rw [z.way];simp,hb,?_,?_,?_,?_,?_,z.zero,z.size,z.len_le,z.keep,?_,?_,fun Y => by rw [z.cin,z.cin (.n _ .e)];simp only [PT.inner];omega⟩⟩
 ·intro ns' X' A' hk hX
  have h1:mj ns' n (.n a X') (n :: (B++A')):=⟨sy,c,B,A',by rw [hk n (by simp),hn],hc,ha.congr (fun k hk' => hk k (by simp [hk'])),hX,rfl⟩
  obtain ⟨A'',h2,h3⟩:=z.wand ns' (.n a X') _ (fun k hk' => hk k (by simp [hk'])) h1
  refine ⟨A'',h2,h3.trans ?_⟩
  simp only [List.cons_append,List.append_assoc]
  refine (List.Perm.cons n ?_).trans (List.perm_middle.symm)
  rw [← List.append_assoc,← List.append_assoc]
  exact List.Perm.append_right K List.perm_append_comm
 ·refine (List.Perm.nodup_iff ?_).1 z.nodup
  simp only [List.cons_append,List.append_assoc]
  refine (List.Perm.cons n ?_).trans (List.perm_middle.symm)
  rw [← List.append_assoc,← List.append_assoc]
  exact List.Perm.append_right K List.perm_append_comm
 ·intro k hk
  exact z.below k (by simp only [List.mem_append,List.mem_cons] at hk ⊢;rcases hk with h | (h | h) | h <;> simp [h])
 ·have:=z.count;simp only [List.length_append,List.length_cons] at this ⊢;omega
 ·rw [z.ins];simp only [PT.ins,Option.map_map];rfl
 ·rw [qG,← z.idx];simp [jk,hn]
 ·intro q1 c' q2 he
  rcases xT he with ⟨q3,h3⟩ | h3
  ·have:=z.anc q1 c' q3 h3
   simp [this]
  ·subst h3;rw [← z.idx];simp
theorem uh.left {a b:PT} (z:uh ns0 t0 s path q (false :: p) ns len n (.n a b) A C K):∃ (c:Nat) (B D:List Nat),ns[n]?.map (·.2)=some (c:Int)∧0<c∧c+1<len ∧
  uh ns0 t0 s path (q++[false]) p ns len c a B (fun y => C (.n y b)) (n :: D++K):=by
 obtain ⟨sy,c,B,D,hn,hc,ha,hb,rfl⟩:=z.rep
 have hlt:c+1<len:=z.below _ (by simp [hb.root])
 refine ⟨c,B,D,by rw [hn];rfl,hc,hlt,⟨by rw [z.way];simp,ha,?_,?_,?_,?_,?_,z.zero,z.size,z.len_le,z.keep,?_,?_,fun Y => by rw [z.cin,z.cin (.n .e _)];simp only [PT.inner];omega⟩⟩
 ·intro ns' X' A' hk hX
  have h1:mj ns' n (.n X' b) (n :: (A'++D)):=⟨sy,c,A',D,by rw [hk n (by simp),hn],hc,hX,hb.congr (fun k hk' => hk k (by simp [hk'])),rfl⟩
  obtain ⟨A'',h2,h3⟩:=z.wand ns' (.n X' b) _ (fun k hk' => hk k (by simp [hk'])) h1
  refine ⟨A'',h2,h3.trans ?_⟩
  simp only [List.cons_append,List.append_assoc]
  exact List.perm_middle.symm
 ·refine (List.Perm.nodup_iff ?_).1 z.nodup
  simp only [List.cons_append,List.append_assoc]
  exact List.perm_middle.symm
 ·intro k hk
  exact z.below k (by simp only [List.mem_append,List.mem_cons] at hk ⊢;rcases hk with h | (h | h) | h <;> simp [h])
 ·have:=z.count;simp only [List.length_append,List.length_cons] at this ⊢;omega
 ·rw [z.ins];simp only [PT.ins,Option.map_map];rfl
 ·rw [qG,← z.idx];simp [jk,hn]
 ·intro q1 c' q2 he
  rcases xT he with ⟨q3,h3⟩ | h3
  ·have:=z.anc q1 c' q3 h3
   simp [this]
  ·subst h3;rw [← z.idx];simp
end
section
variable {ns0 ns:List (Nat × Int)} {t0:PT} {s:Nat} {path q p:aM} {len n:Nat} {A K:List Nat} {C:PT→PT}
theorem uh.here {X:PT} (z:uh ns0 t0 s path q p ns len n X A C K):n<len:=z.below n (by simp [z.rep.root])
theorem uh.open_ {c:Bool} (z:uh ns0 t0 s path q (c :: p) ns len n .e A C K) (hl:len+2≤ns.length):∃ sy:Nat,ns[n]?=some (sy,0) ∧
  uh ns0 t0 s path q (c :: p) (ns.set n (sy,(len:Int))) (len+2) n (.n .e .e) [n,len,len+1] C K:=by
 have hn:=z.here
 obtain ⟨rfl,sy,hs⟩:=z.rep
 have hnl:n<ns.length:=by have:=z.len_le;omega
 refine ⟨sy,hs,⟨z.way,?_,?_,?_,?_,?_,?_,?_,by rw [List.length_set];exact z.size,by rw [List.length_set];omega,?_,z.idx.trans ?_,?_,z.cin⟩⟩
 ·refine ⟨sy,len,[len],[len+1],by simp [hnl],ω,⟨O,0,?_⟩,⟨O,0,?_⟩,O⟩
  ·rw [List.getElem?_set_ne ω];exact z.zero len ω ω
  ·rw [List.getElem?_set_ne ω];exact z.zero (len+1) ω ω
 ·intro ns' X' A' hk hX
  refine z.wand ns' X' A' (fun k hk' => ?_) hX
  rw [hk k hk',List.getElem?_set_ne]
  rintro rfl
  have:=z.nodup
  simp [hk'] at this
 ·have h1:=z.nodup
  simp only [List.cons_append,List.nil_append,List.nodup_cons,List.mem_cons] at h1 ⊢
  refine ⟨fun h => ?_,fun h => ?_,fun h => ?_,h1.2⟩
  ·rcases h with h | h | h
   ·omega
   ·omega
   ·exact h1.1 h
  ·rcases h with h | h
   ·omega
   ·have:=z.below len (by simp [h]);omega
  ·have:=z.below (len+1) (by simp [h]);omega
 ·intro k hk
  simp only [List.cons_append,List.nil_append,List.mem_cons] at hk
  rcases hk with rfl | rfl | rfl | hk
  ·omega
  ·omega
  ·omega
  ·have:=z.below k (by simp [hk]);omega
 ·have:=z.count;simp only [List.cons_append,List.nil_append,List.length_cons] at this ⊢;omega
 ·rw [z.ins];cases c <;> rfl
 ·intro k h1 h2
  rw [List.length_set] at h2
  rw [List.getElem?_set_ne ω]
  exact z.zero k ω h2
 ·intro k m hm hpos
  have:=z.keep k m hm hpos
  rw [List.getElem?_set]
  by_cases hkn:n=k
  ·subst hkn
   rw [hs] at this
   simp only [Option.some.injEq] at this
   subst this
   simp at hpos
  ·rw [if_neg hkn];exact this
 ·exact (pl q 0 fun q1 c' q2 he => by
   rw [List.getElem?_set_ne]
   rintro rfl
   have h1:=z.anc q1 c' q2 he
   have h2:=z.nodup
   simp [h1] at h2).symm
 ·intro q1 c' q2 he
  have:jk (ns.set n (sy,(len:Int))) 0 q1=jk ns 0 q1:=pl q1 0 fun q3 c3 q4 he3 => by
   rw [List.getElem?_set_ne]
   rintro rfl
   have h1:=z.anc q3 c3 (q4++c' :: q2) (by rw [he,he3];simp)
   have h2:=z.nodup
   simp [h1] at h2
  rw [this]
  exact z.anc q1 c' q2 he
end
section
variable {ns0 ns:List (Nat × Int)} {t0:PT} {s:Nat} {path q p:aM} {len n:Nat} {A K:List Nat} {C:PT→PT}
theorem uh.stable {X:PT} (z:uh ns0 t0 s path q p ns len n X A C K) (m:Nat × Int) {q':aM} (hq:q' <+: q):jk (ns.set n m) 0 q'=jk ns 0 q':=by
 obtain ⟨r,rfl⟩:=hq
 refine pl q' 0 fun q1 c' q2 he => ?_
 rw [List.getElem?_set_ne]
 rintro rfl
 have h1:=z.anc q1 c' (q2++r) (by rw [he];simp)
 have h2:=z.nodup
 have h3:=z.rep.root
 rw [List.nodup_append] at h2
 exact h2.2.2 _ h3 _ h1 O
structure B9 (ns:List (Nat × Int)) (len:Nat) (t:PT) (lut:Nat→Nat):Prop where
 rep:∃ A,mj ns 0 t A∧A.Nodup∧(∀ k ∈ A,k<len)∧A.length=len
 zero:∀ k,len≤k→k<ns.length→ns[k]?=some (0,0)
 len_le:len≤ns.length
 lutP:It ns t lut
def zS (lut:Nat→Nat) (s:Nat) (path:aM) (i7:Nat):Nat→Nat:=fun x =>
 if path.length≤7 then (if x % 2 ^ path.length=val path then s * 256+path.length+1 else lut x)
 else if x=val (path.take 7) then (if lut x=0 then i7 * 256 else lut x) else lut x
theorem uh.finish {X:PT} {lut:Nat→Nat} (z:uh ns0 t0 s path path [] ns len n X A C K) (hX:∀ a b,X≠.n a b) (hs:s<65536) (b:∃ len0,B9 ns0 len0 t0 lut) :
  ∃ t',t0.ins path s=some t'∧B9 (ns.set n (s,-1)) len t' (zS lut s path (jk ns 0 (path.take 7))):=by
 obtain ⟨len0,b⟩:=b
 have hn:=z.here
 have hnl:n<ns.length:=by have:=z.len_le;omega
 have hA:A=[n]:=by
  cases X with
  | e => exact z.rep.1
  | l _ => exact z.rep.1
  | n a b => exact absurd rfl (hX a b)
 have hnode:∃ m:Nat × Int,ns[n]?=some m∧¬ 0<m.2:=by
  cases X with
  | e => obtain ⟨_,sy,h⟩:=z.rep;exact ⟨_,h,by simp⟩
  | l _ => exact ⟨_,z.rep.2,by simp⟩
  | n a b => exact absurd rfl (hX a b)
 have hins:t0.ins path s=some (C (.l s)):=by
  rw [z.ins]
  cases X with
  | e => rfl
  | l _ => rfl
  | n a b => exact absurd rfl (hX a b)
 subst hA
 have hnK:n ∉ K:=by have:=z.nodup;simp at this;exact this.1
 obtain ⟨A'',hr,hp⟩:=z.wand (ns.set n (s,-1)) (.l s) [n] (fun k hk => List.getElem?_set_ne (fun e => hnK (by rw [e];exact hk))) ⟨rfl,by simp [hnl]⟩
 have keep2:∀ (k:Nat) (m:Nat × Int),ns0[k]?=some m→0<m.2→∃ s':Nat,(ns.set n (s,-1))[k]?=some (s',m.2):=by
  intro k m hm hpos
  have h1:=z.keep k m hm hpos
  refine ⟨m.1,?_⟩
  rw [List.getElem?_set]
  by_cases hk:n=k
  ·subst hk
   obtain ⟨m',h2,h3⟩:=hnode
   rw [h2] at h1
   simp only [Option.some.injEq] at h1
   subst h1
   exact absurd hpos h3
  ·rw [if_neg hk];exact h1
 refine ⟨C (.l s),hins,⟨⟨A'',hr,hp.symm.nodup z.nodup,fun k hk => z.below k (hp.subset hk),by rw [hp.length_eq];exact z.count⟩,?_,by rw [List.length_set];exact z.len_le,?_⟩⟩
 ·intro k h1 h2
  rw [List.length_set] at h2
  rw [List.getElem?_set_ne ω]
  exact z.zero k h1 h2
 ·obtain ⟨A0,hr0,_⟩:=b.rep
  intro x hx
  have hq:(aV x 7).length=7:=kZ x 7
  have old:=b.lutP x hx
  have aside:pH path (aV x 7)→CY (ns.set n (s,-1)) (aV x 7) (lut x) ((C (.l s)).obs (aV x 7)):=by
   intro ha
   rw [fL t0 path _ s _ hins ha]
   cases ho:t0.obs (aV x 7) with
   | leaf s' k => rw [ho] at old;exact old
   | empty => rw [ho] at old;exact old
   | inner =>
    rw [ho] at old
    show lut x=_
    rw [hr0.idx_same _ ho keep2]
    exact old
  unfold zS
  by_cases h7:path.length≤7
  ·simp only [if_pos h7]
   by_cases hv:x % 2 ^ path.length=val path
   ·rw [if_pos hv]
    obtain ⟨r,hr⟩:=(sv h7).2 hv
    have hrl:path.length+r.length=7:=by rw [← hq,← hr,List.length_append]
    rw [← hr,eQ t0 path s _ hins r]
    exact ⟨hs,ω⟩
   ·rw [if_neg hv]
    refine aside ⟨fun h => hv ((sv h7).1 h),fun h => hv ((sv h7).1 ?_)⟩
    have:=List.IsPrefix.eq_of_length_le h ω
    rw [this]
    exact List.prefix_refl _
  ·simp only [if_neg h7]
   have hlong:¬ path <+: aV x 7:=fun h => h7 (by rw [← hq];exact h.length_le)
   by_cases hv:x=val (path.take 7)
   ·rw [if_pos hv]
    have hpre:=(vw hx ω).2 hv
    have htake:path.take 7=aV x 7:=by
     have:=List.prefix_iff_eq_take.1 hpre
     rw [hq] at this
     exact this.symm
    obtain ⟨r,hr⟩:=hpre
    cases r with
    | nil => exact absurd (by rw [← hr];simp) hlong
    | cons c r =>
     have hin:(C (.l s)).obs (aV x 7)=.inner:=iB t0 (aV x 7) c r s _ (by rw [hr];exact hins)
     rw [hin]
     have hst:jk (ns.set n (s,-1)) 0 (aV x 7)=jk ns 0 (aV x 7):=z.stable _ ⟨c :: r,hr⟩
     show _=_
     rw [hst,htake]
     by_cases h0:lut x=0
     ·rw [if_pos h0]
     ·rw [if_neg h0]
      cases ho:t0.obs (aV x 7) with
      | leaf s' k => exact absurd ho (j_ t0 path _ s _ hins ⟨c :: r,hr⟩ (fun e => hlong (e ▸ List.prefix_refl _)) s' k)
      | empty => rw [ho] at old;exact absurd old h0
      | inner =>
       rw [ho] at old
       rw [← hst,hr0.idx_same _ ho keep2]
       exact old
   ·rw [if_neg hv]
    exact aside ⟨hlong,fun h => hv ((vw hx ω).1 h)⟩
theorem uh.odd {X:PT} (z:uh ns0 t0 s path q p ns len n X A C K):len=2 * (C X).inner+1:=by
 obtain ⟨A'',h1,h2⟩:=z.wand ns X A (fun _ _ => rfl) z.rep
 rw [← h1.count,h2.length_eq,z.count]
theorem zR:∀ (p:aM) (c:Bool) (s:Nat) (t':PT),PT.e.ins (c :: p) s=some t'→1≤t'.inner:=by
 intro p c s t' h
 cases c <;> simp only [PT.ins,Option.map_eq_some_iff] at h <;> (obtain ⟨u,_,rfl⟩:=h;simp only [PT.inner];omega)
theorem uh.stuck_room {c:Bool} (z:uh ns0 t0 s path q (c :: p) ns len n .e A C K):∀ t',t0.ins path s=some t'→len<2 * t'.inner+1:=by
 intro t' h
 rw [z.ins,Option.map_eq_some_iff] at h
 obtain ⟨Y,hY,rfl⟩:=h
 have h1:=zR p c s Y hY
 have h2:=z.odd
 have h3:=z.cin Y
 omega
theorem uh.stuck_end {a b:PT} (z:uh ns0 t0 s path q [] ns len n (.n a b) A C K):t0.ins path s=none:=by rw [z.ins];rfl
theorem uh.stuck_leaf {s':Nat} {c:Bool} (z:uh ns0 t0 s path q (c :: p) ns len n (.l s') A C K):t0.ins path s=none:=by rw [z.ins];rfl
end
theorem Ez (a b:Int):H9 .u32 a b=H9 .u32 b a:=by unfold H9;rw [BitVec.or_comm]
theorem Lf {n:Nat} (hn:n≤31):IntKind.i64.wrap ((1:Int) * 2 ^ min (n:Int).toNat IntKind.i64.bits)=((2 ^ n:Nat):Int):=by
 have h:min (n:Int).toNat IntKind.i64.bits=n:=by
  simp only [Int.toNat_natCast]
  exact Nat.min_eq_left (by show n≤64;omega)
 have hp:2 ^ n≤2 ^ 31:=Nat.pow_le_pow_right ω hn
 have e:(1:Int) * 2 ^ n=((2 ^ n:Nat):Int):=by simp
 rw [h,e]
 generalize 2 ^ n=v at hp
 exact fg ω
theorem Fy:∀ c,c<256→∀ l,l<9→gq.getD c 0 / 2 ^ (8 - l)=val (aB c l):=by decide +kernel
theorem HX:∀ c,c<256→gq.getD c 0<256:=by decide +kernel
theorem Bq (code l:Nat) (hl:l≤8):gq.getD (code % 2 ^ 8) 0 / 2 ^ (8 - l)=val (aB code l):=by
 rw [Fy _ (Nat.mod_lt _ δ) l ω,mo code 8 l hl]
structure HC (cs:List Value) (off bn len cap:Nat) (lut:Nat→Nat):Prop where
 nodes:cs[off]?=some (.slice (aT bn) len cap)
 look:∀ x,x<128→cs[off+1+x]?=some (.int .u32 (lut x:Nat))
def d_ (cs cs':List Value) (off:Nat):Prop:=cs'.length=cs.length∧∀ k,(k<off∨off+129≤k)→cs'[k]?=cs[k]?
theorem d_.refl (cs:List Value) (off:Nat):d_ cs cs off:=⟨rfl,fun _ _ => rfl⟩
theorem d_.trans {a b c:List Value} {off:Nat} (h:d_ a b off) (k:d_ b c off):d_ a c off:=⟨k.1.trans h.1,fun i hi => (k.2 i hi).trans (h.2 i hi)⟩
theorem d_.set (cs:List Value) (off i:Nat) (v:Value) (h1:off≤i) (h2:i<off+129):d_ cs (cs.set i v) off :=
 ⟨by simp,fun k hk => List.getElem?_set_ne ω⟩
theorem HC.setLut {cs:List Value} {off bn len cap:Nat} {lut:Nat→Nat} (h:HC cs off bn len cap lut) {x:Nat} (hx:x<128) (v:Nat) :
  HC (cs.set (off+1+x) (.int .u32 (v:Nat))) off bn len cap (fun y => if y=x then v else lut y):=by
 have hl:off+1+x<cs.length:=(List.getElem?_eq_some_iff.1 (h.look x hx)).1
 refine ⟨by rw [List.getElem?_set_ne ω];exact h.nodes,fun y hy => ?_⟩
 by_cases e:y=x
 ·subst e;rw [if_pos rfl];simp [hl]
 ·rw [if_neg e,List.getElem?_set_ne ω];exact h.look y hy
theorem HC.setNodes {cs:List Value} {off bn len cap:Nat} {lut:Nat→Nat} (h:HC cs off bn len cap lut) (len':Nat) :
  HC (cs.set off (.slice (aT bn) len' cap)) off bn len' cap lut:=by
 have hl:off<cs.length:=(List.getElem?_eq_some_iff.1 h.nodes).1
 exact ⟨by simp [hl],fun x hx => by rw [List.getElem?_set_ne ω];exact h.look x hx⟩
theorem HC.congr {cs:List Value} {off bn len cap:Nat} {lut lut':Nat→Nat} (h:HC cs off bn len cap lut) (hl:∀ x,x<128→lut' x=lut x):HC cs off bn len cap lut' :=
 ⟨h.nodes,fun x hx => by rw [hl x hx];exact h.look x hx⟩
def Is (bg off bn cap:Nat) (cs:List Value) (tG tN:TypeId) (t:PT) (path:aM) (s:Nat) (w:World) (e:Ending) (w':World):Prop :=
 (∃ t' cs' ns' len' lut',t.ins path s=some t'∧2 * t'.inner+1≤cap∧e=.returned .nilIface∧ff w' bg cs' tG∧ff w' bn (c_ ns') tN∧HC cs' off bn len' cap lut' ∧
  B9 ns' len' t' lut'∧ns'.length=cap∧d_ cs cs' off∧cf [bg,bn] w w') ∨
 ((∀ t',t.ins path s=some t'→cap<2 * t'.inner+1)∧(∃ a,e=.returned (.iface 149 (.pointer (some a))))∧cf [bg,bn] w w')
def Jz (w:World) (bg off bn cap:Nat) (cs:List Value) (tG tN:TypeId) (ns:List (Nat × Int)) (lut:Nat→Nat) (t:PT) (s code l base k:Nat) (q p:aM) (cs1:List Value) (ns1:List (Nat × Int)) (len1 n:Nat) (lut1:Nat→Nat) (X:PT) (ρ:dK) (w':World):Prop :=
 ∃ A C K,ρ 0=.pointer (some ⟨bg,off,none⟩)∧ρ 1=.int .u32 (s:Nat)∧ρ 2=.int .u32 (code:Nat)∧ρ 3=.int .u32 (k:Nat)∧ρ 8=.nilIface∧ρ 9=.int .u32 (base:Nat)∧ρ 11=.int .u32 (n:Nat) ∧
  ρ 12=.int .i64 (7 - (q.length:Int))∧St w [bg,bn] [aa bg cs1 tG,aa bn (c_ ns1) tN] w'∧HC cs1 off bn len1 cap lut1∧d_ cs cs1 off ∧
  uh ns t s (aB code l) q p ns1 len1 n X A C K ∧
  (∀ x,x<128→lut1 x=if l≤7 then (if x % 2 ^ l=val (aB code l) then s * 256+l+1 else lut x)
   else if 7≤q.length∧x=base then (if lut x=0 then jk ns1 0 ((aB code l).take 7) * 256 else lut x) else lut x)
theorem oN (w:World) (bg off bn len cap:Nat) (cs:List Value) (tG tN:TypeId) (ns:List (Nat × Int)) (lut:Nat→Nat) (t:PT) (s code l:Nat) (gl:Gl w)
  (hbg:ff w bg cs tG) (hbn:ff w bn (c_ ns) tN) (hc:HC cs off bn len cap lut) (hb:B9 ns len t lut) (hns:ns.length=cap) (hodd:cap % 2=1) (hcap:cap≤65536)
  (hs:s<65536) (hl:l≤15) (hcode:code<2 ^ 32) (hne:bg≠bn) (hg1:nG≤bg) (hg2:nG≤bn) :
  Calls Tryz.prog 89 #[.pointer (some ⟨bg,off,none⟩),.int .u32 (s:Nat),.int .u32 (code:Nat),.int .u32 (l:Nat)] w (Is bg off bn cap cs tG tN t (aB code l) s w):=by
 have H:St w [bg,bn] [aa bg cs tG,aa bn (c_ ns) tN] w:=by
  refine St.cons (St.one hbn ⟨cw _ _ _,dW _ _ _⟩ (by simp [aa])) hbg ⟨cw _ _ _,dW _ _ _⟩ (by simp [aa]) ?_
  intro r hr b hb
  simp only [List.mem_singleton] at hr
  subst hr
  simp only [aa,List.mem_singleton] at hb ⊢
  subst hb
  exact hne
 have hS:rC [bg,bn]:=fun b hb => by simp at hb;rcases hb with rfl | rfl <;> assumption
 obtain ⟨ae,hae⟩:=gl.badTree
 have hpl:=bV code l
 refine enter (m:=188) Tryz.func89 O Tryz.ntmps89 O (Cy (bI O (Lt (Cs (Cy (ai O (Lp (bE O O (decide_eq_false ω)) (dh O (Lg (YI O) (Lg (bE O O (decide_eq_false ω)) (ay O O (Lt (Cq O (Ck (tn (Cs ?_))))))))))))))))
 refine Cr (az O (Lt (Cs (Cy (ai O (Lp (e9 O O) (Lt ?_)))))))
 refine aH (fun ρ w' => ∃ cs1 lut1 base,ρ 0=.pointer (some ⟨bg,off,none⟩)∧ρ 1=.int .u32 (s:Nat)∧ρ 2=.int .u32 (code:Nat)∧ρ 3=.int .u32 (l:Nat)∧ρ 8=.nilIface∧ρ 9=.int .u32 (base:Nat) ∧
  St w [bg,bn] [aa bg cs1 tG,aa bn (c_ ns) tN] w'∧HC cs1 off bn len cap lut1∧d_ cs cs1 off ∧
  base<128∧(7<l→base=val ((aB code l).take 7)) ∧
  (∀ x,x<128→lut1 x=if l≤7 then (if x % 2 ^ l=val (aB code l) then s * 256+l+1 else lut x) else lut x)∧(l=7→lut1 base≠0)) ?_ ?_
 case refine_1 =>
  have e8:=t8 (a:=code) (n:=8)
  by_cases h7:7<l
  case pos =>
   refine CT O ω ?_
   have hj:aB code l=aB (code >>> (l - 7)) 7++aB code (l - 7):=by rw [← jZ];congr 1;omega
   have ht:(aB code l).take 7=aB (code >>> (l - 7)) 7:=by rw [hj,List.take_left' (bV _ _)]
   have hr:=Bq (code / 2 ^ (l - 7)) 7 ω
   rw [Nat.shiftRight_eq_div_pow] at ht
   rw [← ht] at hr
   have hq:code / 2 ^ (l - 7)≤code:=Nat.div_le_self _ _
   obtain ⟨z,hz⟩:∃ z,z=code / 2 ^ (l - 7):=⟨_,rfl⟩
   have e1:=rS (a:=code) (n:=l - 7) ω
   rw [← hz] at hr hq e1
   have e2:=t8 (a:=z) (n:=8) ω ω
   obtain ⟨y,hy⟩:∃ y,y=z % 2 ^ 8:=⟨_,rfl⟩
   have hyl:y<256:=by rw [hy];exact Nat.mod_lt _ δ
   rw [← hy] at hr e2
   have hrl:=HX y hyl
   obtain ⟨rv,hrv⟩:∃ rv,rv=gq.getD y 0:=⟨_,rfl⟩
   have hcell:=gl.rev y hyl
   rw [← hrv] at hr hrl hcell
   have e3:=rS (a:=rv) (n:=1) ω
   refine Cr (ai O (ai O (bw (r:=((l - 7:Nat):Int)) O O (by rw [ew ω];omega) (Lp (d6 O O ω e1) (Lp (gZ O O e2) (Lp (fo y F1 O O O hyl) (aC aQ O (H.old hcell (hS.g 10 O)) (cm gx O (ew ω) (Lp (d6 O O ω e3) (az O (Lt ?_)))))))))))
   refine ⟨cs,lut,rv / 2 ^ 1,O,O,O,O,O,O,H,hc,d_.refl _ _,ω,fun _ => hr,fun x hx => by rw [if_neg ω],fun h => ω⟩
  case neg =>
   refine CF O ω ?_
   have hr:=Bq code l ω
   have hpv:=uO (aB code l)
   rw [hpl] at hpv
   have e2:=t8 (a:=code) (n:=8) ω ω
   obtain ⟨y,hy⟩:∃ y,y=code % 2 ^ 8:=⟨_,rfl⟩
   have hyl:y<256:=by rw [hy];exact Nat.mod_lt _ δ
   rw [← hy] at hr e2
   have hrl:=HX y hyl
   obtain ⟨rv,hrv⟩:∃ rv,rv=gq.getD y 0:=⟨_,rfl⟩
   have hcell:=gl.rev y hyl
   rw [← hrv] at hr hrl hcell
   have e3:=rS (a:=rv) (n:=8 - l) ω
   rw [hr] at e3
   obtain ⟨base,hbase⟩:∃ base,base=val (aB code l):=⟨_,rfl⟩
   rw [← hbase] at e3 hpv
   have hl7:2 ^ l≤2 ^ 7:=Nat.pow_le_pow_right ω ω
   refine Cy (ai O (Lp (gZ O O e2) (Lp (fo y F1 O O O hyl) (aC aQ O (H.old hcell (hS.g 10 O)) (cm gx O (ew ω) (ai O (bw (r:=((8 - l:Nat):Int)) O O (by rw [ew ω];omega) (Lp (d6 O O ω e3) (az O (Lt (Cy (az O (Lt (Cb ?_))))))))))))))
   refine Cl (fun m ρ w' => ∃ i cs1 lut1,m=2 ^ (7 - l) - i∧ρ 0=.pointer (some ⟨bg,off,none⟩)∧ρ 1=.int .u32 (s:Nat)∧ρ 2=.int .u32 (code:Nat)∧ρ 3=.int .u32 (l:Nat)∧ρ 8=.nilIface ∧
    ρ 9=.int .u32 (base:Nat)∧ρ 10=iT i∧i≤2 ^ (7 - l)∧St w [bg,bn] [aa bg cs1 tG,aa bn (c_ ns) tN] w'∧HC cs1 off bn len cap lut1∧d_ cs cs1 off ∧
    ∀ x,x<128→lut1 x=if x % 2 ^ l=base∧x / 2 ^ l<i then s * 256+l+1 else lut x) (2 ^ (7 - l) - 0)
    ⟨0,cs,lut,rfl,rfl,rfl,rfl,rfl,rfl,rfl,rfl,Nat.zero_le _,H,hc,d_.refl _ _,fun x hx => by rw [if_neg (fun h => Nat.not_lt_zero _ h.2)]⟩ ?_
   clear H hc
   rintro m ρ w1 ⟨i,cs1,lut1,rfl,h0,h1,h2,h3,h8,h9,h10,hi,H,hc,hso,hlut⟩
   have e4:=Lf (n:=7 - l) ω
   have hi7:2 ^ (7 - l)≤2 ^ 7:=Nat.pow_le_pow_right ω ω
   have hpp:2 ^ l * 2 ^ (7 - l)=128:=by rw [← Nat.pow_add,show l+(7 - l)=7 by omega]
   refine Cs (Cy (ai h10 (ai h3 (bw (r:=((7 - l:Nat):Int)) O O (by rw [ew ω];omega) (Lp (ed O O ω e4) (bP O O (Lt ?_)))))))
   by_cases hlt:i<2 ^ (7 - l)
   case pos =>
    have hx:base+i * 2 ^ l<128:=by
     have h1:(i+1) * 2 ^ l≤2 ^ (7 - l) * 2 ^ l:=Nat.mul_le_mul_right _ hlt
     rw [Nat.mul_comm (2 ^ (7 - l)),hpp,Nat.succ_mul] at h1
     omega
    have e5:=xM (a:=i) (n:=l) ω ω
    have e6:=Jd (a:=base) (b:=i) (n:=l) ω ω
    have e7:=xM (a:=s) (n:=8) ω ω
    have e8:H9 .u32 ((s * 2 ^ 8:Nat):Int) ((l+1:Nat):Int)=((s * 256+l+1:Nat):Int):=by
     rw [Ez,Jd ω ω]
     omega
    refine CT O ω (Ck (tn (Cs (Cb (Cr (bH h0 (ai h9 (ai h10 (cm jV O (ew ω) (ai h3 (Lp (ed O O ω e5) (Lp (sH O O e6) (ai h1 (Lp (ed O O ω e7) (ai h3 (ao (r:=((l+1:Nat):Int)) O O (by rw [ew ω];omega) (Lp (sH O O e8) (aK O (aU ov O (Lp (fo (base+i * 2 ^ l) uU O O O hx) ?_))))))))))))))))))))
    refine bC H 0 dY O O O (hc.look _ hx) ?_
    intro w H
    refine Ln (aF (tn (Cr (ai h10 (ao O O (fg ω) (az O (Lt ?_)))))))
    refine ⟨2 ^ (7 - l) - (i+1),ω,i+1,_,_,O,h0,h1,h2,h3,h8,h9,O,ω,H,hc.setLut hx _,hso.trans (d_.set _ _ _ _ ω ω),fun x hx' => ?_⟩
    have hmd:(base+i * 2 ^ l) % 2 ^ l=base:=by rw [Nat.add_mul_mod_self_right,Nat.mod_eq_of_lt hpv]
    have hdv:(base+i * 2 ^ l) / 2 ^ l=i:=by rw [Nat.add_mul_div_right _ _ (Nat.two_pow_pos l),Nat.div_eq_of_lt hpv,Nat.zero_add]
    by_cases hxe:x=base+i * 2 ^ l
    ·rw [if_pos hxe,if_pos]
     rw [hxe,hmd,hdv]
     exact ⟨O,Nat.lt_succ_self i⟩
    ·rw [if_neg hxe,hlut x hx']
     by_cases hm:x % 2 ^ l=base
     ·have hne:x / 2 ^ l≠i:=fun h => hxe (by
       have:=Nat.mod_add_div x (2 ^ l)
       rw [hm,h,Nat.mul_comm] at this
       exact this.symm)
      by_cases hd:x / 2 ^ l<i
      ·rw [if_pos ⟨hm,hd⟩,if_pos ⟨hm,ω⟩]
      ·rw [if_neg (fun h => hd h.2),if_neg (fun h => by have:=h.2;omega)]
     ·rw [if_neg (fun h => hm h.1),if_neg (fun h => hm h.1)]
   case neg =>
    refine CF O ω (Cx (ax (ax (br (tn ?_)))))
    have hi2:i=2 ^ (7 - l):=ω
    have hb2:base<128:=ω
    have hall:∀ x,x<128→x / 2 ^ l<i:=fun x hx => by
     rw [hi2,Nat.div_lt_iff_lt_mul (Nat.two_pow_pos l),Nat.mul_comm,hpp];exact hx
    refine ⟨cs1,lut1,base,h0,h1,h2,h3,h8,h9,H,hc,hso,hb2,fun h => ω,fun x hx => ?_,fun h => ?_⟩
    ·rw [if_pos ω,hlut x hx,← hbase]
     by_cases hm:x % 2 ^ l=base
     ·rw [if_pos ⟨hm,hall x hx⟩,if_pos hm]
     ·rw [if_neg (fun h => hm h.1),if_neg hm]
    ·rw [hlut base hb2,if_pos ⟨Nat.mod_eq_of_lt hpv,hall base hb2⟩]
     omega
 case refine_2 =>
  clear H hc
  rintro ρ w1 ⟨cs1,lut1,base,h0,h1,h2,h3,h8,h9,H,hc,hso,hbase,hb7,hlut,hnz⟩
  refine Cy (az O (Lt (Cs (Cy (az O (Lt (Cb ?_)))))))
  have hbld:=hb
  obtain ⟨A0,hr0,hnd0,hbe0,hct0⟩:=hb.rep
  refine Cl (fun m ρ w' => ∃ q p cs1 ns1 len1 n lut1 X,p=aB code m∧m≤l∧Jz w bg off bn cap cs tG tN ns lut t s code l base m q p cs1 ns1 len1 n lut1 X ρ w') l
   ⟨[],aB code l,cs1,ns,len,0,lut1,t,rfl,Nat.le_refl _,A0,fun X => X,[],h0,h1,h2,h3,h8,h9,rfl,rfl,H,hc,hso,EU hr0 hnd0 hbe0 hct0 hb.zero hb.len_le,fun x hx => by
    rw [hlut x hx]
    by_cases h7:l≤7
    ·rw [if_pos h7,if_pos h7]
    ·rw [if_neg h7,if_neg h7,if_neg (by simp)]⟩ ?_
  have hnz2:l=7→(if base % 2 ^ l=val (aB code l) then s * 256+l+1 else lut base)≠0:=fun h => by
   have:=hnz h
   rw [hlut base hbase,if_pos ω] at this
   exact this
  clear H hc hso hlut h0 h1 h2 h3 h8 h9 hnz
  rintro m ρ w1 ⟨q,p,cs1,ns1,len1,n,lut1,X,rfl,hm,A,C,K,h0,h1,h2,h3,h8,h9,h11,h12,H,hc,hso,z,hlut⟩
  have hlz:=z.here
  have hcap1:len1≤cap:=by have:=z.len_le;rw [z.size,hns] at this;exact this
  have hns1:ns1.length=cap:=by rw [z.size,hns]
  have hql:q.length=l - m:=by
   have:=congrArg List.length z.way
   rw [List.length_append,bV,bV] at this
   omega
  refine Cs (Cy (ai h3 (Lp (e9 O O) (Lt ?_))))
  by_cases hm0:m=0
  case pos =>
   subst hm0
   refine CF O ω (Cx (ax (ax (br (tn ?_)))))
   have hq:q=aB code l:=by have:=z.way;simp only [aB,List.append_nil] at this;exact this.symm
   subst hq
   rw [hpl] at hlut
   have hchi:∃ (sy:Nat) (cv:Int),ns1[n]?=some (sy,cv):=by
    have:n<ns1.length:=ω
    exact ⟨_,_,by rw [List.getElem?_eq_getElem this]⟩
   obtain ⟨sy,cv,hsn⟩:=hchi
   have hfin:∀ x,x<128→zS lut s (aB code l) (jk ns1 0 ((aB code l).take 7)) x=lut1 x:=fun x hx => by
    rw [hlut x hx]
    unfold zS
    rw [hpl]
    by_cases h7:l≤7
    ·rw [if_pos h7,if_pos h7]
    ·rw [if_neg h7,if_neg h7,← hb7 ω]
     by_cases hxb:x=base
     ·rw [if_pos hxb,if_pos (show 7≤l∧x=base from ⟨ω,hxb⟩)]
     ·rw [if_neg hxb,if_neg (fun h => hxb h.2)]
   refine Cs (Cy (bH h0 (aK O (aU eS O (aC jl O (H.cell 0 O hc.nodes) (ai h11 (Lp (gm n jo O O O hlz) (aU lX O (aC nP O (H.cell 1 O (by rw [Nat.zero_add];exact io ns1 n _ hsn)) (Lt ?_))))))))))
   cases X with
   | n a b =>
    have hst:=z.stuck_end
    obtain ⟨sy',c,B,D,hn',hc0,_⟩:=z.rep
    rw [hsn] at hn'
    simp only [Option.some.injEq,Prod.mk.injEq] at hn'
    obtain ⟨rfl,rfl⟩:=hn'
    refine Cb (Cy (bF O O (cU O (Lt (CF O ω (Cy (bF O O (cU O (Lt (CF O ω (Cy (aC nk O (H.old hae (hS.g 5 O)) (bI O (Ln ?_))))))))))))))
    refine tn (Ct (bL (aE ?_)))
    exact ak O O (.inr ⟨fun t' ht' => (by rw [hst] at ht';cases ht'),⟨_,O⟩,H.frm⟩)
   | l s0 =>
    obtain ⟨t',hins,hb'⟩:=z.finish (fun _ _ h => nomatch h) hs ⟨len,hb⟩
    have hn':=z.rep.2
    rw [hsn] at hn'
    simp only [Option.some.injEq,Prod.mk.injEq] at hn'
    obtain ⟨rfl,rfl⟩:=hn'
    refine Cb (Cy (bF O O (cU O (Lt (CT O O (Ck (aF (tn (Cy (bH h0 (aK O (aU eS O (aC jl O (H.cell 0 O hc.nodes) (ai h11 (ai h1 (Lp (gm n jo O O O hlz) (aU xK O ?_)))))))))))))))))
    refine bC H 1 dY O O O (by rw [Nat.zero_add];exact lJ ns1 n _ hsn) ?_
    intro w H
    refine Lt (Cy (bI O (Lt (Ct ?_))))
    have H2:=H.blk (i:=1) rfl
    rw [show 0+n * 2+0=n * 2 by omega,lm ns1 n _ s hsn] at H2
    obtain ⟨Az,hrz,_,_,hcz⟩:=hb'.rep
    have:=hrz.count
    exact ak O O (.inl ⟨t',cs1,_,len1,_,hins,ω,O,H.blk (i:=0) rfl,H2,hc.congr hfin,hb',by rw [List.length_set];exact hns1,hso,H.frm⟩)
   | e =>
    obtain ⟨t',hins,hb'⟩:=z.finish (fun _ _ h => nomatch h) hs ⟨len,hb⟩
    obtain ⟨_,sy',hn'⟩:=z.rep
    rw [hsn] at hn'
    simp only [Option.some.injEq,Prod.mk.injEq] at hn'
    obtain ⟨rfl,rfl⟩:=hn'
    refine Cb (Cy (bF O O (cU O (Lt (CF O ω (Cy (bF O O (cU O (Lt (CT O O (Cr (bH h0 (aK O (aU eS O (aC jl O (H.cell 0 O hc.nodes) ?_)))))))))))))))
    refine ai h11 (Lp (gm n jo O O O hlz) (aU lX O (bC H 1 Gr O O O (by rw [Nat.zero_add];exact io ns1 n _ hsn) ?_)))
    intro w H
    refine Ln (aF (tn ?_))
    have hsn2:(ns1.set n (sy,-1))[n]?=some (sy,-1):=by simp [(by omega:n<ns1.length)]
    have hcc:(c_ ns1).set (0+n * 2+1) (.int .i32 (-1))=c_ (ns1.set n (sy,-1)):=by
     rw [Nat.zero_add,lD ns1 n _ (-1) hsn]
    rw [hcc] at H
    refine Cy (bH h0 (aK O (aU eS O (aC jl O (H.cell 0 O hc.nodes) (ai h11 (ai h1 (Lp (gm n jo O O O hlz) (aU xK O (bC H 1 dY O O O (by rw [Nat.zero_add];exact lJ _ n _ hsn2) ?_)))))))))
    intro w H
    refine Lt (Cy (bI O (Lt (Ct ?_))))
    have H2:=H.blk (i:=1) rfl
    rw [show 0+n * 2+0=n * 2 by omega,lm _ n _ s hsn2,List.set_set] at H2
    obtain ⟨Az,hrz,_,_,hcz⟩:=hb'.rep
    have:=hrz.count
    exact ak O O (.inl ⟨t',cs1,_,len1,_,hins,ω,O,H.blk (i:=0) rfl,H2,hc.congr hfin,hb',by rw [List.length_set];exact hns1,hso,H.frm⟩)
  case neg =>
   obtain ⟨k,rfl⟩:∃ k,m=k+1:=⟨m - 1,ω⟩
   refine CT O ω (Ck (tn (Cb (Cy (ai h3 (bw (r:=(k:Nat)) O O (by rw [ew ω];omega) (az O (Lt (Cs (Cy (ai h11 (cm jT O (fg ω) (bH h0 (aK O (aU eS O (aC jl O (H.cell 0 O hc.nodes) (bG jo O (Lp (e9 O O) ?_))))))))))))))))))
   refine Lt (CF O ω (Ck (tn ?_)))
   have hchi:∃ (sy:Nat) (cv:Int),ns1[n]?=some (sy,cv):=by
    have:n<ns1.length:=ω
    exact ⟨_,_,by rw [List.getElem?_eq_getElem this]⟩
   obtain ⟨sy,cv,hsn⟩:=hchi
   refine Cs (Cy (bH h0 (aK O (aU eS O (aC jl O (H.cell 0 O hc.nodes) (ai h11 (Lp (gm n jo O O O hlz) (aU lX O (aC nP O (H.cell 1 O (by rw [Nat.zero_add];exact io ns1 n _ hsn)) (Lt ?_))))))))))
   refine aH (fun ρ w' => ∃ cs1 ns1 len1 lut1 a b,Jz w bg off bn cap cs tG tN ns lut t s code l base k q (aB code (k+1)) cs1 ns1 len1 n lut1 (.n a b) ρ w') ?_ ?_
   case refine_1 =>
    refine Cb ?_
    cases X with
    | n a b =>
     obtain ⟨sy',c,B,D,hn',hc0,_⟩:=z.rep
     rw [hsn] at hn'
     simp only [Option.some.injEq,Prod.mk.injEq] at hn'
     obtain ⟨rfl,rfl⟩:=hn'
     refine Cy (bF O O (cU O (Lt (CF O ω (Cy (bF O O (cU O (Lt (CF O ω (Ck (aF (tn ?_))))))))))))
     exact ⟨cs1,ns1,len1,lut1,a,b,A,C,K,h0,h1,h2,O,h8,h9,h11,h12,H,hc,hso,z,hlut⟩
    | l s0 =>
     have hst:=z.stuck_leaf
     have hn':=z.rep.2
     rw [hsn] at hn'
     simp only [Option.some.injEq,Prod.mk.injEq] at hn'
     obtain ⟨rfl,rfl⟩:=hn'
     refine Cy (bF O O (cU O (Lt (CT O O (Cy (aC nk O (H.old hae (hS.g 5 O)) (bI O (Lt (Ct (bL (aE (bL (aE (bL (aE ?_)))))))))))))))
     exact ak O O (.inr ⟨fun t' ht' => (by rw [hst] at ht';cases ht'),⟨_,O⟩,H.frm⟩)
    | e =>
     have hroom:=z.stuck_room
     have hodd2:=z.odd
     obtain ⟨_,sy',hn'⟩:=z.rep
     rw [hsn] at hn'
     simp only [Option.some.injEq,Prod.mk.injEq] at hn'
     obtain ⟨rfl,rfl⟩:=hn'
     refine Cy (bF O O (cU O (Lt (CF O ω (Cy (bF O O (cU O (Lt (CT O O (Cs (Cs (Cd aJ κ ?_))))))))))))
     intro w hsame
     replace H:=H.same hsame
     refine mY h0 (du O (dD eS O (aD jl O (H.cell 0 O hc.nodes) (Sp (dx jo O) (mY h0 (du O (dD eS O (aD jl O (H.cell 0 O hc.nodes) (Sp (Lu jo O) (Sp (qi O O) (Sn (tn ?_))))))))))))
     by_cases hfull:len1=cap
     case pos =>
      refine CT O ω (Cy (aC nk O (H.old hae (hS.g 5 O)) (bI O (Lt (Ct (aE (bL (aE (bL (aE (bL (aE ?_))))))))))))
      exact ak O O (.inr ⟨fun t' ht' => (by have:=hroom t' ht';omega),⟨_,O⟩,H.frm⟩)
     case neg =>
      refine CF O ω (Ck (tn ?_))
      obtain ⟨sy2,hsn2,z2⟩:=z.open_ ω
      rw [hsn] at hsn2
      simp only [Option.some.injEq,Prod.mk.injEq,and_true] at hsn2
      subst hsn2
      have hcc:(c_ ns1).set (0+n * 2+1) (.int .i32 (len1:Int))=c_ (ns1.set n (sy,(len1:Int))):=by
       rw [Nat.zero_add,lD ns1 n _ _ hsn]
      refine Cs (ar 13 aJ κ ?_)
      intro w hsame
      replace H:=H.same hsame
      refine mY h0 (du O (dD eS O (aD jl O (H.cell 0 O hc.nodes) (bW h11 (mY h0 (du O (dD eS O (aD jl O (H.cell 0 O hc.nodes) (Sp (dx jo O) (Sp (rp Gk O (jm ω)) (Sp (gm n jo O O O hlz) (dD lX O (Sn (bC H 1 Gr O O O (by rw [Nat.zero_add];exact io ns1 n _ hsn) ?_))))))))))))))
      intro w H
      refine Lt ?_
      rw [hcc] at H
      refine ar 14 aJ κ ?_
      intro w hsame
      replace H:=H.same hsame
      refine mY h0 (mY h0 (du O (dD eS O (aD jl O (H.cell 0 O hc.nodes) (mY h0 (du O (dD eS O (aD jl O (H.cell 0 O hc.nodes) (Sp (dx jo O) (aG (r:=((len1+2:Nat):Int)) O O (by rw [fg ω];omega) (Sp (ll (len1+2) jo O O O ω) (du O (dD eS O (Sn (kB H 0 Dd O O O hc.nodes ?_)))))))))))))))
      intro w H
      refine Ln (aF (tn ?_))
      refine ⟨_,_,len1+2,lut1,.e,.e,_,C,K,h0,h1,h2,O,h8,h9,h11,h12,H,hc.setNodes (len1+2),hso.trans (d_.set _ _ _ _ ω ω),z2,fun x hx => ?_⟩
      rw [hlut x hx]
      by_cases h7:l≤7
      ·rw [if_pos h7,if_pos h7]
      ·rw [if_neg h7,if_neg h7]
       by_cases hxb:7≤q.length∧x=base
       ·rw [if_pos hxb,if_pos hxb]
        have hpre:(aB code l).take 7 <+: q:=by
         rw [z.way,List.take_append_of_le_length hxb.1]
         exact List.take_prefix 7 q
        rw [z.stable _ hpre]
       ·rw [if_neg hxb,if_neg hxb]
   case refine_2 =>
    clear H hc hso z hlut h0 h1 h2 h3 h8 h9 h11 h12 hlz hcap1 hns1 hsn
    rintro ρ w2 ⟨cs1,ns1,len1,lut1,a,b,A,C,K,h0,h1,h2,h3,h8,h9,h11,h12,H,hc,hso,z,hlut⟩
    have hcap1:len1≤cap:=by have:=z.len_le;rw [z.size,hns] at this;exact this
    have hlz:=z.here
    obtain ⟨bit,hbit⟩:∃ bit,bit=code.testBit k:=⟨_,rfl⟩
    have hb01:=Bool.toNat_le bit
    have key:∃ (sy c:Nat) (X':PT) (A':List Nat) (C':PT→PT) (K':List Nat),ns1[n]?=some (sy,(c:Int))∧c+1<len1∧uh ns t s (aB code l) (q++[bit]) (aB code k) ns1 len1 (c+bit.toNat) X' A' C' K':=by
     have z':=z
     simp only [aB,← hbit] at z'
     cases bit with
     | true =>
      obtain ⟨c,B,D,hm,_,hc2,z2⟩:=z'.right
      obtain ⟨⟨sy,cv⟩,e1,e2⟩:=Option.map_eq_some_iff.1 hm
      simp only at e2;subst e2
      exact ⟨sy,c,_,_,_,_,e1,hc2,z2⟩
     | false =>
      obtain ⟨c,B,D,hm,_,hc2,z2⟩:=z'.left
      obtain ⟨⟨sy,cv⟩,e1,e2⟩:=Option.map_eq_some_iff.1 hm
      simp only at e2;subst e2
      exact ⟨sy,c,_,_,_,_,e1,hc2,z2⟩
    obtain ⟨sy,c,X',A',C',K',hsn,hc2,z'⟩:=key
    have e1:=rS (a:=code) (n:=k) ω
    have hq2:code / 2 ^ k≤code:=Nat.div_le_self _ _
    have e2:sL .u32 1 ((code / 2 ^ k:Nat):Int)=(bit.toNat:Nat):=by
     have:=t8 (a:=code / 2 ^ k) (n:=1) ω ω
     rw [wZ,hbit,Nat.toNat_testBit]
     exact this
    have e3:=xM (a:=c+bit.toNat) (n:=8) ω ω
    have hl1:(q++[bit]).length=q.length+1:=by simp
    refine Cy (bH h0 (aK O (aU eS O (aC jl O (H.cell 0 O hc.nodes) (ai h11 (Lp (gm n jo O O O hlz) (aU lX O (aC nP O (H.cell 1 O (by rw [Nat.zero_add];exact io ns1 n _ hsn)) (cm (r:=(c:Nat)) oe O (ew ω) (ai h2 (ai h3 (Lp (d6 O O ω e1) (Lp (gZ O O e2) (ao (r:=((c+bit.toNat:Nat):Int)) O O (by rw [ew ω];omega) (az O (Lt (Cs ?_)))))))))))))))))
    refine Cr (ai h12 (bw (r:=7 - ((q++[bit]).length:Int)) O O (by rw [fg ω];omega) (az O (Lt (Cs ?_)))))
    by_cases hj:q.length+1=7
    case neg =>
     refine Cr (ai O (Lp (bR O O (decide_eq_false ω)) (dh O (Lk (Lk (Lk (Lk (Lk (Lk (Lk (ay O O (Lt (Cq O (Ck (aF (tn ?_))))))))))))))))
     refine ⟨k,ω,q++[bit],_,cs1,ns1,len1,_,lut1,X',O,ω,A',C',K',h0,h1,h2,h3,h8,h9,O,O,H,hc,hso,z',fun x hx => ?_⟩
     rw [hlut x hx,hl1]
     by_cases h7:l≤7
     ·rw [if_pos h7,if_pos h7]
     ·rw [if_neg h7,if_neg h7]
      by_cases hxb:7≤q.length∧x=base
      ·rw [if_pos hxb,if_pos (show 7≤q.length+1∧x=base from ⟨ω,hxb.2⟩)]
      ·rw [if_neg hxb,if_neg (fun h => hxb ⟨ω,h.2⟩)]
    case pos =>
     have hlb:=hlut base hbase
     have hpt:¬ l≤7→(aB code l).take 7=q++[bit]:=fun _ => by
      rw [z'.way,List.take_left' ω]
     by_cases hz:lut1 base=0
     case neg =>
      refine Cr (ai O (Lp (bR O O (decide_eq_true ω)) (dh O (Lg (YP h0) (Lg (YI h9) (Lg (iL O) (Lg (iQ ov O) (Lg (fo base uU O O O hbase) (Lg (ef bD O (H.cell 0 O (hc.look base hbase))) (Lg (bR O O (decide_eq_false ω)) (ay O O (Lt (Cq O (Ck (aF (tn ?_))))))))))))))))
      refine ⟨k,ω,q++[bit],_,cs1,ns1,len1,_,lut1,X',O,ω,A',C',K',h0,h1,h2,h3,h8,h9,O,O,H,hc,hso,z',fun x hx => ?_⟩
      rw [hlut x hx,hl1]
      by_cases h7:l≤7
      ·rw [if_pos h7,if_pos h7]
      ·rw [if_neg h7,if_neg h7,if_neg (fun h => ω)]
       rw [if_neg h7,if_neg (fun h => ω)] at hlb
       by_cases hxb:x=base
       ·rw [if_pos (show 7≤q.length+1∧x=base from ⟨ω,hxb⟩),hxb,if_neg ω]
       ·rw [if_neg (fun h => hxb h.2)]
     case pos =>
      have h7:¬ l≤7:=fun h => by
       rw [if_pos h] at hlb
       exact hnz2 ω (by rw [← hlb];exact hz)
      rw [if_neg h7,if_neg (fun h => ω)] at hlb
      refine Cr (ai O (Lp (bR O O (decide_eq_true ω)) (dh O (Lg (YP h0) (Lg (YI h9) (Lg (iL O) (Lg (iQ ov O) (Lg (fo base uU O O O hbase) (Lg (ef bD O (H.cell 0 O (hc.look base hbase))) (Lg (bR O O (decide_eq_true ω)) (ay O O (Lt ?_))))))))))))
      refine Cp O ?_
      refine Cr (bH h0 (ai h9 (ai O (Lp (ed O O ω e3) (aK O (aU ov O (Lp (fo base uU O O O hbase) (bC H 0 dY O O O (hc.look base hbase) ?_))))))))
      intro w H
      refine Ln (aF (tn ?_))
      refine ⟨k,ω,q++[bit],_,_,ns1,len1,_,_,X',O,ω,A',C',K',h0,h1,h2,h3,h8,h9,O,O,H,hc.setLut hbase _,hso.trans (d_.set _ _ _ _ ω ω),z',fun x hx => ?_⟩
      rw [if_neg h7,hl1]
      by_cases hxb:x=base
      ·rw [if_pos hxb,if_pos (show 7≤q.length+1∧x=base from ⟨ω,hxb⟩),hxb,if_pos ω,hpt h7,← z'.idx]
      ·rw [if_neg hxb,if_neg (fun h => hxb h.2),hlut x hx,if_neg h7,if_neg (fun h => hxb h.2)]
end Go.Proofs.YtmgemcffhbnpfaaGreatDoor
