/-
  A picture is written and read: part 2 of 13 (Dec, Gl, Vec, Slice, Maps, Tree, Next, PT, Ins).
-/
import Derived.Test.YtinkhckpckfajaaDoorA01
import Derived.Test.YtinkhckpckfajaaDoorRows
import Derived.ProofKit
import Derived.LaidMore
import Derived.LaidLaws
import Derived.OpenShut
import Derived.Stop.Joined
import Derived.Stop.ErrReads
import Derived.Laws.AppendOwn
import Derived.Great.BuildSlice
import Derived.ChangeMaps5
set_option linter.unusedVariables false
set_option linter.unusedSimpArgs false
set_option maxRecDepth 100000
namespace Go.Proofs.YtinkhckpckfajaaDoor
open Go
def ErrAt (w:World) (g:Nat):Prop:=∃ a,w.cell? ⟨g,0,none⟩=some (.iface 132 (.pointer (some a)))
def TabAt (w:World) (g:Nat) (k:IntKind) (l:List Nat):Prop:=∀ j,j<l.length→w.cell? ⟨g,0+j,none⟩=some (.int k (l.getD j 0:Nat))
structure Gl (w:World):Prop where
  high:nG≤w.heap.size
  eof:ErrAt w 1
  unx:ErrAt w 2
  badLen:ErrAt w 7
  badTree:ErrAt w 5
  rev:TabAt w 10 .u8 tab_reverseBits
  order:TabAt w 6 .u8 tab_codeLengthCodeOrder
  repB:TabAt w 8 .u8 tab_repeatBits
  repO:TabAt w 9 .u8 tab_repeatOffsets
  alpha:TabAt w 3 .u32 tab_alphabetSizes
  dist:TabAt w 4 .u8 tab_distanceMapTable
  inv:∀ j f,[(116:Nat),117,118,119][j]?=some f→w.cell? ⟨0,j,none⟩=some (.func (.func f) #[] #[])
theorem ErrAt.keep {S:List Nat} {w w':World} {g:Nat} (h:ErrAt w g) (hf:Frm S w w') (hg:g ∉ S):ErrAt w' g:=let ⟨a,ha⟩:=h;⟨a,hf.cell ha hg⟩
theorem TabAt.keep {S:List Nat} {w w':World} {g:Nat} {k:IntKind} {l:List Nat} (h:TabAt w g k l) (hf:Frm S w w') (hg:g ∉ S):TabAt w' g k l:=fun j hj => hf.cell (h j hj) (by exact hg)
def HighS (S:List Nat):Prop:=∀ b ∈ S,nG≤b
theorem HighS.no {S:List Nat} (h:HighS S) {g:Nat} (hg:g<nG):g ∉ S:=fun hm => by have:=h g hm;omega
theorem HighS.g {S:List Nat} (h:HighS S) (g:Nat) (hg:Nat.blt g nG=true):g ∉ S:=h.no (by simpa [Nat.blt_eq] using hg)
theorem Gl.keep {S:List Nat} {w w':World} (h:Gl w) (hf:Frm S w w') (hS:HighS S):Gl w' :=
  ⟨Nat.le_trans h.high hf.size,h.eof.keep hf (hS.no (by decide)),h.unx.keep hf (hS.no (by decide)),h.badLen.keep hf (hS.no (by decide)),h.badTree.keep hf (hS.no (by decide)),
   h.rev.keep hf (hS.no (by decide)),h.order.keep hf (hS.no (by decide)),h.repB.keep hf (hS.no (by decide)),h.repO.keep hf (hS.no (by decide)),h.alpha.keep hf (hS.no (by decide)),h.dist.keep hf (hS.no (by decide)),
   fun j f hj => hf.cell (h.inv j f hj) (hS.no (show 0<nG by decide))⟩
structure Src where
  d:Nat
  rd:Nat
  sb:Nat
  so:Nat
  cap:Nat
  s:List Nat
def decR (σ:Src) (R:Bits):Res:=⟨[σ.d,σ.rd],fun w => ∃ i nb pr,Blk w σ.d [.iface 42 (.pointer (some ⟨σ.rd,0,none⟩)),.int .u32 (val (R.take nb):Nat),.int .u32 (nb:Nat)] 128 ∧
  Blk w σ.rd [.slice (some ⟨σ.sb,σ.so,none⟩) σ.s.length σ.cap,.int .i64 (i:Nat),.int .i64 pr] 80∧nb≤14∧Reg σ.s R i nb⟩
theorem decR_local (σ:Src) (R:Bits):(decR σ R).Local∧(decR σ R).In:=by
  refine ⟨fun w w' h ⟨i,nb,pr,h1,h2,h3,h4⟩ => ⟨i,nb,pr,?_,?_,h3,h4⟩,fun w ⟨i,nb,pr,h1,h2,h3,h4⟩ b hb => ?_⟩
  · exact (h σ.d (by simp [decR])).trans h1
  · exact (h σ.rd (by simp [decR])).trans h2
  · simp only [decR,List.mem_cons,List.not_mem_nil,or_false] at hb
    rcases hb with rfl | rfl
    · exact h1.lt
    · exact h2.lt
structure RO (σ:Src) (w:World):Prop where
  gl:Gl w
  bytes:∀ j (h:j<σ.s.length),w.cell? ⟨σ.sb,σ.so+j,none⟩=some (.int .u8 (σ.s[j]:Nat))
  small:∀ c ∈ σ.s,c<256
  len:σ.s.length≤4611686018427387904
  sbl:σ.sb<w.heap.size
  ne:σ.d≠σ.rd∧nG≤σ.d∧nG≤σ.rd∧σ.sb≠σ.d∧σ.sb≠σ.rd
def OkS (σ:Src) (S:List Nat):Prop:=HighS S∧σ.sb ∉ S
theorem RO.keep {σ:Src} {S:List Nat} {w w':World} (h:RO σ w) (hf:Frm S w w') (hS:OkS σ S):RO σ w' :=
  ⟨h.gl.keep hf hS.1,fun j hj => hf.cell (h.bytes j hj) hS.2,h.small,h.len,Nat.lt_of_lt_of_le h.sbl hf.size,h.ne⟩
theorem RO.okS {σ:Src} {w:World} (h:RO σ w):OkS σ [σ.d,σ.rd]:=by
  obtain ⟨h1,h2,h3,h4,h5⟩:=h.ne
  exact ⟨fun b hb => by simp at hb;rcases hb with rfl | rfl <;> assumption,by simp [h4,h5]⟩
def rdL (σ:Src) (R:Bits) (i nb:Nat) (pr:Int):List Res:=[blkR σ.d [.iface 42 (.pointer (some ⟨σ.rd,0,none⟩)),.int .u32 (val (R.take nb):Nat),.int .u32 (nb:Nat)] 128,
  blkR σ.rd [.slice (some ⟨σ.sb,σ.so,none⟩) σ.s.length σ.cap,.int .i64 (i:Nat),.int .i64 pr] 80]
theorem decR_open {σ:Src} {R:Bits} {w:World} (D:(decR σ R).pred w) (ro:RO σ w):∃ i nb pr,St w [σ.d,σ.rd] (rdL σ R i nb pr) w∧nb≤14∧Reg σ.s R i nb:=by
  obtain ⟨i,nb,pr,h1,h2,h3,h4⟩:=D
  refine ⟨i,nb,pr,?_,h3,h4⟩
  refine St.cons (St.one h2 ⟨blkR_local _ _ _,blkR_in _ _ _⟩ (by simp [blkR])) h1 ⟨blkR_local _ _ _,blkR_in _ _ _⟩ (by simp [blkR]) ?_
  intro s hs b hb
  simp only [List.mem_singleton] at hs
  subst hs
  simp only [blkR,List.mem_singleton] at hb ⊢
  subst hb
  exact ro.ne.1
theorem decR_close {w0:World} {S:List Nat} {σ:Src} {R:Bits} {i nb:Nat} {pr:Int} {w:World} (H:St w0 S (rdL σ R i nb pr) w) (hn:nb≤14) (hr:Reg σ.s R i nb):(decR σ R).pred w :=
  ⟨i,nb,pr,H.blk (i:=0) rfl,H.blk (i:=1) rfl,hn,hr⟩
def ReadPost (σ:Src) (R:Bits) (n:Nat) (w:World) (e:Ending) (w':World):Prop :=
  (n≤R.length∧e=.returned (.tuple #[.int .u32 (val (R.take n):Nat),.nilIface])∧(decR σ (R.drop n)).pred w'∧Frm [σ.d,σ.rd] w w') ∨
  (R.length<n∧(∃ a,e=.returned (.tuple #[.int .u32 0,.iface 132 (.pointer (some a))]))∧Frm [σ.d,σ.rd] w w')
theorem read_any (σ:Src) (R:Bits) (n:Nat) (hn:n≤18) (w:World) (D:(decR σ R).pred w) (ro:RO σ w) :
    Calls Tryd.prog 37 #[.pointer (some ⟨σ.d,0,none⟩),.int .u32 (n:Nat)] w (ReadPost σ R n w):=by
  obtain ⟨i,nb,pr,H,hnb,hreg⟩:=decR_open D ro
  have hlen:=ro.len
  refine enter (m:=76) Tryd.func37 O Tryd.ntmps37 O (Cy (Lo O (AI O) (Lo O (Y.asg O) (Lt (Cs (Cb ?_))))))
  refine Cl (fun m ρ w' => ∃ i nb pr,m=32 - nb∧ρ 0=.pointer (some ⟨σ.d,0,none⟩)∧ρ 1=.int .u32 (n:Nat)∧St w [σ.d,σ.rd] (rdL σ R i nb pr) w'∧nb≤25∧(nb≤14∨nb<n+8)∧Reg σ.s R i nb) (32 - nb)
    ⟨i,nb,pr,rfl,rfl,rfl,H,by omega,.inl hnb,hreg⟩ ?_
  clear H hreg hnb D
  rintro m ρ w1 ⟨i,nb,pr,rfl,h0,h1,H,hnb,hnb2,hreg⟩
  have hl:=hreg.length
  have hi:=hreg.i_le
  refine Cs (Cy (Lo O (YP h0) (Lo O (Y.nilP O) (Lo O (Y.fa fa_128_2 O) (Lo O (Y.ld ld_36 O (H.cell 0 O O)) (Lo O (YI h1) (Lo O (Y.lss O O) (Lt ?_))))))))
  by_cases hlt:nb<n
  case pos =>
   by_cases hil:i<σ.s.length
   case pos =>
    have hc:=ro.small _ (List.getElem_mem hil)
    have hv:=hreg.val_more hil hc
    have hvl:=val_take_lt R nb
    have hvl2:=val_take_lt R (nb+8)
    refine CT O (by omega) (Ck (tn (Cb (Cy (Lo O (YP h0) (Lo O (Y.nilP O) (Lo O (Y.fa fa_128_0 O) (Lo O (Y.ld ld_123 O (H.cell 0 O O)) (VL.invoke O inv_42_ReadByte O (readByte_some w1 σ.rd σ.sb σ.so σ.s.length σ.cap i pr σ.s[i] (H.blk (i:=1) O) (H.old (ro.bytes i hil) ro.okS.2) ro.ne.2.2.2.2 hil (by omega)) O ?_)))))))))
    rintro e w2 ⟨rfl,hb,hf⟩
    replace H:=H.turnB 1 rfl hf hb
    refine ⟨_,rfl,?_⟩
    refine Lo O (Y.movT O) (Lo O (Y.ext O O) (Lo O (Y.ext O O) (Lo O (AI O) (Lo O (Y.asg O) (Lt (Cs (Cy (Lo O (Y.mov O) (Lo O (Y.neqNilF ifc_47 O O) (Lt (CB O (fun h => nomatch h) (fun _ => (Ck (tn ?_))))))))))))))
    have hp:2 ^ (nb+8)≤2 ^ 25:=Nat.pow_le_pow_right (by omega) (by omega)
    have e1:=shl32 (n:=nb) (a:=σ.s[i]) (by omega) (by omega)
    have e2:=or32 (b:=σ.s[i]) hvl (by omega)
    refine Cs (VC.drawTail 12 mixedP (by kernel_rfl) ?_)
    intro w hsame
    replace H:=H.same hsame
    refine So O (YP h0) (So O (Y.nilP O) (So O (Y.fa fa_128_1 O) (So O (Y.ld ld_36 O (H.cell 0 O O)) (So O (YI O) (So O (Y.cv int_5_36 O (wu32 (by omega))) (So O (YP h0) (So O (Y.nilP O) (So O (Y.fa fa_128_2 O) (So O (Y.ld ld_36 O (H.cell 0 O O)) (So O (Y.shl O O (by omega) e1) (So O (Y.or O O e2) (Sn (Lo O (Y.nilP O) (Lo O (Y.fa fa_128_1 O) (VL.putI H 0 st_36 O O O O ?_)))))))))))))))
    intro w H
    refine Lt (Cr (Lo O (YP h0) (Lo O (Y.nilP O) (Lo O (Y.fa fa_128_2 O) (Lo O (Y.ld ld_36 O (H.cell 0 O O)) (Lo O (Y.add O O (wu32 (by omega))) (Lo O (Y.nilP O) (Lo O (Y.fa fa_128_2 O) (VL.putI H 0 st_36 O O O O ?_)))))))))
    intro w H
    refine Ln (blk_n (tn ?_))
    rw [← hv] at H
    exact ⟨_,by omega,i+1,nb+8,-1,rfl,h0,h1,H,by omega,.inr (by omega),hreg.more hil⟩
   case neg =>
    obtain ⟨ae,hae⟩:=ro.gl.eof
    obtain ⟨au,hau⟩:=ro.gl.unx
    refine CT O (by omega) (Ck (tn (Cb (Cy (Lo O (YP h0) (Lo O (Y.nilP O) (Lo O (Y.fa fa_128_0 O) (Lo O (Y.ld ld_123 O (H.cell 0 O O)) (VL.invoke O inv_42_ReadByte O (readByte_end w1 σ.rd σ.sb σ.so σ.s.length σ.cap i pr _ (H.blk (i:=1) O) (H.old hae (ro.okS.1.no (by decide))) (by have:=ro.ne.2.2.1;exact Nat.lt_of_lt_of_le (by decide) this) (by omega) (by omega)) O ?_)))))))))
    rintro e w2 ⟨rfl,hb,hf⟩
    replace H:=H.turnB 1 rfl hf hb
    refine ⟨_,rfl,?_⟩
    refine Lo O (Y.movT O) (Lo O (Y.ext O O) (Lo O (Y.ext O O) (Lo O (AI O) (Lo O (Y.asg O) (Lt (Cs (Cy (Lo O (Y.mov O) (Lo O (Y.neqNilT ifc_47 O O) (Lt ?_))))))))))
    refine CB O (fun _ => ?_) (fun h => nomatch h)
    refine Cs (Cy (Lo O (Y.mov O) (Lo O (Y.ld ld_47 O (H.old hae (ro.okS.1.no (by decide)))) (Lo O (Y.eqlErr ifc_47 ptrc_132 O O) (Lt ?_)))))
    refine CB O (fun _ => ?_) (fun h => nomatch h)
    refine Cr (Lo O (Y.ld ld_47 O (H.old hau (ro.okS.1.no (by decide)))) (Lo O (Y.asg O) (Lt (Cy (Lo O (Y.mov O) (Lo O (AI O) (Lo O (Y.asg O) (Lt (Ct (thn_r (blk_r (thn_r (blk_r (thn_r ?_))))))))))))))
    exact Done.ret2 O O O (.inr ⟨by omega,⟨_,rfl⟩,H.frm⟩)
  case neg =>
    have hvl:=val_take_lt R nb
    refine CF O (by omega) (Cx (thn_x (thn_x (blk_x (tn ?_)))))
    have hp:2 ^ nb≤2 ^ 25:=Nat.pow_le_pow_right (by omega) (by omega)
    have hp2:2 ^ n≤2 ^ 18:=Nat.pow_le_pow_right (by omega) (by omega)
    have hp3:=Nat.two_pow_pos n
    have e1:=shl32 (n:=n) (a:=1) (by omega) (by omega)
    have e2:IntKind.u32.wrap (((1 * 2 ^ n:Nat):Int) - 1)=((2 ^ n - 1:Nat):Int):=by rw [wu32 (by omega)];omega
    have e3:=and32 (a:=val (R.take nb)) (n:=n) (by omega) (by omega)
    rw [← take_val (R:=R) (by omega:n≤nb)] at e3
    have e4:=shr32 (a:=val (R.take nb)) (n:=n) (by omega)
    rw [← Reg.val_less (by omega:n≤nb) hreg.nb_le] at e4
    refine Cy (Lo O (YP h0) (Lo O (Y.nilP O) (Lo O (Y.fa fa_128_1 O) (Lo O (Y.ld ld_36 O (H.cell 0 O O)) (Lo O (YI h1) (Lo O (Y.shl O O (by omega) e1) (Lo O (Y.sub O O e2) (Lo O (Y.and O O e3) (Lo O (AI O) (Lt (Cy (Lo O (YP h0) (Lo O (Y.nilP O) (Lo O (Y.fa fa_128_1 O) (Lo O (Y.ld ld_36 O (H.cell 0 O O)) (Lo O (YI h1) ?_))))))))))))))))
    refine Lo O (Y.shr O O (by omega) e4) (Lo O (Y.nilP O) (Lo O (Y.fa fa_128_1 O) (VL.putI H 0 st_36 O O O O ?_)))
    intro w H
    refine Lt (Cy (Lo O (YP h0) (Lo O (Y.nilP O) (Lo O (Y.fa fa_128_2 O) (Lo O (Y.ld ld_36 O (H.cell 0 O O)) (Lo O (YI h1) (Lo O (Y.sub (r:=((nb - n:Nat):Int)) O O (by rw [wu32 (by omega)];omega)) (Lo O (Y.nilP O) (Lo O (Y.fa fa_128_2 O) (VL.putI H 0 st_36 O O O O ?_))))))))))
    intro w H
    refine Lt (Cy (Lo O (YI O) (Lo O (AI O) (Lo O (Y.asg O) (Lt (Ct ?_))))))
    exact Done.ret2 O O O (.inl ⟨by omega,rfl,decR_close H (by omega) (hreg.less (by omega)),H.frm⟩)
theorem read_ok (σ:Src) (R:Bits) (n:Nat) (hn:n≤18) (hR:n≤R.length) (w:World) (D:(decR σ R).pred w) (ro:RO σ w) :
    Calls Tryd.prog 37 #[.pointer (some ⟨σ.d,0,none⟩),.int .u32 (n:Nat)] w fun e w' => e=.returned (.tuple #[.int .u32 (val (R.take n):Nat),.nilIface])∧(decR σ (R.drop n)).pred w'∧Frm [σ.d,σ.rd] w w' :=
  (read_any σ R n hn w D ro).mono fun e w' h => by
    rcases h with ⟨_,h⟩ | ⟨h,_⟩
    · exact h
    · omega
theorem read_fail (σ:Src) (R:Bits) (n:Nat) (hn:n≤18) (hR:R.length<n) (w:World) (D:(decR σ R).pred w) (ro:RO σ w) :
    Calls Tryd.prog 37 #[.pointer (some ⟨σ.d,0,none⟩),.int .u32 (n:Nat)] w fun e w' => (∃ a,e=.returned (.tuple #[.int .u32 0,.iface 132 (.pointer (some a))]))∧Frm [σ.d,σ.rd] w w' :=
  (read_any σ R n hn w D ro).mono fun e w' h => by
    rcases h with ⟨h,_⟩ | ⟨_,h⟩
    · omega
    · exact h
theorem RO.frm {σ:Src} {w0 w:World} {S:List Nat} {l:List Res} (ro:RO σ w0) (H:St w0 S l w) (hS:OkS σ S):RO σ w:=ro.keep H.frm hS
section
variable {w0 w:World} {S:List Nat} {l:List Res} {σ:Src} {R:Bits}
theorem St.dec (H:St w0 S l w) (i:Nat) {R':Bits} {w':World} (hi:l[i]?=some (decR σ R)) (hf:Frm [σ.d,σ.rd] w w') (hr:(decR σ R').pred w'):St w0 S (l.set i (decR σ R')) w' :=
  H.turn hi hf hr (decR_local σ R') (fun b hb => .inl hb)
theorem St.decFrm (H:St w0 S l w) {i:Nat} {w':World} (hi:l[i]?=some (decR σ R)) (hf:Frm [σ.d,σ.rd] w w'):Frm S w0 w' :=
  H.frm.then hf (fun b hb => H.own _ (List.mem_of_getElem? hi) b hb)
variable {n:Nat} {ops:Array Oper} {Q:Post} {rest:List Oper} {ρ:Env} {ty:TypeId} {pos:String} {after:Array Edge} {x y:Operand} {d k:Nat} {ts:Array TypeId}
theorem VL.readOk (H:St w0 S l w) (i:Nat) (hi:l[i]?=some (decR σ R)) (ro:RO σ w0) (hS:OkS σ S) (hk:k≤18) (hR:k≤R.length) (hd:Nat.blt d n=true) (hx:ev ρ x=.pointer (some ⟨σ.d,0,none⟩)) (hy:ev ρ y=.int .u32 (k:Nat))
    (h:∀ w',St w0 S (l.set i (decR σ (R.drop k))) w'→VL Tryd.prog n ops Q rest (upd ρ d (.tuple #[.int .u32 (val (R.take k):Nat),.nilIface])) w') :
    VL Tryd.prog n ops Q (⟨some d,.call ⟨.value (.func 37),#[x,y],ts⟩,ty,pos,after,none⟩ :: rest) ρ w :=
  VL.call hd ent_37 (read_ok σ R k hk hR w (H.get hi) (ro.frm H hS)) (by simp [hx,hy]) fun e w' ⟨he,hr,hf⟩ => ⟨_,he,h _ (H.dec i hi hf hr)⟩
theorem VL.readNo (H:St w0 S l w) (i:Nat) (hi:l[i]?=some (decR σ R)) (ro:RO σ w0) (hS:OkS σ S) (hk:k≤18) (hR:R.length<k) (hd:Nat.blt d n=true) (hx:ev ρ x=.pointer (some ⟨σ.d,0,none⟩)) (hy:ev ρ y=.int .u32 (k:Nat))
    (h:∀ w' a,Frm S w0 w'→VL Tryd.prog n ops Q rest (upd ρ d (.tuple #[.int .u32 0,.iface 132 (.pointer (some a))])) w') :
    VL Tryd.prog n ops Q (⟨some d,.call ⟨.value (.func 37),#[x,y],ts⟩,ty,pos,after,none⟩ :: rest) ρ w :=
  VL.call hd ent_37 (read_fail σ R k hk hR w (H.get hi) (ro.frm H hS)) (by simp [hx,hy]) fun e w' ⟨⟨a,he⟩,hf⟩ => ⟨_,he,h _ a (H.decFrm hi hf)⟩
theorem VL.readNoS (H:St w0 S l w) (i:Nat) (hi:l[i]?=some (decR σ R)) (ro:RO σ w0) (hS:OkS σ S) (hk:k≤18) (hR:R.length<k) (hd:Nat.blt d n=true) (hx:ev ρ x=.pointer (some ⟨σ.d,0,none⟩)) (hy:ev ρ y=.int .u32 (k:Nat))
    (h:∀ w' a,St w0 S (l.eraseIdx i) w'→VL Tryd.prog n ops Q rest (upd ρ d (.tuple #[.int .u32 0,.iface 132 (.pointer (some a))])) w') :
    VL Tryd.prog n ops Q (⟨some d,.call ⟨.value (.func 37),#[x,y],ts⟩,ty,pos,after,none⟩ :: rest) ρ w :=
  VL.call hd ent_37 (read_fail σ R k hk hR w (H.get hi) (ro.frm H hS)) (by simp [hx,hy]) fun e w' ⟨⟨a,he⟩,hf⟩ => ⟨_,he,h _ a (H.lost hi hf)⟩
theorem VH.readOk {lo:List Oper} {fuel:Nat} {listed:Array Bool} (i:Nat) (hio:lo[i]?=some ⟨some d,.call ⟨.value (.func 37),#[x,y],ts⟩,ty,pos,after,none⟩) (hr:Region.ready .any lo.toArray listed=[i])
    (H:St w0 S l w) (j:Nat) (hi:l[j]?=some (decR σ R)) (ro:RO σ w0) (hS:OkS σ S) (hk:k≤18) (hR:k≤R.length) (hd:Nat.blt d n=true) (hx:ev ρ x=.pointer (some ⟨σ.d,0,none⟩)) (hy:ev ρ y=.int .u32 (k:Nat))
    (h:∀ w',St w0 S (l.set j (decR σ (R.drop k))) w'→VH Tryd.prog n lo.toArray Q (Frm S w0) fuel (listed.setIfInBounds i true) (upd ρ d (.tuple #[.int .u32 (val (R.take k):Nat),.nilIface])) w') :
    VH Tryd.prog n lo.toArray Q (Frm S w0) (fuel+1) listed ρ w :=
  VH.call i hio hr hd ent_37 (read_ok σ R k hk hR w (H.get hi) (ro.frm H hS)) (by simp [hx,hy]) fun e w' ⟨he,hr,hf⟩ => ⟨_,he,(H.dec j hi hf hr).frm,h _ (H.dec j hi hf hr)⟩
theorem VH.readNo {lo:List Oper} {fuel:Nat} {listed:Array Bool} (i:Nat) (hio:lo[i]?=some ⟨some d,.call ⟨.value (.func 37),#[x,y],ts⟩,ty,pos,after,none⟩) (hr:Region.ready .any lo.toArray listed=[i])
    (H:St w0 S l w) (j:Nat) (hi:l[j]?=some (decR σ R)) (ro:RO σ w0) (hS:OkS σ S) (hk:k≤18) (hR:R.length<k) (hd:Nat.blt d n=true) (hx:ev ρ x=.pointer (some ⟨σ.d,0,none⟩)) (hy:ev ρ y=.int .u32 (k:Nat))
    (h:∀ w' a,St w0 S (l.eraseIdx j) w'→VH Tryd.prog n lo.toArray Q (Frm S w0) fuel (listed.setIfInBounds i true) (upd ρ d (.tuple #[.int .u32 0,.iface 132 (.pointer (some a))])) w') :
    VH Tryd.prog n lo.toArray Q (Frm S w0) (fuel+1) listed ρ w :=
  VH.call i hio hr hd ent_37 (read_fail σ R k hk hR w (H.get hi) (ro.frm H hS)) (by simp [hx,hy]) fun e w' ⟨⟨a,he⟩,hf⟩ => ⟨_,he,(H.lost hi hf).frm,h _ a (H.lost hi hf)⟩
end
end Go.Proofs.YtinkhckpckfajaaDoor
set_option maxHeartbeats 1000000
namespace Go.Proofs.YtinkhckpckfajaaDoor
open Go Go.ChangeShapes Go.WideShapes Go.ChangeAt Go.RowKit
theorem laidVars_mem {P:Program} {w:World}:∀ (l:List (String × DataW Unit)) (ps:List MemPlace),DataW.LaidVars P w l ps→∀ n d,(n,d) ∈ l →
  ∃ g t cs fuel p,P.globalNamed n=some g∧(P.globals[g]?).map (·.type)=some t∧w.var? P n=some cs∧DataW.trod (fun _ => ()) P w 0 (fun _ => true) false fuel t cs.toList=some (d,p)∧∀ x ∈ MemPlace.row ⟨g,0,none⟩ cs.size++p,x ∈ ps
 | [],ps,h,n,d,hm => by cases hm
 | (n1,d1) :: r,ps,h,n,d,hm => by
  obtain ⟨g,t,cs,fuel,p,q,h1,h2,h3,h4,h5,rfl⟩:=h
  rcases List.mem_cons.1 hm with e | hm
  ·cases e
   exact ⟨g,t,cs,fuel,p,h1,h2,h3,h4,fun x hx => by rw [List.mem_append];exact .inl hx⟩
  ·obtain ⟨g',t',cs',fuel',p',k1,k2,k3,k4,k5⟩:=laidVars_mem r q h5 n d hm
   exact ⟨g',t',cs',fuel',p',k1,k2,k3,k4,fun x hx => by rw [List.mem_append];exact .inr (k5 x hx)⟩
theorem int_cell {H:Type} {enc:TypeId × Value→H} {P:Program} {w:World} {base:Nat} {sp:Nat→Bool} {held:Bool} {fuel:Nat} {t:TypeId} {k:IntKind} {c:Value} {y:DataW H × List MemPlace}
  (ht:P.underlying t=some (.int k)) (h:DataW.trod enc P w base sp held fuel t [c]=some y):∃ n,c=.int k n∧y=(.lit (.int k n),[]):=by
 cases fuel with
 | zero => simp [DataW.trod] at h
 | succ fuel =>
  cases c <;> simp [DataW.trod,ht] at h
  rename_i k' n
  obtain ⟨⟨rfl,_⟩,rfl⟩:=h
  exact ⟨n,rfl,rfl⟩
theorem tab_of_trod {H:Type} {enc:TypeId × Value→H} {P:Program} {w:World} {name:String} {g:Nat} {base:Nat} {sp:Nat→Bool} {held:Bool} {fuel:Nat} {t e n:Nat} {k:IntKind} {cs:Array Value} {p:List MemPlace} (ls:List Nat)
  (ht:P.underlying t=some (.array n e)) (he:P.underlying e=some (.int k)) (hc:P.cellsOf e=1) (hct:P.cellsOf t=n) (hl:ls.length=n) (hg:P.globalNamed name=some g) (hv:w.var? P name=some cs)
  (h:DataW.trod enc P w base sp held fuel t cs.toList=some (.agg (ls.map fun v => .lit (.int k ((v:Nat):Int))),p)):TabAt w g k ls:=by
 obtain ⟨xs,m,rfl,hx,hlen,hxl,hel⟩:=DataW.trod_array ht h
 simp only [Prod.mk.injEq,DataW.agg.injEq] at hx
 intro j hj
 rw [Nat.zero_add,World.var?_cell hg hv j]
 have hj2:j<n:=by omega
 have h1:=hel j hj2
 rw [hc,Nat.mul_one] at h1
 have hjc:j<cs.toList.length:=by omega
 have e1:(cs.toList.drop j).take 1=[cs.toList[j]]:=by rw [List.drop_eq_getElem_cons hjc];rfl
 have e2:xs[j]?=some xs[j]:=List.getElem?_eq_getElem (by omega)
 rw [e1,e2] at h1
 obtain ⟨v,hv1,hv2⟩:=int_cell he h1
 have e3:=congrArg (fun l => l[j]?) hx.1
 simp only [List.getElem?_map,e2,Option.map_some,hv2] at e3
 rw [List.getElem?_eq_getElem hj] at e3
 simp at e3
 have e4:ls.getD j 0=ls[j]:=by simp [hj]
 rw [e4]
 have:cs[j]?=some (cs.toList[j]):=by rw [← Array.getElem?_toList];exact List.getElem?_eq_getElem hjc
 rw [this,hv1]
 rw [e3]
abbrev laidS:List (String × DataW Unit):=Rows.fnBackRow.laid
theorem star_err : "*" ++ "errors.errorString" = "*errors.errorString" := by decide
theorem row_err (u : TypeId) (h : Tryd.prog.typeName? 3 u = some "*errors.errorString") : u = 132 :=
 typeName_ptr_named (nm := "errors.errorString") (by rw [star_err]; kernel_rfl) (by kernel_rfl) (by decide) u (by rw [star_err]; exact h)
theorem err_of_trod {w:World} {name:String} {g:Nat} {t fuel:Nat} {cs:Array Value} {p:List MemPlace} {text:List UInt8} (ht:t=47) (hg:Tryd.prog.globalNamed name=some g) (hv:w.var? Tryd.prog name=some cs)
  (h : DataW.trod (fun _ => ()) Tryd.prog w 0 (fun _ => true) false fuel t cs.toList = some (.iface "*errors.errorString" (.ptr (.agg [.lit (.string text)])), p))
  (hok:∀ u v,cs.toList=[.iface u v]→Value.okWide Tryd.prog w .any 0 u v):ErrAt w g:=by
 subst ht
 obtain ⟨a,s,hcs,_⟩:=errorString_of_trod Tryd.underlying47 row_err Tryd.underlying132 Tryd.underlying134 rfl rfl Tryd.underlying9 (by kernel_rfl) (by kernel_rfl) h hok
 refine ⟨a,?_⟩
 rw [World.var?_cell hg hv 0,← Array.getElem?_toList,hcs]
 rfl
theorem g_inv : Tryd.prog.globalNamed "tintslate/pub/image/vp8l.inverseTransforms" = some 0 := by kernel_rfl
theorem laid_plain {W:World} (h:laidMetH Tryd.prog laidS W):laidMet Tryd.prog (laidS.filter fun x => x.2.handleName?.isNone) W:=by
 have h':laidMet Tryd.prog (laidS.filter fun x => x.2.handleName?.isNone) W∧handlesMet Tryd.prog (laidS.filter fun x => x.2.handleName?.isSome) W:=h
 exact h'.1
theorem gl_of_laid {W:World} (h:laidMetH Tryd.prog laidS W):Gl W:=by
 obtain ⟨ps,hps,_,hrows⟩:=laid_plain h
 have mem:=laidVars_mem _ ps hps
 have err : ∀ (n : String) (g : Nat) (text : List UInt8), Tryd.prog.globalNamed n = some g → (Tryd.prog.globals[g]?).map (·.type) = some 47 → (n, DataW.iface "*errors.errorString" (.ptr (.agg [.lit (.string text)]))) ∈ (laidS.filter fun x => x.2.handleName?.isNone) → ErrAt W g := by
  intro n g text hg ht hm
  obtain ⟨g',t,cs,fuel,p,k1,k2,k3,k4,k5⟩:=mem n _ hm
  obtain rfl:=Option.some.inj (hg.symm.trans k1)
  obtain rfl:=Option.some.inj (ht.symm.trans k2)
  refine err_of_trod O hg k3 k4 fun u v e => ?_
  have hcs:0<cs.size:=by rw [← Array.length_toList,e];simp
  refine (hrows g 0 (k5 _ (List.mem_append_left _ ?_))).2 u v ?_
  ·simp only [MemPlace.row,List.mem_map,List.mem_range]
   exact ⟨0,hcs,rfl⟩
  ·rw [World.var?_cell hg k3 0,← Array.getElem?_toList,e]
   rfl
 have tab:∀ (n:String) (g t e m:Nat) (k:IntKind) (ls:List Nat),Tryd.prog.globalNamed n=some g→(Tryd.prog.globals[g]?).map (·.type)=some t→Tryd.prog.underlying t=some (.array m e)→Tryd.prog.underlying e=some (.int k)→Tryd.prog.cellsOf e=1→Tryd.prog.cellsOf t=m→ls.length=m →
   (n,DataW.agg (ls.map fun v => .lit (.int k ((v:Nat):Int)))) ∈ (laidS.filter fun x => x.2.handleName?.isNone)→TabAt W g k ls:=by
  intro n g t e m k ls hg ht hu he hc hct hl hm
  obtain ⟨g',t',cs,fuel,p,k1,k2,k3,k4,_⟩:=mem n _ hm
  obtain rfl:=Option.some.inj (hg.symm.trans k1)
  obtain rfl:=Option.some.inj (ht.symm.trans k2)
  exact tab_of_trod ls hu he hc hct hl hg k3 k4
 have trev : TabAt W 10 .u8 tab_reverseBits := tab "tintslate/pub/image/vp8l.reverseBits" _ 181 5 256 .u8 _ (by kernel_rfl) (by kernel_rfl) (by kernel_rfl) (by kernel_rfl) (by kernel_rfl) (by kernel_rfl) rfl (List.mem_filter.2 ⟨by unfold laidS Rows.fnBackRow; simp only [List.mem_cons]; repeat (first | exact .inl rfl | refine .inr ?_), rfl⟩)
 have hmax:∀ g c,W.cell? ⟨g,0,none⟩=some c→g<W.heap.size:=fun g c hc => World.block_lt_of_cell? W _ hc
 refine ⟨?_, err "io.EOF" _ _ (by kernel_rfl) (by kernel_rfl) (List.mem_filter.2 ⟨by unfold laidS Rows.fnBackRow; simp only [List.mem_cons]; repeat (first | exact .inl O | refine .inr ?_), rfl⟩),
  err "io.ErrUnexpectedEOF" _ _ (by kernel_rfl) (by kernel_rfl) (List.mem_filter.2 ⟨by unfold laidS Rows.fnBackRow; simp only [List.mem_cons]; repeat (first | exact .inl rfl | refine .inr ?_), rfl⟩),
  err "tintslate/pub/image/vp8l.errInvalidCodeLengths" _ _ (by kernel_rfl) (by kernel_rfl) (List.mem_filter.2 ⟨by unfold laidS Rows.fnBackRow; simp only [List.mem_cons]; repeat (first | exact .inl rfl | refine .inr ?_), rfl⟩),
  err "tintslate/pub/image/vp8l.errInvalidHuffmanTree" _ _ (by kernel_rfl) (by kernel_rfl) (List.mem_filter.2 ⟨by unfold laidS Rows.fnBackRow; simp only [List.mem_cons]; repeat (first | exact .inl rfl | refine .inr ?_), rfl⟩),
  trev,
  tab "tintslate/pub/image/vp8l.codeLengthCodeOrder" _ 171 5 19 .u8 _ (by kernel_rfl) (by kernel_rfl) (by kernel_rfl) (by kernel_rfl) (by kernel_rfl) (by kernel_rfl) rfl (List.mem_filter.2 ⟨by unfold laidS Rows.fnBackRow; simp only [List.mem_cons]; repeat (first | exact .inl rfl | refine .inr ?_), rfl⟩),
  tab "tintslate/pub/image/vp8l.repeatBits" _ 178 5 3 .u8 _ (by kernel_rfl) (by kernel_rfl) (by kernel_rfl) (by kernel_rfl) (by kernel_rfl) (by kernel_rfl) rfl (List.mem_filter.2 ⟨by unfold laidS Rows.fnBackRow; simp only [List.mem_cons]; repeat (first | exact .inl rfl | refine .inr ?_), rfl⟩),
  tab "tintslate/pub/image/vp8l.repeatOffsets" _ 178 5 3 .u8 _ (by kernel_rfl) (by kernel_rfl) (by kernel_rfl) (by kernel_rfl) (by kernel_rfl) (by kernel_rfl) rfl (List.mem_filter.2 ⟨by unfold laidS Rows.fnBackRow; simp only [List.mem_cons]; repeat (first | exact .inl rfl | refine .inr ?_), rfl⟩),
  tab "tintslate/pub/image/vp8l.alphabetSizes" _ 153 36 5 .u32 _ (by kernel_rfl) (by kernel_rfl) (by kernel_rfl) (by kernel_rfl) (by kernel_rfl) (by kernel_rfl) rfl (List.mem_filter.2 ⟨by unfold laidS Rows.fnBackRow; simp only [List.mem_cons]; repeat (first | exact .inl rfl | refine .inr ?_), rfl⟩),
  tab "tintslate/pub/image/vp8l.distanceMapTable" _ 158 5 120 .u8 _ (by kernel_rfl) (by kernel_rfl) (by kernel_rfl) (by kernel_rfl) (by kernel_rfl) (by kernel_rfl) rfl (List.mem_filter.2 ⟨by unfold laidS Rows.fnBackRow; simp only [List.mem_cons]; repeat (first | exact .inl rfl | refine .inr ?_), rfl⟩), ?_⟩
 ·have:=hmax 10 _ (trev 0 (by decide))
  show nG≤_
  unfold nG
  omega
 ·obtain ⟨g, t, cs, fuel, p, k1, k2, k3, k4⟩ := h.funcs (n := "tintslate/pub/image/vp8l.inverseTransforms") (by unfold laidS Rows.fnBackRow; simp only [List.mem_cons]; repeat (first | exact .inl rfl | refine .inr ?_))
  obtain rfl:=Option.some.inj (g_inv.symm.trans k1)
  obtain rfl:=Option.some.inj ((show (Tryd.prog.globals[(0:Nat)]?).map (·.type)=some 99 by kernel_rfl).symm.trans k2)
  obtain ⟨xs,m,rfl,hx,hlen,hxl,hel⟩:=DataW.trod_array Tryd.underlying99 k4
  simp only [Prod.mk.injEq] at hx
  have hx1:=hx.1
  have hce:Tryd.prog.cellsOf 98=1:=by kernel_rfl
  have hct:Tryd.prog.cellsOf 99=4:=by kernel_rfl
  rw [hct] at hlen
  have key:∀ (j f0:Nat) (b:UInt8) (r:List UInt8),j<4→(xs.map (·.1))[j]?=some (.held (b :: r))→((List.range Tryd.prog.funcs.size).filter fun f => (Tryd.prog.funcs[f]?).any (·.name.toUTF8.data.toList == b :: r))=[f0]→W.cell? ⟨0,j,none⟩=some (.func (.func f0) #[] #[]):=by
   intro j f0 b r hj hxj hone
   have h1:=hel j hj
   rw [hce,Nat.mul_one] at h1
   have hjc:j<cs.toList.length:=by omega
   have e1:(cs.toList.drop j).take 1=[cs.toList[j]]:=by rw [List.drop_eq_getElem_cons hjc];rfl
   have e2:xs[j]?=some xs[j]:=List.getElem?_eq_getElem (by omega)
   rw [List.getElem?_map,e2,Option.map_some] at hxj
   rw [e1,e2] at h1
   have h2:xs[j]=(.held (b :: r),xs[j].2):=Prod.ext (Option.some.inj hxj) rfl
   rw [h2] at h1
   have h3:=func_of_trod (f0:=f0) Tryd.underlying98 hone h1
   rw [World.var?_cell g_inv k3 j,← Array.getElem?_toList,List.getElem?_eq_getElem hjc,h3]
  intro j f hj
  have hj4:j<4:=(List.getElem?_eq_some_iff.1 hj).1
  have hxx:xs.map (·.1)=[.held [116,105,110,116,115,108,97,116,101,47,112,117,98,47,105,109,97,103,101,47,118,112,56,108,46,105,110,118,101,114,115,101,80,114,101,100,105,99,116,111,114],.held [116,105,110,116,115,108,97,116,101,47,112,117,98,47,105,109,97,103,101,47,118,112,56,108,46,105,110,118,101,114,115,101,67,114,111,115,115,67,111,108,111,114],.held [116,105,110,116,115,108,97,116,101,47,112,117,98,47,105,109,97,103,101,47,118,112,56,108,46,105,110,118,101,114,115,101,83,117,98,116,114,97,99,116,71,114,101,101,110],.held [116,105,110,116,115,108,97,116,101,47,112,117,98,47,105,109,97,103,101,47,118,112,56,108,46,105,110,118,101,114,115,101,67,111,108,111,114,73,110,100,101,120,105,110,103]]:=by
   have e:(DataW.agg (xs.map (·.1)):DataW (List UInt8))=_:=hx1.symm
   exact DataW.agg.inj e
  match j,hj4,hj with
  | 0,_,hj => cases hj;exact key 0 _ _ _ (by decide) (by rw [hxx];rfl) (by kernel_rfl)
  | 1,_,hj => cases hj;exact key 1 _ _ _ (by decide) (by rw [hxx];rfl) (by kernel_rfl)
  | 2,_,hj => cases hj;exact key 2 _ _ _ (by decide) (by rw [hxx];rfl) (by kernel_rfl)
  | 3,_,hj => cases hj;exact key 3 _ _ _ (by decide) (by rw [hxx];rfl) (by kernel_rfl)
end Go.Proofs.YtinkhckpckfajaaDoor
namespace Go.Proofs.YtinkhckpckfajaaDoor
open Go
def VecOk (w:World) (a:Option Addr) (c:Nat) (e:TypeId) (k n:Nat) (xs:List Value):Prop :=
 (a=none∧c=0∧n=0∧xs=[])∨∃ g cur,a=some ⟨g,0,none⟩∧Blk w g cur e∧n≤c∧c≤maxLen∧c * k≤cur.length∧cur.take (n * k)=xs
def footA:Option Addr→List Nat
 | some a => [a.block]
 | none => []
def vecR (a:Option Addr) (c:Nat) (e:TypeId) (k n:Nat) (xs:List Value):Res:=⟨footA a,fun w => VecOk w a c e k n xs⟩
theorem vecR_local (a:Option Addr) (c:Nat) (e:TypeId) (k n:Nat) (xs:List Value):(vecR a c e k n xs).Local∧(vecR a c e k n xs).In:=by
 refine ⟨fun w w' h hp => ?_,fun w hp b hb => ?_⟩
 ·rcases hp with hp | ⟨g,cur,rfl,h1,h2⟩
  ·exact .inl hp
  ·exact .inr ⟨g,cur,rfl,(h g (by simp [vecR,footA])).trans h1,h2⟩
 ·rcases hp with ⟨rfl,_⟩ | ⟨g,cur,rfl,h1,h2⟩
  ·simp [vecR,footA] at hb
  ·simp only [vecR,footA,List.mem_singleton] at hb
   subst hb
   exact h1.lt
theorem VecOk.len {w:World} {a:Option Addr} {c:Nat} {e:TypeId} {k n:Nat} {xs:List Value} (h:VecOk w a c e k n xs):xs.length=n * k:=by
 rcases h with ⟨_,_,rfl,rfl⟩ | ⟨g,cur,_,_,h1,_,h2,rfl⟩
 ·simp
 ·rw [List.length_take]
  have:=Nat.mul_le_mul_right k h1
  omega
theorem VecOk.cell {w:World} {a:Option Addr} {c:Nat} {e:TypeId} {k n:Nat} {xs:List Value} (h:VecOk w a c e k n xs) (hn:0<n):∃ g,a=some ⟨g,0,none⟩∧∀ j v,xs[j]?=some v→w.cell? ⟨g,j,none⟩=some v:=by
 rcases h with ⟨_,_,rfl,_⟩ | ⟨g,cur,rfl,h1,_,_,h2,rfl⟩
 ·omega
 ·refine ⟨g,rfl,fun j v hv => h1.cellv ?_⟩
  rw [List.getElem?_take] at hv
  split at hv
  ·exact hv
  ·cases hv
section
variable {P:Program} {w:World} {t ty el by_:Nat} {zs:List Value} {a:Option Addr} {c n m c2 b off:Nat} {xs news:List Value}
theorem setRow_blk (w:World) (g:Nat) (cur cur':List Value) (e:TypeId) (h:Blk w g cur e):Blk (w.setRow g cur'.toArray) g cur' e:=setRow_heap w g cur.toArray cur'.toArray e _ h
theorem append_vec (F:MK P t el by_ zs) (hz:0<zs.length) (hV:VecOk w a c el zs.length n xs) (hl:news.length=m * zs.length) (hc:∀ j u,news[j]?=some u→w.cell? ⟨b,off+j,none⟩=some u) (h1:∀ u ∈ news,u.oneCell'=true)
  (h63:n+m≤maxLen) (hby:(n+m) * by_≤140737488355328) :
  ∃ a' c' w',(Builtin.append_ #[t,t] ty #[.slice a n c,.slice (some ⟨b,off,none⟩) m c2]).run P w=.ok (.slice a' (n+m) c') w'∧VecOk w' a' c' el zs.length (n+m) (xs++news)∧Frm (footA a) w w'∧(∀ x ∈ footA a',x ∈ footA a∨w.heap.size≤x):=by
 obtain ⟨hu,i,z,hi,hz1,hz2,hz3,hz4⟩:=F
 have hzs:z.cells.size=zs.length:=by rw [← hz2];simp
 have hc':∀ j u,news[j]?=some u→w.cell? ((⟨b,off,none⟩:Addr).add j)=some u:=fun j u hj => by rw [add_lit0];exact hc j u hj
 have hsmall:n+m≤9223372036854775807:=by simp only [maxLen] at h63;omega
 have hzero:∀ q,(Builtin.zeroCells z.cells q).toList.length=q * zs.length:=fun q => by
  have:=size_zeroCells z.cells q
  rw [hzs] at this
  simpa using this
 rcases hV with ⟨rfl,rfl,rfl,rfl⟩ | ⟨g,cur,rfl,hg,hnc,hcm,hcl,htk⟩
 ·by_cases hm:m=0
  ·subst hm
   have hn:news=[]:=List.eq_nil_of_length_eq_zero (by simpa using hl)
   subst hn
   refine ⟨none,0,w,?_,.inl ⟨rfl,rfl,rfl,rfl⟩,Frm.refl _ _,by simp [footA]⟩
   simp [Builtin.append_,run_underlying hu,sizeOf,typeInfo,hi,Builtin.lenOf,Builtin.firstCells,loadCells,loadCellsFrom]
  ·have hr:=run_append_nil (P:=P) w t ty el i z hu hi hz1 ⟨b,off,none⟩ m c2 news (by rw [hz3];exact hl) hc' (by omega) (by omega) (by subst hz4;rw [Nat.zero_add] at hby;omega)
   have hge:=grownCap_ge w m 0 el
   have hle:=grownCap_le_maxLen w m 0 el (by omega)
   rw [Nat.zero_add]
   refine ⟨some ⟨w.heap.size,0,none⟩,grownCap w m 0 el,_,hr,.inr ⟨w.heap.size,news++(Builtin.zeroCells z.cells (grownCap w m 0 el - m)).toList,rfl,?_,hge,hle,?_,?_⟩,?_,by simp [footA]⟩
   ·have:=Blk.new w.drew (news++(Builtin.zeroCells z.cells (grownCap w m 0 el - m)).toList) el
    have e:(news++(Builtin.zeroCells z.cells (grownCap w m 0 el - m)).toList).toArray=news.toArray++Builtin.zeroCells z.cells (grownCap w m 0 el - m):=by apply Array.ext';simp
    rw [e] at this
    exact this
   ·rw [List.length_append,hzero,hl,← Nat.add_mul];exact Nat.mul_le_mul_right _ (by omega)
   ·rw [List.nil_append,List.take_left' hl]
   ·exact (Frm.drew _ w).trans (Frm.new _ _ _)
 ·by_cases hroom:n+m≤c
  ·have hle1:=Nat.mul_le_mul_right zs.length hroom
   have hnl:(cur.take (n * zs.length)).length=n * zs.length:=by rw [List.length_take];have:=Nat.mul_le_mul_right zs.length hnc;omega
   rw [Nat.add_mul] at hle1
   have hr:=run_append_room (P:=P) w t ty el i hu hi g n c cur.toArray hg ⟨b,off,none⟩ m c2 news (by rw [hz3];exact hl) hc' h1 hroom (by rw [hz3];simp only [List.size_toArray];omega)
   rw [hz3] at hr
   refine ⟨some ⟨g,0,none⟩,c,_,hr,.inr ⟨g,_,rfl,setRow_blk w g cur _ el hg,hroom,hcm,?_,?_⟩,?_,by simp [footA]⟩
   ·simp only [List.length_append,List.length_drop,hnl];omega
   ·rw [List.append_assoc,Nat.add_mul,← hl,List.take_append,hnl,List.take_of_length_le (by rw [hnl];omega),show n * zs.length+news.length - n * zs.length=news.length by omega,List.take_left,← htk]
   ·exact ⟨rfl,rfl,rfl,by simp,fun x _ hx => setRow_other w g x _ (fun e => hx (by simp [footA,e]))⟩
  ·have hxl:xs.length=n * zs.length:=by rw [← htk,List.length_take];have:=Nat.mul_le_mul_right zs.length hnc;omega
   have holds:∀ j u,xs[j]?=some u→w.cell? ((⟨g,0,none⟩:Addr).add j)=some u:=fun j u hj => by
    rw [add_lit0,Nat.zero_add]
    refine hg.cellv ?_
    rw [← htk,List.getElem?_take] at hj
    split at hj
    ·exact hj
    ·cases hj
   have hr:=run_append_grow (P:=P) w t ty el i z hu hi hz1 ⟨g,0,none⟩ n c xs (by rw [hz3];exact hxl) holds ⟨b,off,none⟩ m c2 news (by rw [hz3];exact hl) hc' (by omega) (by omega) (by subst hz4;exact growslice_fits (by omega) hby)
   have hge:=grownCap_ge w (n+m) c el
   have hle:=grownCap_le_maxLen w (n+m) c el h63
   refine ⟨some ⟨w.heap.size,0,none⟩,grownCap w (n+m) c el,_,hr,.inr ⟨w.heap.size,xs++news++(Builtin.zeroCells z.cells (grownCap w (n+m) c el - (n+m))).toList,rfl,?_,hge,hle,?_,?_⟩,?_,by simp [footA]⟩
   ·have:=Blk.new w.drew (xs++news++(Builtin.zeroCells z.cells (grownCap w (n+m) c el - (n+m))).toList) el
    have e:(xs++news++(Builtin.zeroCells z.cells (grownCap w (n+m) c el - (n+m))).toList).toArray=xs.toArray++news.toArray++Builtin.zeroCells z.cells (grownCap w (n+m) c el - (n+m)):=by apply Array.ext';simp
    rw [e] at this
    exact this
   ·rw [List.length_append,List.length_append,hzero,hl,hxl,← Nat.add_mul,← Nat.add_mul];exact Nat.mul_le_mul_right _ (by omega)
   ·exact List.take_left' (by rw [List.length_append,hl,hxl,Nat.add_mul])
   ·exact (Frm.drew _ w).trans (Frm.new _ _ _)
variable {w0:World} {S:List Nat} {l:List Res} {nn d:Nat} {ops:Array Oper} {Q:Post} {rest:List Oper} {ρ:Env} {pos:String} {after:Array Edge} {s x:Operand}
theorem VL.append (H:St w0 S l w) (i:Nat) (F:MK P t el by_ zs) (hz:0<zs.length) (hd:Nat.blt d nn=true) (hs:ev ρ s=.slice a n c) (hi:l[i]?=some (vecR a c el zs.length n xs)) (hx:ev ρ x=.slice (some ⟨b,off,none⟩) m c2)
  (hl:news.length=m * zs.length) (hc:∀ j u,news[j]?=some u→w.cell? ⟨b,off+j,none⟩=some u) (h1:∀ u ∈ news,u.oneCell'=true) (h63:n+m≤maxLen) (hby:(n+m) * by_≤140737488355328)
  (h:∀ a' c' w',Frm (footA a) w w'→St w0 S (l.set i (vecR a' c' el zs.length (n+m) (xs++news))) w'→VL P nn ops Q rest (upd ρ d (.slice a' (n+m) c')) w') :
  VL P nn ops Q (⟨some d,.call ⟨.builtin .append,#[s,x],#[t,t]⟩,ty,pos,after,none⟩ :: rest) ρ w:=by
 obtain ⟨a',c',w',hr,hV,hf,hfoot⟩:=append_vec (ty:=ty) (c2:=c2) F hz (H.get hi) hl hc h1 h63 hby
 refine Lo hd (v:=.slice a' (n+m) c') (w':=w') ?_ (h a' c' w' hf (H.turn hi hf hV (vecR_local _ _ _ _ _ _) hfoot))
 unfold Yld
 simp only [execOp,resolve,Sem.run_bind,Sem.run_pure,Result.andThen_ok,Go.invoke,builtin,List.map_toArray,List.map_cons,List.map_nil,hs,hx,hr]
end
section
variable {P:Program} {e:Operand→Value} {d:Option Tmp} {ty:TypeId} {pos:String} {after:Array Edge} {g:Option (Nat × Bool)} {w:World}
variable {t:TypeId} {x y:Operand} {k k':IntKind} {m m':Int}
theorem Y.sliceLH {el size:Nat} {lo hi:Operand} {b off l c:Nat} (p q:Nat) (F:SL P t el size) (hx:e x=.slice (some ⟨b,off,none⟩) l c) (h1:e lo=.int k m) (h2:e hi=.int k' m') (hp:m=(p:Int)) (hq:m'=(q:Int)) (hpq:p≤q) (hqc:q≤c) (hpc:p<c) :
  Yld P e ⟨d,.slice t x (some lo) (some hi) none,ty,pos,after,g⟩ w (.slice (some ⟨b,off+p * size,none⟩) (q - p) (c - p)) w:=by
 subst hp hq
 unfold Yld
 simp only [execOp,hx,Option.map_none,Option.map_some,h1,h2,Sem.run_bind,Instr.sliceAt,Instr.slice,run_underlying F.1,Result.andThen_ok,Instr.sliceBounds,Instr.sliceBound,asIntOf,Sem.run_pure,if_pos (show 0≤(q:Int)∧(q:Int)≤(c:Int) by omega),if_pos (show 0≤(p:Int)∧(p:Int)≤(q:Int) by omega),Int.toNat_natCast,siz F.2 w]
 rw [if_neg (by omega)]
 simp [Addr.add]
end
section
variable {P:Program} {w w0:World} {t ty el by_:Nat} {zs:List Value} {a:Option Addr} {c n m c2 b off:Nat} {xs news:List Value} {S:List Nat} {l:List Res} {nn d:Nat} {Q:Post} {lo:List Oper} {ρ:Env} {pos:String} {after:Array Edge} {s x:Operand} {fuel:Nat} {listed:Array Bool}
theorem VH.append (i:Nat) (hio:lo[i]?=some ⟨some d,.call ⟨.builtin .append,#[s,x],#[t,t]⟩,ty,pos,after,none⟩) (hrd:Region.ready .any lo.toArray listed=[i]) (H:St w0 S l w) (j:Nat) (F:MK P t el by_ zs) (hz:0<zs.length) (hd:Nat.blt d nn=true) (hs:ev ρ s=.slice a n c) (hi:l[j]?=some (vecR a c el zs.length n xs)) (hx:ev ρ x=.slice (some ⟨b,off,none⟩) m c2)
  (hl:news.length=m * zs.length) (hc:∀ j u,news[j]?=some u→w.cell? ⟨b,off+j,none⟩=some u) (h1:∀ u ∈ news,u.oneCell'=true) (h63:n+m≤maxLen) (hby:(n+m) * by_≤140737488355328)
  (h:∀ a' c' w',Frm (footA a) w w'→St w0 S (l.set j (vecR a' c' el zs.length (n+m) (xs++news))) w'→VH P nn lo.toArray Q (Frm S w0) fuel (listed.setIfInBounds i true) (upd ρ d (.slice a' (n+m) c')) w') :
  VH P nn lo.toArray Q (Frm S w0) (fuel+1) listed ρ w:=by
 obtain ⟨a',c',w',hr,hV,hf,hfoot⟩:=append_vec (ty:=ty) (c2:=c2) F hz (H.get hi) hl hc h1 h63 hby
 have H':=H.turn hi hf hV (vecR_local _ _ _ _ _ _) hfoot
 refine VH.op i hio hrd hd (v:=.slice a' (n+m) c') (w':=w') ?_ H'.frm (h a' c' w' hf H')
 unfold Yld
 simp only [execOp,resolve,Sem.run_bind,Sem.run_pure,Result.andThen_ok,Go.invoke,builtin,List.map_toArray,List.map_cons,List.map_nil,hs,hx,hr]
variable {parts:Array (Nat × Operand)} {len:Nat} {ops:Array Oper} {rest:List Oper}
theorem VL.bslice (H:St w0 S l w) (F:MK P t el by_ zs) (cs:List Value) (hd:Nat.blt d nn=true) {ps:List (Nat × Value)} (hp:(parts.toList.map fun q => (q.1,ev ρ q.2))=ps) (h24:len * zs.length≤2 ^ 24) (h0:len * zs.length≠0)
  (hf:Instr.fill (fun i => some (i * zs.length,zs.length)) (mkCells len zs).toArray ps=some cs.toArray)
  (h:∀ w' b,w.heap.size≤b→w0.heap.size≤b→St w0 S (blkR b cs el :: l) w'→VL P nn ops Q rest (upd ρ d (.slice (some ⟨b,0,none⟩) len len)) w') :
  VL P nn ops Q (⟨some d,.buildSlice t len parts,ty,pos,after,none⟩ :: rest) ρ w:=by
 obtain ⟨hu,i,z,h1,h2,h3,h4,h5⟩:=F
 have hz:z.cells=zs.toArray:=by rw [← h3]
 have hzs:z.cells.size=zs.length:=by rw [hz];simp
 have hr:=run_buildSlice (P:=P) w t el len (parts.map fun q => (q.1,ev ρ q.2)) cs.toArray i z hu h1 h2 (by rw [h4];omega) (by rw [h4];exact h0) (by
  have e:madeCells zs.toArray (len * zs.length)=(mkCells len zs).toArray:=by rw [← madeCells_list]
  rw [h4,hz,Array.toList_map,hp,← hf,← e]
  rfl)
 refine Lo hd (v:=.slice (some ⟨w.heap.size,0,none⟩) len len) (w':=w.alloc (.cells cs.toArray el)) ?_ (h _ _ (Nat.le_refl _) H.high (H.new _ el))
 unfold Yld
 simp only [execOp,Sem.run_bind,hr,Result.andThen_ok]
 rfl
end
def hits (k:IntKind) (x:Int):Value→Bool
 | .int j y => decide (j=k) && decide (y=x)
 | _ => false
theorem hits_int (k:IntKind) (x y:Int):hits k x (.int k y)=decide (y=x):=by simp [hits]
def seek (k:IntKind) (x:Int):List MapEntry→Option Value
 | [] => none
 | e :: r => bif hits k x e.key then some e.val else seek k x r
def keysOf (k:IntKind) (es:List MapEntry):Prop:=∀ e ∈ es,∃ y,e.key=.int k y
theorem findNow_none {k:IntKind} {x:Int}:∀ (es:List MapEntry) (i:Nat),keysOf k es→seek k x es=none→Instr.findNow (.int k) (.int k x) es i=some none
 | [],_,_,_ => rfl
 | e :: r,i,h,hs => by
  obtain ⟨y,hy⟩:=h e (by simp)
  have hr:keysOf k r:=fun e he => h e (List.mem_cons_of_mem _ he)
  simp only [seek,hy,hits_int] at hs
  by_cases hxy:y=x
  ·subst hxy;simp at hs
  ·simp only [hxy,decide_false,cond_false] at hs
   simp only [Instr.findNow,Instr.sameNow,hy,if_true]
   rw [show (x == y)=false by simpa using (Ne.symm hxy)]
   exact findNow_none r (i+1) hr hs
theorem findNow_some {k:IntKind} {x:Int} {v:Value}:∀ (es:List MapEntry) (i:Nat),keysOf k es→seek k x es=some v →
  ∃ j e,es[j]?=some e∧e.key=.int k x∧e.val=v∧Instr.findNow (.int k) (.int k x) es i=some (some (i+j,v)) ∧
   ∀ (u:Value) y,seek k y (es.modify j fun e => { e with key:=.int k x,val:=u })=if y=x then some u else seek k y es
 | [],_,_,hs => by cases hs
 | e :: r,i,h,hs => by
  obtain ⟨y,hy⟩:=h e (by simp)
  have hr:keysOf k r:=fun e he => h e (List.mem_cons_of_mem _ he)
  simp only [seek,hy,hits_int] at hs
  by_cases hxy:y=x
  ·subst hxy
   simp only [decide_true,cond_true,Option.some.injEq] at hs
   refine ⟨0,e,rfl,hy,hs,by simp [Instr.findNow,Instr.sameNow,hy,hs],fun u z => ?_⟩
   simp only [List.modify_zero_cons,seek,hy,hits_int]
   by_cases hz:z=y
   ·subst hz;simp
   ·simp [hz,Ne.symm hz]
  ·simp only [hxy,decide_false,cond_false] at hs
   obtain ⟨j,e',h1,h2,h3,h4,h5⟩:=findNow_some r (i+1) hr hs
   refine ⟨j+1,e',by simpa using h1,h2,h3,?_,fun u z => ?_⟩
   ·simp only [Instr.findNow,Instr.sameNow,hy,if_true]
    rw [show (x == y)=false by simpa using (Ne.symm hxy)]
    simp only [h4]
    rw [show i+1+j=i+(j+1) by omega]
   ·simp only [List.modify_succ_cons,seek,h5 u z,hy,hits_int]
    by_cases hz:z=x
    ·subst hz
     simp [hxy]
    ·simp [hz]
theorem seek_push {k:IntKind} {x y:Int} {u:Value} {c:Nat}:∀ (es:List MapEntry),seek k x es=none→seek k y (es++[⟨.int k x,u,c⟩])=if y=x then some u else seek k y es
 | [],_ => by
  simp only [List.nil_append,seek,hits_int]
  by_cases h:y=x
  ·simp [h]
  ·simp [h,Ne.symm h]
 | e :: r,hs => by
  simp only [seek] at hs
  cases he:hits k x e.key with
  | true => rw [he] at hs;cases hs
  | false =>
   rw [he] at hs
   simp only [List.cons_append,seek,seek_push r hs]
   by_cases h:y=x
   ·subst h;simp [he]
   ·simp [h]
def Mp (k:IntKind) (w:World) (b:Nat) (m:Int→Option Value):Prop:=∃ es clock,w.heap[b]?=some (.map es clock)∧keysOf k es.toList∧∀ x,seek k x es.toList=m x
def mapR (k:IntKind) (b:Nat) (m:Int→Option Value):Res:=⟨[b],fun w => Mp k w b m⟩
theorem mapR_local (k:IntKind) (b:Nat) (m:Int→Option Value):(mapR k b m).Local:=fun w w' h hb => by
 obtain ⟨es,c,h1,h2⟩:=hb
 exact ⟨es,c,by rw [h b (by simp [mapR])];exact h1,h2⟩
theorem mapR_in (k:IntKind) (b:Nat) (m:Int→Option Value):(mapR k b m).In:=fun w h x hx => by
 simp only [mapR,List.mem_singleton] at hx
 subst hx
 obtain ⟨es,c,h1,h2⟩:=h
 exact (Array.getElem?_eq_some_iff.1 h1).1
section
variable {P:Program} {k:IntKind}
def MPT (P:Program) (t:TypeId) (k:IntKind) (z:Value):Prop:=∃ kt et i,P.underlying t=some (.map kt et)∧P.underlying kt=some (.int k)∧P.info? et=some i∧i.zero=some z
theorem checkKey_int {kt:TypeId} (h:P.underlying kt=some (.int k)) (bo:Bool) (v:Value) (w:World):(Instr.checkKey bo 10000 kt v).run P w=.ok () w:=by
 unfold Instr.checkKey
 rw [Sem.run_bind,run_underlying h]
 rfl
theorem run_lookup_int {t:TypeId} {z:Value} (F:MPT P t k z) {w:World} {b:Nat} {m:Int→Option Value} (h:Mp k w b m) (x:Int):(Instr.lookup t (.map (some b)) (.int k x) false).run P w=.ok ((m x).getD z) w:=by
 obtain ⟨kt,et,i,h1,h2,h3,h4⟩:=F
 obtain ⟨es,c,h5,h6,h7⟩:=h
 have hz:(zeroValue et).run P w=.ok z w:=by simp [zeroValue,typeInfo,h3,h4]
 have hg:(getObj b).run P w=.ok (.map es c) w:=by simp [getObj,Sem.run,h5]
 simp only [Instr.lookup,Sem.run_bind,run_underlying h1,Result.andThen_ok,hg,Sem.run_pure,checkKey_int h2,Instr.findKey,run_underlying h2]
 cases hm:m x with
 | none =>
  rw [findNow_none es.toList 0 h6 ((h7 x).trans hm)]
  simp [Sem.run_bind,hz]
 | some v =>
  obtain ⟨j,e,_,_,_,h8,_⟩:=findNow_some es.toList 0 h6 ((h7 x).trans hm)
  rw [h8]
  simp [Sem.run_bind]
theorem run_mapUpdate_int {t:TypeId} {z:Value} (F:MPT P t k z) {w:World} {b:Nat} {m:Int→Option Value} (h:Mp k w b m) (x:Int) (v:Value) :
  ∃ w',(Instr.mapUpdate t (.map (some b)) (.int k x) v).run P w=.ok () w'∧Mp k w' b (fun y => if y=x then some v else m y)∧Frm [b] w w':=by
 obtain ⟨kt,et,i,h1,h2,h3,h4⟩:=F
 obtain ⟨es,c,h5,h6,h7⟩:=h
 have hg:(getObj b).run P w=.ok (.map es c) w:=by simp [getObj,Sem.run,h5]
 have hset:∀ o,(setObj b o).run P w=.ok () (ChangeMaps.setBlock w b o):=fun o => by
  simp [setObj,Sem.run,ChangeMaps.setBlock,h5]
 have hfrm:∀ o,Frm [b] w (ChangeMaps.setBlock w b o):=fun o =>
  ⟨rfl,rfl,rfl,by simp [ChangeMaps.setBlock],fun i _ hi => ChangeMaps.heap_setBlock_other h5 o (by simpa using hi)⟩
 simp only [Instr.mapUpdate,Sem.run_bind,run_underlying h1,Result.andThen_ok,hg,checkKey_int h2,Instr.findKey,run_underlying h2]
 cases hm:m x with
 | none =>
  have hs:=(h7 x).trans hm
  rw [findNow_none es.toList 0 h6 hs]
  refine ⟨_,hset _,⟨_,_,ChangeMaps.heap_setBlock_same h5 _,?_,fun y => ?_⟩,hfrm _⟩
  ·intro e he
   simp only [Array.toList_push,List.mem_append,List.mem_singleton] at he
   rcases he with he | rfl
   ·exact h6 e he
   ·exact ⟨x,rfl⟩
  ·rw [Array.toList_push,seek_push es.toList hs,h7 y]
 | some u =>
  obtain ⟨j,e,h8,h9,h10,h11,h12⟩:=findNow_some es.toList 0 h6 ((h7 x).trans hm)
  rw [h11]
  have hk:(Instr.keyThatStays ((es[j]?.map (·.key)).getD (.int k x)) (.int k x)).run P w=.ok (.int k x) w:=by
   have:es[j]?=some e:=by rw [← h8];simp
   rw [this]
   simp [Instr.keyThatStays,h9,Instr.sameBits]
  simp only [Nat.zero_add,Sem.run_bind,Sem.run_pure,Result.andThen_ok,hk]
  refine ⟨_,hset _,⟨_,_,ChangeMaps.heap_setBlock_same h5 _,?_,fun y => ?_⟩,hfrm _⟩
  ·intro e' he
   obtain ⟨q,hq⟩:=List.mem_iff_getElem?.1 he
   simp only [Array.toList_modify,List.getElem?_modify] at hq
   by_cases hjq:j=q
   ·subst hjq
    rw [h8] at hq
    simp at hq
    exact ⟨x,by rw [← hq]⟩
   ·simp [hjq] at hq
    exact h6 e' (by rw [← Array.getElem?_toList] at hq;exact List.mem_of_getElem? hq)
  ·rw [Array.toList_modify,h12 v y,h7 y]
variable {w0 w:World} {S:List Nat} {l:List Res}
variable {n:Nat} {ops:Array Oper} {Q:Post} {rest:List Oper} {ρ:Env} {ty:TypeId} {pos:String} {after:Array Edge} {t:TypeId} {x y u:Operand} {b d:Nat} {v z:Value} {m:Int→Option Value} {q:Int}
theorem VL.makeMap (k:IntKind) (H:St w0 S l w) (hd:Nat.blt d n=true)
  (h:∀ w' b,w.heap.size≤b→w0.heap.size≤b→St w0 S (mapR k b (fun _ => none) :: l) w'→VL P n ops Q rest (upd ρ d (.map (some b))) w') :
  VL P n ops Q (⟨some d,.makeMap t none,ty,pos,after,none⟩ :: rest) ρ w:=by
 refine Lo hd (v:=.map (some w.heap.size)) (w':=w.alloc (.map #[] 0)) ?_ (h _ _ (Nat.le_refl _) H.high
  (H.add (Frm.new [] w _) ⟨#[],0,by show (w.heap.push _)[w.heap.size]?=_;rw [Array.getElem?_push,if_pos rfl],by intro e he;simp at he,fun x => rfl⟩ ⟨mapR_local _ _ _,mapR_in _ _ _⟩ (by simp [mapR])))
 unfold Yld
 simp only [execOp,Sem.run_bind]
 rfl
theorem Y.look {e:Operand→Value} {d:Option Tmp} {g:Option (Nat × Bool)} (i:Nat) (H:St w0 S l w) (F:MPT P t k z) (hi:l[i]?=some (mapR k b m)) (hx:e x=.map (some b)) (hy:e y=.int k q) :
  Yld P e ⟨d,.lookup t x y false,ty,pos,after,g⟩ w ((m q).getD z) w:=by
 have hm:Mp k w b m:=H.get hi
 unfold Yld
 simp only [execOp,hx,hy,Sem.run_bind,run_lookup_int F hm q,Result.andThen_ok]
 rfl
theorem Y.lookE {e:Operand→Value} {d:Option Tmp} {g:Option (Nat × Bool)} (i:Nat) (H:St w0 S l w) (F:MPT P t k z) (hi:l[i]?=some (mapR k b m)) (hx:e x=.map (some b)) (hy:e y=.int k q) (hv:(m q).getD z=v) :
  Yld P e ⟨d,.lookup t x y false,ty,pos,after,g⟩ w v w:=hv ▸ Y.look i H F hi hx hy
theorem VL.mapUpdate (i:Nat) (H:St w0 S l w) (F:MPT P t k z) (hi:l[i]?=some (mapR k b m)) (hx:ev ρ x=.map (some b)) (hy:ev ρ y=.int k q) (hu:ev ρ u=v)
  (h:∀ w',St w0 S (l.set i (mapR k b (fun y => if y=q then some v else m y))) w'→VL P n ops Q rest ρ w') :
  VL P n ops Q (⟨none,.mapUpdate t x y u,ty,pos,after,none⟩ :: rest) ρ w:=by
 obtain ⟨w',h1,h2,h3⟩:=run_mapUpdate_int F (show Mp k w b m from H.get hi) q v
 refine VL.st (w':=w') ?_ (h _ (H.turn hi h3 h2 ⟨mapR_local _ _ _,mapR_in _ _ _⟩ (fun b hb => .inl hb)))
 unfold Skp
 simp only [execOp,hx,hy,hu,Sem.run_bind,h1,Result.andThen_ok]
 rfl
end
inductive T where
 | leaf (s:Nat)
 | node (a b:T)
def T.depth:T→Nat
 | .leaf _ => 0
 | .node a b => max a.depth b.depth+1
def T.adv:T→Bits→T × Bits
 | .leaf s,R => (.leaf s,R)
 | .node a b,[] => (.node a b,[])
 | .node a b,true :: R => b.adv R
 | .node a b,false :: R => a.adv R
def T.walk (t:T) (R:Bits):Option (Nat × Bits) :=
 match t.adv R with
 | (.leaf s,R') => some (s,R')
 | (.node _ _,_) => none
theorem T.adv_append:∀ (t:T) (a b:Bits),t.adv (a++b)=(t.adv a).1.adv ((t.adv a).2++b)
 | .leaf s,a,b => rfl
 | .node x y,[],b => rfl
 | .node x y,true :: a,b => T.adv_append y a b
 | .node x y,false :: a,b => T.adv_append x a b
theorem T.adv_rest:∀ (t:T) (R:Bits),∃ p,R=p++(t.adv R).2
 | .leaf s,R => ⟨[],rfl⟩
 | .node x y,[] => ⟨[],rfl⟩
 | .node x y,true :: R => let ⟨p,hp⟩:=T.adv_rest y R;⟨true :: p,congrArg (true :: ·) hp⟩
 | .node x y,false :: R => let ⟨p,hp⟩:=T.adv_rest x R;⟨false :: p,congrArg (false :: ·) hp⟩
theorem T.adv_rest_drop (t:T) (R:Bits):(t.adv R).2=R.drop (R.length - (t.adv R).2.length):=by
 obtain ⟨p,hp⟩:=T.adv_rest t R
 have hl:R.length=p.length+(t.adv R).2.length:=by have:=congrArg List.length hp;rw [List.length_append] at this;exact this
 generalize (t.adv R).2=r at *
 subst hp
 rw [List.length_append,Nat.add_sub_cancel,List.drop_left]
theorem T.adv_node_rest:∀ (t:T) (R:Bits) (x y:T),(t.adv R).1=.node x y→(t.adv R).2=[]
 | .leaf s,R,x,y,h => by simp [T.adv] at h
 | .node a b,[],x,y,h => rfl
 | .node a b,true :: R,x,y,h => T.adv_node_rest b R x y h
 | .node a b,false :: R,x,y,h => T.adv_node_rest a R x y h
theorem T.walk_node (a b:T) (c:Bool) (R:Bits):(T.node a b).walk (c :: R)=(if c then b else a).walk R:=by cases c <;> rfl
theorem T.walk_append (t:T) (a b:Bits):t.walk (a++b)=(t.adv a).1.walk ((t.adv a).2++b):=by
 unfold T.walk;rw [T.adv_append]
theorem T.walk_more {t:T} {R R':Bits} {s:Nat} (h:t.walk R=some (s,R')) (X:Bits):t.walk (R++X)=some (s,R'++X):=by
 rw [T.walk_append]
 unfold T.walk at h
 cases ha:t.adv R with
 | mk u r =>
  rw [ha] at h
  cases u with
  | leaf s' => simp only [Option.some.injEq,Prod.mk.injEq] at h;obtain ⟨rfl,rfl⟩:=h;rfl
  | node _ _ => cases h
def RepT (ns:List (Nat × Int)):Nat→T→Prop
 | i,.leaf s => ns[i]?=some (s,-1)
 | i,.node a b => ∃ (s c:Nat),ns[i]?=some (s,(c:Int))∧0<c∧RepT ns c a∧RepT ns (c+1) b
theorem RepT.lt {ns:List (Nat × Int)} {i:Nat} {t:T} (h:RepT ns i t):i<ns.length:=by
 cases t with
 | leaf s => exact (List.getElem?_eq_some_iff.1 h).1
 | node a b => obtain ⟨s,c,h1,_⟩:=h;exact (List.getElem?_eq_some_iff.1 h1).1
theorem RepT.adv {ns:List (Nat × Int)}:∀ {t:T} {i:Nat} (R:Bits),RepT ns i t→∃ j,RepT ns j (t.adv R).1
 | .leaf s,i,R,h => ⟨i,h⟩
 | .node a b,i,[],h => ⟨i,h⟩
 | .node a b,i,true :: R,⟨_,c,_,_,_,h⟩ => RepT.adv R h
 | .node a b,i,false :: R,⟨_,c,_,_,h,_⟩ => RepT.adv R h
def LutAt (ns:List (Nat × Int)) (v:Nat):T × Bits→Prop
 | (.leaf s,r) => s<65536∧v=s * 256+(7 - r.length)+1
 | (.node a b,_) => ∃ i,v=i * 256∧RepT ns i (.node a b)
def LutT (ns:List (Nat × Int)) (t:T) (lut:Nat→Nat):Prop:=∀ x,x<128→LutAt ns (lut x) (t.adv (bitsN x 7))
theorem first_bit {c:Bool} {R:Bits} {nb:Nat} (h:0<nb):val ((c :: R).take nb) % 2=c.toNat:=by
 obtain ⟨k,rfl⟩:∃ k,nb=k+1:=⟨nb - 1,by omega⟩
 have:=Bool.toNat_le c
 simp only [List.take_succ_cons,val]
 omega
theorem rest_bits {c:Bool} {R:Bits} {nb:Nat} (h:0<nb):val ((c :: R).take nb) / 2=val (R.take (nb - 1)):=by
 obtain ⟨k,rfl⟩:∃ k,nb=k+1:=⟨nb - 1,by omega⟩
 have:=Bool.toNat_le c
 simp only [List.take_succ_cons,val,Nat.add_sub_cancel]
 omega
theorem and_comm32 (a b:Int):andI .u32 a b=andI .u32 b a:=by unfold andI;rw [BitVec.and_comm]
theorem bits7 {R:Bits} {nb:Nat} (h:7≤nb) (hR:nb≤R.length):bitsN (val (R.take nb) % 2 ^ 7) 7=R.take 7:=by
 rw [← take_val h]
 have hl:(R.take 7).length=7:=by rw [List.length_take];omega
 have:=bitsN_val (R.take 7)
 rwa [hl] at this
structure HT (S:List Nat) (w:World) (b off bn cap:Nat) (ns:List (Nat × Int)) (lut:Nat→Nat) (t:T):Prop where
  nodes:w.cell? ⟨b,off,none⟩=some (.slice (some ⟨bn,0,none⟩) ns.length cap)
  sym:∀ i n,ns[i]?=some n→w.cell? ⟨bn,0+i * 2,none⟩=some (.int .u32 (n.1:Nat))
  chi:∀ i n,ns[i]?=some n→w.cell? ⟨bn,0+i * 2+1,none⟩=some (.int .i32 n.2)
  look:∀ x,x<128→w.cell? ⟨b,off+1+x,none⟩=some (.int .u32 (lut x:Nat))
  rep:RepT ns 0 t
  lutT:LutT ns t lut
  small:ns.length≤65536
  off:b ∉ S∧bn ∉ S
def HTree (S:List Nat) (w:World) (b off:Nat) (t:T):Prop:=∃ bn cap ns lut,HT S w b off bn cap ns lut t
theorem HT.keep {S S':List Nat} {w w':World} {b off bn cap:Nat} {ns:List (Nat × Int)} {lut:Nat→Nat} {t:T} (h:HT S w b off bn cap ns lut t) (hf:Frm S' w w') (hs:∀ x ∈ S',x ∈ S):HT S w' b off bn cap ns lut t :=
  ⟨hf.cell h.nodes (fun hm => h.off.1 (hs _ hm)),fun i n hn => hf.cell (h.sym i n hn) (fun hm => h.off.2 (hs _ hm)),fun i n hn => hf.cell (h.chi i n hn) (fun hm => h.off.2 (hs _ hm)),
   fun x hx => hf.cell (h.look x hx) (fun hm => h.off.1 (hs _ hm)),h.rep,h.lutT,h.small,h.off⟩
theorem HTree.keep {S S':List Nat} {w w':World} {b off:Nat} {t:T} (h:HTree S w b off t) (hf:Frm S' w w') (hs:∀ x ∈ S',x ∈ S):HTree S w' b off t :=
  let ⟨bn,cap,ns,lut,h⟩:=h;⟨bn,cap,ns,lut,h.keep hf hs⟩
def NextPost (σ:Src) (R:Bits) (t:T) (w:World) (e:Ending) (w':World):Prop :=
  (∃ s R',t.walk R=some (s,R')∧e=.returned (.tuple #[.int .u32 (s:Nat),.nilIface])∧(decR σ R').pred w'∧Frm [σ.d,σ.rd] w w') ∨
  (t.walk R=none∧(∃ a,e=.returned (.tuple #[.int .u32 0,.iface 132 (.pointer (some a))]))∧Frm [σ.d,σ.rd] w w')
def SlowI (σ:Src) (w:World) (b off:Nat) (ns:List (Nat × Int)) (t:T) (R0:Bits) (m:Nat) (ρ:Env) (w':World):Prop :=
  ∃ i nb pr R k t',m=t'.depth∧ρ 0=.pointer (some ⟨b,off,none⟩)∧ρ 1=.pointer (some ⟨σ.d,0,none⟩)∧ρ 6=.int .u32 (k:Nat) ∧
    St w [σ.d,σ.rd] (rdL σ R i nb pr) w'∧nb≤14∧Reg σ.s R i nb∧RepT ns k t'∧t.walk R0=t'.walk R
theorem next_any (σ:Src) (R:Bits) (t:T) (b off:Nat) (w:World) (D:(decR σ R).pred w) (ro:RO σ w) (ht:HTree [σ.d,σ.rd] w b off t) :
    Calls Tryd.prog 57 #[.pointer (some ⟨b,off,none⟩),.pointer (some ⟨σ.d,0,none⟩)] w (NextPost σ R t w):=by
  obtain ⟨bn,cap,ns,lut,ht⟩:=ht
  obtain ⟨i,nb,pr,H,hnb,hreg⟩:=decR_open D ro
  have hlen:=ro.len
  have hi:=hreg.i_le
  have hl:=hreg.length
  obtain ⟨ae,hae⟩:=ro.gl.eof
  obtain ⟨au,hau⟩:=ro.gl.unx
  refine enter (m:=176) Tryd.func57 O Tryd.ntmps57 O (Cy (Lo O (AI O) (Lo O (Y.asg O) (Lt ?_))))
  refine VC.scopeF (l:=0) (fun ρ w' => ∃ m,SlowI σ w b off ns t R m ρ w') O ?_ ?_
  case refine_1 =>
    clear H hreg hnb D hi hl
    rintro ρ w1 ⟨m,hI⟩
    refine Cs (Cb (Cl (SlowI σ w b off ns t R) m hI ?_))
    clear hI m ρ w1
    rintro m ρ w1 ⟨i,nb,pr,R1,k,t',rfl,h0,h1,h6,H,hnb,hreg,hrep,hw⟩
    have hi:=hreg.i_le
    have hl:=hreg.length
    have hk:=hrep.lt
    cases t' with
    | leaf s =>
      have e1:=H.old (ht.chi k _ hrep) ht.off.2
      have e2:=H.old (ht.sym k _ hrep) ht.off.2
      refine Cs (Cy (Lo O (YP h0) (Lo O (Y.nilP O) (Lo O (Y.fa fa_142_0 O) (Lo O (Y.ld ld_139 O (H.old ht.nodes ht.off.1)) (Lo O (YI h6) (Lo O (Y.ixS k sl_139 O O O hk) (Lo O (Y.fa fa_157_1 O) (Lo O (Y.ld ld_21 O e1) (Lo O (Y.neq O O) (Lt (CF O (by simp) (Cx (thn_x (thn_x (blk_x (tn (Cy (Lo O (YP h0) (Lo O (Y.nilP O) ?_))))))))))))))))))))
      refine Lo O (Y.fa fa_142_0 O) (Lo O (Y.ld ld_139 O (H.old ht.nodes ht.off.1)) (Lo O (YI h6) (Lo O (Y.ixS k sl_139 O O O hk) (Lo O (Y.fa fa_157_0 O) (Lo O (Y.ld ld_36 O e2) (Lo O (AI O) (Lo O (Y.asg O) (Lt (Ct (noj_r ?_))))))))))
      exact Done.ret2 O O O (.inl ⟨s,R1,hw,rfl,decR_close H hnb hreg,H.frm⟩)
    | node x y =>
      obtain ⟨sy,c,hn,hc,hx,hy⟩:=hrep
      have e1:=H.old (ht.chi k _ hn) ht.off.2
      refine Cs (Cy (Lo O (YP h0) (Lo O (Y.nilP O) (Lo O (Y.fa fa_142_0 O) (Lo O (Y.ld ld_139 O (H.old ht.nodes ht.off.1)) (Lo O (YI h6) (Lo O (Y.ixS k sl_139 O O O hk) (Lo O (Y.fa fa_157_1 O) (Lo O (Y.ld ld_21 O e1) (Lo O (Y.neq O O) (Lt (CT O (by omega) (Ck (tn (Cb (Cs (Cy (Lo O (YP h1) (Lo O (Y.nilP O) ?_)))))))))))))))))))
      refine Lo O (Y.fa fa_128_2 O) (Lo O (Y.ld ld_36 O (H.cell 0 O O)) (Lo O (Y.eql O O) (Lt ?_)))
      refine VC.join (fun ρ w' => ∃ i nb pr,ρ 0=.pointer (some ⟨b,off,none⟩)∧ρ 1=.pointer (some ⟨σ.d,0,none⟩)∧ρ 6=.int .u32 (k:Nat) ∧
        St w [σ.d,σ.rd] (rdL σ R1 i nb pr) w'∧0<nb∧nb≤14∧Reg σ.s R1 i nb) ?_ ?_
      case refine_1 =>
        by_cases hz:nb=0
        case neg =>
          refine CF O (by omega) (Ck (tn ?_))
          exact ⟨i,nb,pr,h0,h1,h6,H,by omega,hnb,hreg⟩
        case pos =>
          subst hz
          refine CT O (by omega) ?_
          by_cases hil:i<σ.s.length
          case pos =>
            have hc:=ro.small _ (List.getElem_mem hil)
            have hv:=hreg.val_more hil hc
            have hv0:val (R1.take (0+8))=σ.s[i]:=by rw [hv];simp [val]
            refine Cy (Lo O (YP h1) (Lo O (Y.nilP O) (Lo O (Y.fa fa_128_0 O) (Lo O (Y.ld ld_123 O (H.cell 0 O O)) (VL.invoke O inv_42_ReadByte O (readByte_some _ σ.rd σ.sb σ.so σ.s.length σ.cap i pr σ.s[i] (H.blk (i:=1) O) (H.old (ro.bytes i hil) ro.okS.2) ro.ne.2.2.2.2 hil (by omega)) O ?_)))))
            rintro e w2 ⟨rfl,hb,hf⟩
            replace H:=H.turnB 1 rfl hf hb
            refine ⟨_,rfl,?_⟩
            refine Lo O (Y.movT O) (Lo O (Y.ext O O) (Lo O (Y.ext O O) (Lo O (AI O) (Lo O (Y.asg O) (Lt (Cs (Cy (Lo O (Y.mov O) (Lo O (Y.neqNilF ifc_47 O O) (Lt (CB O (fun h => nomatch h) (fun _ => (Ck (tn (Cy (Lo O (YP h1) (Lo O (YI O) (Lo O (Y.cv int_5_36 O (wu32 (by omega))) ?_))))))))))))))))))
            refine Lo O (Y.nilP O) (Lo O (Y.fa fa_128_1 O) (VL.putI H 0 st_36 O O O O ?_))
            intro w H
            refine Lt (Cr (Lo O (YP h1) (Lo O (Y.nilP O) (Lo O (Y.fa fa_128_2 O) (VL.putI H 0 st_36 O O O O ?_)))))
            intro w H
            refine Lt ?_
            rw [← hv0] at H
            exact ⟨i+1,0+8,-1,h0,h1,h6,H,by omega,by omega,hreg.more hil⟩
          case neg =>
            refine Cy (Lo O (YP h1) (Lo O (Y.nilP O) (Lo O (Y.fa fa_128_0 O) (Lo O (Y.ld ld_123 O (H.cell 0 O O)) (VL.invoke O inv_42_ReadByte O (readByte_end _ σ.rd σ.sb σ.so σ.s.length σ.cap i pr _ (H.blk (i:=1) O) (H.old hae (ro.okS.1.no (by decide))) (by have:=ro.ne.2.2.1;exact Nat.lt_of_lt_of_le (by decide) this) (by omega) (by omega)) O ?_)))))
            rintro e w2 ⟨rfl,hb,hf⟩
            replace H:=H.turnB 1 rfl hf hb
            refine ⟨_,rfl,?_⟩
            refine Lo O (Y.movT O) (Lo O (Y.ext O O) (Lo O (Y.ext O O) (Lo O (AI O) (Lo O (Y.asg O) (Lt (Cs (Cy (Lo O (Y.mov O) (Lo O (Y.neqNilT ifc_47 O O) (Lt ?_))))))))))
            refine CB O (fun _ => ?_) (fun h => nomatch h)
            refine Cs (Cy (Lo O (Y.mov O) (Lo O (Y.ld ld_47 O (H.old hae (ro.okS.1.no (by decide)))) (Lo O (Y.eqlErr ifc_47 ptrc_132 O O) (Lt ?_)))))
            refine CB O (fun _ => ?_) (fun h => nomatch h)
            refine Cr (Lo O (Y.ld ld_47 O (H.old hau (ro.okS.1.no (by decide)))) (Lo O (Y.asg O) (Lt (Cy (Lo O (Y.mov O) (Lo O (AI O) (Lo O (Y.asg O) (Lt (Ct (thn_r (thn_r (blk_r (thn_r (blk_r (thn_r (noj_r ?_))))))))))))))))
            have hR1:R1=[]:=List.eq_nil_of_length_eq_zero (by omega)
            subst hR1
            exact Done.ret2 O O O (.inr ⟨hw,⟨_,rfl⟩,H.frm⟩)
      case refine_2 =>
        clear H hreg hnb hi hl h0 h1 h6
        rintro ρ w1 ⟨i,nb,pr,h0,h1,h6,H,hn0,hnb,hreg⟩
        have hnl:=hreg.nb_le
        obtain ⟨c0,R2,rfl⟩:∃ c0 R2,R1=c0 :: R2:=by
          cases R1 with
          | nil => simp at hnl;omega
          | cons c0 R2 => exact ⟨c0,R2,rfl⟩
        have hc01:=Bool.toNat_le c0
        have hvl:=val_take_lt (c0 :: R2) nb
        have hp:2 ^ nb≤2 ^ 14:=Nat.pow_le_pow_right (by omega) (by omega)
        have e2:andI .u32 1 (val ((c0 :: R2).take nb):Nat)=(c0.toNat:Nat):=by
          rw [and_comm32]
          have:=and32 (a:=val ((c0 :: R2).take nb)) (n:=1) (by omega) (by omega)
          rw [show (2 ^ 1:Nat)=2 from rfl,first_bit hn0] at this
          exact this
        have e3:=shr32 (a:=val ((c0 :: R2).take nb)) (n:=1) (by omega)
        rw [show (2 ^ 1:Nat)=2 from rfl,rest_bits hn0] at e3
        have e4:=H.old (ht.chi k _ hn) ht.off.2
        have hcl:=hx.lt
        have hsm:=ht.small
        refine Cs (Cd mixedP (by kernel_rfl) ?_)
        intro w hsame
        replace H:=H.same hsame
        refine So O (YP h0) (So O (Y.nilP O) (So O (Y.fa fa_142_0 O) (So O (Y.ld ld_139 O (H.old ht.nodes ht.off.1)) (So O (YI h6) (So O (Y.ixS k sl_139 O O O hk) (So O (Y.fa fa_157_1 O) (So O (Y.ld ld_21 O (H.old (ht.chi k _ hn) ht.off.2)) (So O (Y.cv (r:=(c:Nat)) int_21_36 O (wu32 (by omega))) (So O (YP h1) (So O (Y.nilP O) (So O (Y.fa fa_128_1 O) (So O (Y.ld ld_36 O (H.cell 0 O O)) (So O (Y.and O O e2) (So O (Y.add (r:=((c+c0.toNat:Nat):Int)) O O (by rw [wu32 (by omega)];omega)) (So O (AI O) (Sn (tn (Cy ?_))))))))))))))))))
        refine Lo O (YP h1) (Lo O (Y.nilP O) (Lo O (Y.fa fa_128_1 O) (Lo O (Y.ld ld_36 O (H.cell 0 O O)) (Lo O (Y.shr O O (by omega) e3) (Lo O (Y.nilP O) (Lo O (Y.fa fa_128_1 O) (VL.putI H 0 st_36 O O O O ?_)))))))
        intro w H
        refine Lt (Cr (Lo O (YP h1) (Lo O (Y.nilP O) (Lo O (Y.fa fa_128_2 O) (Lo O (Y.ld ld_36 O (H.cell 0 O O)) (Lo O (Y.sub (r:=((nb - 1:Nat):Int)) O O (by rw [wu32 (by omega)];omega)) (Lo O (Y.nilP O) (Lo O (Y.fa fa_128_2 O) (VL.putI H 0 st_36 O O O O ?_)))))))))
        intro w H
        refine Ln (blk_n (tn ?_))
        have hreg':Reg σ.s R2 i (nb - 1):=hreg.less (n:=1) (by omega)
        cases c0 with
        | false => exact ⟨x.depth,by simp only [T.depth];omega,i,nb - 1,pr,R2,c,x,rfl,h0,h1,rfl,H,by omega,hreg',hx,hw⟩
        | true => exact ⟨y.depth,by simp only [T.depth];omega,i,nb - 1,pr,R2,c+1,y,rfl,h0,h1,rfl,H,by omega,hreg',hy,hw⟩
  intro hslow
  refine Cy (Lo O (AI O) (Lt (Cs (Cy (Lo O (YP O) (Lo O (Y.nilP O) (Lo O (Y.fa fa_128_2 O) (Lo O (Y.ld ld_36 O (H.cell 0 O O)) (Lo O (Y.lss O O) (Lt ?_))))))))))
  refine VC.join (fun ρ w' => ∃ i nb pr,ρ 0=.pointer (some ⟨b,off,none⟩)∧ρ 1=.pointer (some ⟨σ.d,0,none⟩) ∧
    St w [σ.d,σ.rd] (rdL σ R i nb pr) w'∧7≤nb∧nb≤14∧Reg σ.s R i nb) ?_ ?_
  case refine_2.refine_1 =>
    by_cases h7:nb<7
    case neg =>
      refine CF O (by omega) (Ck (tn ?_))
      exact ⟨i,nb,pr,rfl,rfl,H,by omega,hnb,hreg⟩
    case pos =>
      refine CT O (by omega) ?_
      by_cases hil:i<σ.s.length
      case pos =>
        have hc:=ro.small _ (List.getElem_mem hil)
        have hv:=hreg.val_more hil hc
        have hvl:=val_take_lt R nb
        have hvl2:=val_take_lt R (nb+8)
        have hp:2 ^ (nb+8)≤2 ^ 25:=Nat.pow_le_pow_right (by omega) (by omega)
        have e1:=shl32 (n:=nb) (a:=σ.s[i]) (by omega) (by omega)
        have e2:=or32 (b:=σ.s[i]) hvl (by omega)
        refine Cy (Lo O (YP O) (Lo O (Y.nilP O) (Lo O (Y.fa fa_128_0 O) (Lo O (Y.ld ld_123 O (H.cell 0 O O)) (VL.invoke O inv_42_ReadByte O (readByte_some _ σ.rd σ.sb σ.so σ.s.length σ.cap i pr σ.s[i] (H.blk (i:=1) O) (H.old (ro.bytes i hil) ro.okS.2) ro.ne.2.2.2.2 hil (by omega)) O ?_)))))
        rintro e w2 ⟨rfl,hb,hf⟩
        replace H:=H.turnB 1 rfl hf hb
        refine ⟨_,rfl,?_⟩
        refine Lo O (Y.movT O) (Lo O (Y.ext O O) (Lo O (Y.ext O O) (Lo O (AI O) (Lo O (Y.asg O) (Lt (Cs (Cy (Lo O (Y.mov O) (Lo O (Y.neqNilF ifc_47 O O) (Lt (CB O (fun h => nomatch h) (fun _ => (Ck (tn (Cs (VC.drawTail 12 mixedP (by kernel_rfl) ?_))))))))))))))))
        intro w hsame
        replace H:=H.same hsame
        refine So O (YP O) (So O (Y.nilP O) (So O (Y.fa fa_128_1 O) (So O (Y.ld ld_36 O (H.cell 0 O O)) (So O (YI O) (So O (Y.cv int_5_36 O (wu32 (by omega))) (So O (YP O) (So O (Y.nilP O) (So O (Y.fa fa_128_2 O) (So O (Y.ld ld_36 O (H.cell 0 O O)) (So O (Y.shl O O (by omega) e1) (So O (Y.or O O e2) (Sn (Lo O (Y.nilP O) (Lo O (Y.fa fa_128_1 O) (VL.putI H 0 st_36 O O O O ?_)))))))))))))))
        intro w H
        refine Lt (Cr (Lo O (YP O) (Lo O (Y.nilP O) (Lo O (Y.fa fa_128_2 O) (Lo O (Y.ld ld_36 O (H.cell 0 O O)) (Lo O (Y.add O O (wu32 (by omega))) (Lo O (Y.nilP O) (Lo O (Y.fa fa_128_2 O) (VL.putI H 0 st_36 O O O O ?_)))))))))
        intro w H
        refine Lt ?_
        rw [← hv] at H
        exact ⟨i+1,nb+8,-1,rfl,rfl,H,by omega,by omega,hreg.more hil⟩
      case neg =>
        refine Cy (Lo O (YP O) (Lo O (Y.nilP O) (Lo O (Y.fa fa_128_0 O) (Lo O (Y.ld ld_123 O (H.cell 0 O O)) (VL.invoke O inv_42_ReadByte O (readByte_end _ σ.rd σ.sb σ.so σ.s.length σ.cap i pr _ (H.blk (i:=1) O) (H.old hae (ro.okS.1.no (by decide))) (by have:=ro.ne.2.2.1;exact Nat.lt_of_lt_of_le (by decide) this) (by omega) (by omega)) O ?_)))))
        rintro e w2 ⟨rfl,hb,hf⟩
        replace H:=H.turnB 1 rfl hf hb
        refine ⟨_,rfl,?_⟩
        refine Lo O (Y.movT O) (Lo O (Y.ext O O) (Lo O (Y.ext O O) (Lo O (AI O) (Lo O (Y.asg O) (Lt (Cs (Cy (Lo O (Y.mov O) (Lo O (Y.neqNilT ifc_47 O O) (Lt ?_))))))))))
        refine CB O (fun _ => ?_) (fun h => nomatch h)
        refine Cs (Cy (Lo O (Y.mov O) (Lo O (Y.ld ld_47 O (H.old hae (ro.okS.1.no (by decide)))) (Lo O (Y.eqlErr ifc_47 ptrc_132 O O) (Lt ?_)))))
        refine CB O (fun _ => ?_) (fun h => nomatch h)
        refine VC.goto (thn_g (thn_g (thn_g ?_)))
        exact jmp_g ⟨t.depth,i,nb,-1,R,0,t,rfl,rfl,rfl,rfl,H,hnb,hreg,ht.rep,rfl⟩
  case refine_2.refine_2 =>
    clear H hreg hnb D hi hl
    rintro ρ w1 ⟨i,nb,pr,h0,h1,H,h7,hnb,hreg⟩
    have hnl:=hreg.nb_le
    have hvl:=val_take_lt R nb
    have hp:2 ^ nb≤2 ^ 14:=Nat.pow_le_pow_right (by omega) (by omega)
    have e1:=and32 (a:=val (R.take nb)) (n:=7) (by omega) (by omega)
    obtain ⟨x,hxe⟩:∃ x,x=val (R.take nb) % 2 ^ 7:=⟨_,rfl⟩
    have hx:x<128:=by rw [hxe];exact Nat.mod_lt _ (by decide)
    have hb7:bitsN x 7=R.take 7:=by rw [hxe];exact bits7 h7 hnl
    have hlk:=ht.lutT x hx
    rw [← hxe] at e1
    have hsplit:R=R.take 7++R.drop 7:=(List.take_append_drop 7 R).symm
    have hl7:(R.take 7).length=7:=by rw [List.length_take];omega
    have hwalk:t.walk R=(t.adv (R.take 7)).1.walk ((t.adv (R.take 7)).2++R.drop 7):=by
      conv => lhs;rw [hsplit]
      rw [T.walk_append]
    have hrest:=T.adv_rest_drop t (R.take 7)
    have hnode:=T.adv_node_rest t (R.take 7)
    rw [hb7] at hlk
    obtain ⟨lx,hlx⟩:∃ lx,lx=lut x:=⟨_,rfl⟩
    have hlc:=ht.look x hx
    rw [← hlx] at hlk hlc
    cases hadv:t.adv (R.take 7) with
    | mk u r =>
    rw [hadv] at hlk hwalk hrest hnode
    cases u with
    | leaf s =>
      obtain ⟨hs,hlv⟩:=hlk
      obtain ⟨d,hd⟩:∃ d,d=7 - r.length:=⟨_,rfl⟩
      have hrl:r.length≤7:=by
        obtain ⟨p,hp⟩:=T.adv_rest t (R.take 7)
        rw [hadv] at hp
        have:=congrArg List.length hp
        rw [hl7,List.length_append] at this
        simp only at this
        omega
      have hd7:d≤7:=by omega
      rw [← hd] at hlv
      have hr2:r++R.drop 7=R.drop d:=by
        simp only [hl7] at hrest
        rw [← hd] at hrest
        rw [hrest]
        conv => rhs;rw [hsplit]
        rw [List.drop_append_of_le_length (by omega)]
      have hw:t.walk R=some (s,R.drop d):=by rw [hwalk,← hr2];rfl
      have e5:=and32 (a:=lx) (n:=8) (by omega) (by omega)
      rw [show lx % 2 ^ 8=d+1 by omega] at e5
      have e6:=shr32 (a:=val (R.take nb)) (n:=d) (by omega)
      rw [← Reg.val_less (by omega:d≤nb) hnl] at e6
      have e7:=shr32 (a:=lx) (n:=8) (by omega)
      rw [show lx / 2 ^ 8=s by omega] at e7
      refine Cs (Cd mixedP (by kernel_rfl) ?_)
      intro w hsame
      replace H:=H.same hsame
      refine So O (YP h0) (So O (YP h1) (So O (Y.nilP O) (So O (Y.fa fa_128_1 O) (So O (Y.ld ld_36 O (H.cell 0 O O)) (So O (Y.and O O e1) (So O (Y.nilP O) (So O (Y.fa fa_142_1 O) (So O (Y.ixA1 x ar_140 O O O hx) (So O (Y.ld ld_36 O (H.old hlc ht.off.1)) (So O (AI O) (Sn (tn (Cs (Cy (Lo O (YI O) (Lo O (Y.and O O e5) (Lo O (AI O) (Lt ?_))))))))))))))))))
      refine Cy (Lo O (YI O) (Lo O (Y.neq O O) (Lt (CT O (by omega) (Cy (Lo O (YI O) (Lo O (Y.sub (r:=(d:Nat)) O O (by rw [wu32 (by omega)];omega)) (Lo O (AI O) (Lt (Cy (Lo O (YP h1) (Lo O (Y.nilP O) (Lo O (Y.fa fa_128_1 O) (Lo O (Y.ld ld_36 O (H.cell 0 O O)) ?_))))))))))))))
      refine Lo O (YI O) (Lo O (Y.shr O O (by omega) e6) (Lo O (Y.nilP O) (Lo O (Y.fa fa_128_1 O) (VL.putI H 0 st_36 O O O O ?_))))
      intro w H
      refine Lt (Cy (Lo O (YP h1) (Lo O (Y.nilP O) (Lo O (Y.fa fa_128_2 O) (Lo O (Y.ld ld_36 O (H.cell 0 O O)) (Lo O (YI O) (Lo O (Y.sub (r:=((nb - d:Nat):Int)) O O (by rw [wu32 (by omega)];omega)) (Lo O (Y.nilP O) (Lo O (Y.fa fa_128_2 O) (VL.putI H 0 st_36 O O O O ?_))))))))))
      intro w H
      refine Lt (Cy (Lo O (YI O) (Lo O (Y.shr O O (by omega) e7) (Lo O (AI O) (Lo O (Y.asg O) (Lt (Ct (thn_r (jmp_r ?_)))))))))
      exact Done.ret2 O O O (.inl ⟨s,R.drop d,hw,rfl,decR_close H (by omega) (hreg.less (by omega)),H.frm⟩)
    | node ua ub =>
      obtain ⟨k,hkv,hkr⟩:=hlk
      have hkl:=hkr.lt
      have hks:=ht.small
      have hr0:r=[]:=hnode ua ub rfl
      subst hr0
      have e5:=and32 (a:=lx) (n:=8) (by omega) (by omega)
      rw [show lx % 2 ^ 8=0 by omega] at e5
      have e6:=shr32 (a:=val (R.take nb)) (n:=7) (by omega)
      rw [← Reg.val_less (by omega:7≤nb) hnl] at e6
      have e7:=shr32 (a:=lx) (n:=8) (by omega)
      rw [show lx / 2 ^ 8=k by omega] at e7
      refine Cs (Cd mixedP (by kernel_rfl) ?_)
      intro w hsame
      replace H:=H.same hsame
      refine So O (YP h0) (So O (YP h1) (So O (Y.nilP O) (So O (Y.fa fa_128_1 O) (So O (Y.ld ld_36 O (H.cell 0 O O)) (So O (Y.and O O e1) (So O (Y.nilP O) (So O (Y.fa fa_142_1 O) (So O (Y.ixA1 x ar_140 O O O hx) (So O (Y.ld ld_36 O (H.old hlc ht.off.1)) (So O (AI O) (Sn (tn (Cs (Cy (Lo O (YI O) (Lo O (Y.and O O e5) (Lo O (AI O) (Lt ?_))))))))))))))))))
      refine Cy (Lo O (YI O) (Lo O (Y.neq O O) (Lt (CF O (by omega) (Ck (tn (Cy (Lo O (YI O) (Lo O (Y.shr O O (by omega) e7) (Lo O (AI O) (Lt (Cy (Lo O (YP h1) (Lo O (Y.nilP O) ?_))))))))))))))
      refine Lo O (Y.fa fa_128_1 O) (Lo O (Y.ld ld_36 O (H.cell 0 O O)) (Lo O (Y.shr O O (by omega) e6) (Lo O (Y.nilP O) (Lo O (Y.fa fa_128_1 O) (VL.putI H 0 st_36 O O O O ?_)))))
      intro w H
      refine Lt (Cy (Lo O (YP h1) (Lo O (Y.nilP O) (Lo O (Y.fa fa_128_2 O) (Lo O (Y.ld ld_36 O (H.cell 0 O O)) (Lo O (Y.sub (r:=((nb - 7:Nat):Int)) O O (by rw [wu32 (by omega)];omega)) (Lo O (Y.nilP O) (Lo O (Y.fa fa_128_2 O) (VL.putI H 0 st_36 O O O O ?_)))))))))
      intro w H
      refine Lt (Cs (VC.label (tn ?_)))
      refine hslow _ _ ⟨(T.node ua ub).depth,i,nb - 7,pr,R.drop 7,k,.node ua ub,rfl,h0,h1,rfl,H,by omega,hreg.less (by omega),hkr,?_⟩
      rw [hwalk]
      rfl
theorem HT.sub {S S':List Nat} {w:World} {b off bn cap:Nat} {ns:List (Nat × Int)} {lut:Nat→Nat} {t:T} (h:HT S w b off bn cap ns lut t) (hs:∀ x ∈ S',x ∈ S):HT S' w b off bn cap ns lut t :=
  ⟨h.nodes,h.sym,h.chi,h.look,h.rep,h.lutT,h.small,fun hm => h.off.1 (hs _ hm),fun hm => h.off.2 (hs _ hm)⟩
theorem HTree.sub {S S':List Nat} {w:World} {b off:Nat} {t:T} (h:HTree S w b off t) (hs:∀ x ∈ S',x ∈ S):HTree S' w b off t :=
  let ⟨bn,cap,ns,lut,h⟩:=h;⟨bn,cap,ns,lut,h.sub hs⟩
section
variable {w0 w:World} {S:List Nat} {l:List Res} {σ:Src} {R R':Bits} {t:T} {s b off:Nat}
variable {n:Nat} {ops:Array Oper} {Q:Post} {rest:List Oper} {ρ:Env} {ty:TypeId} {pos:String} {after:Array Edge} {x y:Operand} {d:Nat} {ts:Array TypeId}
theorem VL.nextOk (H:St w0 S l w) (i:Nat) (hi:l[i]?=some (decR σ R)) (ro:RO σ w0) (hS:OkS σ S) (ht:HTree S w0 b off t) (hdS:∀ z ∈ [σ.d,σ.rd],z ∈ S) (hw:t.walk R=some (s,R')) (hd:Nat.blt d n=true) (hx:ev ρ x=.pointer (some ⟨b,off,none⟩)) (hy:ev ρ y=.pointer (some ⟨σ.d,0,none⟩))
    (h:∀ w',St w0 S (l.set i (decR σ R')) w'→VL Tryd.prog n ops Q rest (upd ρ d (.tuple #[.int .u32 (s:Nat),.nilIface])) w') :
    VL Tryd.prog n ops Q (⟨some d,.call ⟨.value (.func 57),#[x,y],ts⟩,ty,pos,after,none⟩ :: rest) ρ w :=
  VL.call hd ent_57 (next_any σ R t b off w (H.get hi) (ro.frm H hS) ((ht.keep H.frm (fun _ h => h)).sub hdS)) (by simp [hx,hy]) fun e w' hP => by
    rcases hP with ⟨s',R'',h1,h2,h3,h4⟩ | ⟨h1,_⟩
    · rw [hw] at h1
      obtain ⟨rfl,rfl⟩:=Prod.mk.inj (Option.some.inj h1)
      exact ⟨_,h2,h _ (H.dec i hi h4 h3)⟩
    · rw [hw] at h1;cases h1
theorem VL.nextNo (H:St w0 S l w) (i:Nat) (hi:l[i]?=some (decR σ R)) (ro:RO σ w0) (hS:OkS σ S) (ht:HTree S w0 b off t) (hdS:∀ z ∈ [σ.d,σ.rd],z ∈ S) (hw:t.walk R=none) (hd:Nat.blt d n=true) (hx:ev ρ x=.pointer (some ⟨b,off,none⟩)) (hy:ev ρ y=.pointer (some ⟨σ.d,0,none⟩))
    (h:∀ w' a,Frm S w0 w'→VL Tryd.prog n ops Q rest (upd ρ d (.tuple #[.int .u32 0,.iface 132 (.pointer (some a))])) w') :
    VL Tryd.prog n ops Q (⟨some d,.call ⟨.value (.func 57),#[x,y],ts⟩,ty,pos,after,none⟩ :: rest) ρ w :=
  VL.call hd ent_57 (next_any σ R t b off w (H.get hi) (ro.frm H hS) ((ht.keep H.frm (fun _ h => h)).sub hdS)) (by simp [hx,hy]) fun e w' hP => by
    rcases hP with ⟨s',R'',h1,_⟩ | ⟨_,⟨a,h2⟩,h3⟩
    · rw [hw] at h1;cases h1
    · exact ⟨_,h2,h _ a (H.decFrm hi h3)⟩
end
inductive PT where
 | e
 | l (s:Nat)
 | n (a b:PT)
def PT.ins:PT→Bits→Nat→Option PT
 | .e,[],s => some (.l s)
 | .l _,[],s => some (.l s)
 | .n _ _,[],_ => none
 | .l _,_ :: _,_ => none
 | .e,true :: p,s => (PT.ins .e p s).map (.n .e ·)
 | .e,false :: p,s => (PT.ins .e p s).map (.n · .e)
 | .n a b,true :: p,s => (b.ins p s).map (.n a ·)
 | .n a b,false :: p,s => (a.ins p s).map (.n · b)
def PT.inner:PT→Nat
 | .n a b => a.inner+b.inner+1
 | _ => 0
inductive Obs where
 | leaf (s left:Nat)
 | inner
 | empty
def PT.obs:PT→Bits→Obs
 | .e,_ => .empty
 | .l s,q => .leaf s q.length
 | .n _ _,[] => .inner
 | .n a b,true :: q => b.obs q
 | .n a b,false :: q => a.obs q
theorem PT.ins_obs_under:∀ (t:PT) (p:Bits) (s:Nat) (t':PT),t.ins p s=some t'→∀ r,t'.obs (p++r)=.leaf s r.length
 | .e,[],s,t',h,r => by simp only [PT.ins,Option.some.injEq] at h;subst h;rfl
 | .l _,[],s,t',h,r => by simp only [PT.ins,Option.some.injEq] at h;subst h;rfl
 | .n _ _,[],s,t',h,r => by simp [PT.ins] at h
 | .l _,_ :: _,s,t',h,r => by simp [PT.ins] at h
 | .e,true :: p,s,t',h,r => by
  simp only [PT.ins,Option.map_eq_some_iff] at h
  obtain ⟨u,hu,rfl⟩:=h
  exact PT.ins_obs_under .e p s u hu r
 | .e,false :: p,s,t',h,r => by
  simp only [PT.ins,Option.map_eq_some_iff] at h
  obtain ⟨u,hu,rfl⟩:=h
  exact PT.ins_obs_under .e p s u hu r
 | .n a b,true :: p,s,t',h,r => by
  simp only [PT.ins,Option.map_eq_some_iff] at h
  obtain ⟨u,hu,rfl⟩:=h
  exact PT.ins_obs_under b p s u hu r
 | .n a b,false :: p,s,t',h,r => by
  simp only [PT.ins,Option.map_eq_some_iff] at h
  obtain ⟨u,hu,rfl⟩:=h
  exact PT.ins_obs_under a p s u hu r
theorem PT.ins_obs_above:∀ (t:PT) (q:Bits) (c:Bool) (p:Bits) (s:Nat) (t':PT),t.ins (q++c :: p) s=some t'→t'.obs q=.inner
 | .e,[],true,p,s,t',h => by
  simp only [List.nil_append,PT.ins,Option.map_eq_some_iff] at h
  obtain ⟨u,hu,rfl⟩:=h;rfl
 | .e,[],false,p,s,t',h => by
  simp only [List.nil_append,PT.ins,Option.map_eq_some_iff] at h
  obtain ⟨u,hu,rfl⟩:=h;rfl
 | .l _,[],c,p,s,t',h => by simp [PT.ins] at h
 | .n a b,[],true,p,s,t',h => by
  simp only [List.nil_append,PT.ins,Option.map_eq_some_iff] at h
  obtain ⟨u,hu,rfl⟩:=h;rfl
 | .n a b,[],false,p,s,t',h => by
  simp only [List.nil_append,PT.ins,Option.map_eq_some_iff] at h
  obtain ⟨u,hu,rfl⟩:=h;rfl
 | .l _,_ :: _,c,p,s,t',h => by simp [PT.ins] at h
 | .e,true :: q,c,p,s,t',h => by
  simp only [List.cons_append,PT.ins,Option.map_eq_some_iff] at h
  obtain ⟨u,hu,rfl⟩:=h
  exact PT.ins_obs_above .e q c p s u hu
 | .e,false :: q,c,p,s,t',h => by
  simp only [List.cons_append,PT.ins,Option.map_eq_some_iff] at h
  obtain ⟨u,hu,rfl⟩:=h
  exact PT.ins_obs_above .e q c p s u hu
 | .n a b,true :: q,c,p,s,t',h => by
  simp only [List.cons_append,PT.ins,Option.map_eq_some_iff] at h
  obtain ⟨u,hu,rfl⟩:=h
  exact PT.ins_obs_above b q c p s u hu
 | .n a b,false :: q,c,p,s,t',h => by
  simp only [List.cons_append,PT.ins,Option.map_eq_some_iff] at h
  obtain ⟨u,hu,rfl⟩:=h
  exact PT.ins_obs_above a q c p s u hu
def Aside (p q:Bits):Prop:=¬ p <+: q∧¬ q <+: p
theorem Aside.tail {c:Bool} {p q:Bits} (h:Aside (c :: p) (c :: q)):Aside p q :=
 ⟨fun hp => h.1 (by simpa using hp),fun hp => h.2 (by simpa using hp)⟩
theorem PT.ins_obs_aside:∀ (t:PT) (p q:Bits) (s:Nat) (t':PT),t.ins p s=some t'→Aside p q→t'.obs q=t.obs q
 | t,[],q,s,t',h,ha => absurd (List.nil_prefix) ha.1
 | t,_ :: _,[],s,t',h,ha => absurd (List.nil_prefix) ha.2
 | .l _,_ :: _,_ :: _,s,t',h,ha => by simp [PT.ins] at h
 | .e,true :: p,true :: q,s,t',h,ha => by
  simp only [PT.ins,Option.map_eq_some_iff] at h
  obtain ⟨u,hu,rfl⟩:=h
  exact PT.ins_obs_aside .e p q s u hu ha.tail
 | .e,false :: p,false :: q,s,t',h,ha => by
  simp only [PT.ins,Option.map_eq_some_iff] at h
  obtain ⟨u,hu,rfl⟩:=h
  exact PT.ins_obs_aside .e p q s u hu ha.tail
 | .e,true :: p,false :: q,s,t',h,ha => by
  simp only [PT.ins,Option.map_eq_some_iff] at h
  obtain ⟨u,hu,rfl⟩:=h
  rfl
 | .e,false :: p,true :: q,s,t',h,ha => by
  simp only [PT.ins,Option.map_eq_some_iff] at h
  obtain ⟨u,hu,rfl⟩:=h
  rfl
 | .n a b,true :: p,true :: q,s,t',h,ha => by
  simp only [PT.ins,Option.map_eq_some_iff] at h
  obtain ⟨u,hu,rfl⟩:=h
  exact PT.ins_obs_aside b p q s u hu ha.tail
 | .n a b,false :: p,false :: q,s,t',h,ha => by
  simp only [PT.ins,Option.map_eq_some_iff] at h
  obtain ⟨u,hu,rfl⟩:=h
  exact PT.ins_obs_aside a p q s u hu ha.tail
 | .n a b,true :: p,false :: q,s,t',h,ha => by
  simp only [PT.ins,Option.map_eq_some_iff] at h
  obtain ⟨u,hu,rfl⟩:=h
  rfl
 | .n a b,false :: p,true :: q,s,t',h,ha => by
  simp only [PT.ins,Option.map_eq_some_iff] at h
  obtain ⟨u,hu,rfl⟩:=h
  rfl
theorem prefix_of_obs_leaf:∀ (t:PT) (p q:Bits) (s:Nat) (t':PT),t.ins p s=some t'→q <+: p→q≠p→∀ s' k,t.obs q≠.leaf s' k
 | .e,p,q,s,t',h,hq,hne,s',k => by cases q <;> simp [PT.obs]
 | .l _,[],q,s,t',h,hq,hne,s',k => by
  have:q=[]:=by simpa using hq
  exact absurd this hne
 | .l _,_ :: _,q,s,t',h,hq,hne,s',k => by simp [PT.ins] at h
 | .n a b,[],q,s,t',h,hq,hne,s',k => by simp [PT.ins] at h
 | .n a b,c :: p,[],s,t',h,hq,hne,s',k => by simp [PT.obs]
 | .n a b,true :: p,c :: q,s,t',h,hq,hne,s',k => by
  obtain ⟨rfl,hq⟩:c=true∧q <+: p:=by simpa using hq
  simp only [PT.ins,Option.map_eq_some_iff] at h
  obtain ⟨u,hu,rfl⟩:=h
  exact prefix_of_obs_leaf b p q s u hu (by simpa using hq) (fun e => hne (by rw [e])) s' k
 | .n a b,false :: p,c :: q,s,t',h,hq,hne,s',k => by
  obtain ⟨rfl,hq⟩:c=false∧q <+: p:=by simpa using hq
  simp only [PT.ins,Option.map_eq_some_iff] at h
  obtain ⟨u,hu,rfl⟩:=h
  exact prefix_of_obs_leaf a p q s u hu (by simpa using hq) (fun e => hne (by rw [e])) s' k
def RepP (ns:List (Nat × Int)):Nat→PT→List Nat→Prop
 | i,.e,A => A=[i]∧∃ s:Nat,ns[i]?=some (s,0)
 | i,.l s,A => A=[i]∧ns[i]?=some (s,-1)
 | i,.n a b,A => ∃ (s c:Nat) (B C:List Nat),ns[i]?=some (s,(c:Int))∧0<c∧RepP ns c a B∧RepP ns (c+1) b C∧A=i :: (B++C)
theorem RepP.congr {ns ns':List (Nat × Int)}:∀ {t:PT} {i:Nat} {A:List Nat},RepP ns i t A→(∀ k ∈ A,ns'[k]?=ns[k]?)→RepP ns' i t A
 | .e,i,A,⟨hA,s,hs⟩,hk => ⟨hA,s,by rw [hk i (by simp [hA]),hs]⟩
 | .l s,i,A,⟨hA,hs⟩,hk => ⟨hA,by rw [hk i (by simp [hA]),hs]⟩
 | .n a b,i,A,⟨s,c,B,C,hn,hc,ha,hb,hA⟩,hk => by
  subst hA
  exact ⟨s,c,B,C,by rw [hk i (by simp),hn],hc,ha.congr (fun k hk' => hk k (by simp [hk'])),hb.congr (fun k hk' => hk k (by simp [hk'])),rfl⟩
theorem RepP.count {ns:List (Nat × Int)}:∀ {t:PT} {i:Nat} {A:List Nat},RepP ns i t A→A.length=2 * t.inner+1
 | .e,i,A,⟨hA,_⟩ => by simp [hA,PT.inner]
 | .l s,i,A,⟨hA,_⟩ => by simp [hA,PT.inner]
 | .n a b,i,A,⟨s,c,B,C,hn,hc,ha,hb,hA⟩ => by
  subst hA
  have h1:=ha.count
  have h2:=hb.count
  simp only [List.length_cons,List.length_append,PT.inner,h1,h2]
  omega
theorem RepP.root {ns:List (Nat × Int)} {t:PT} {i:Nat} {A:List Nat} (h:RepP ns i t A):i ∈ A:=by
 cases t with
 | e => simp [h.1]
 | l s => simp [h.1]
 | n a b => obtain ⟨s,c,B,C,_,_,_,_,rfl⟩:=h;simp
def idxP (ns:List (Nat × Int)):Nat→Bits→Nat
 | i,[] => i
 | i,c :: q => idxP ns (((ns[i]?.getD (0,0)).2).toNat+c.toNat) q
theorem idxP_append (ns:List (Nat × Int)):∀ (p:Bits) (i:Nat) (q:Bits),idxP ns i (p++q)=idxP ns (idxP ns i p) q
 | [],i,q => rfl
 | c :: p,i,q => idxP_append ns p _ q
theorem RepP.idx_same {ns ns':List (Nat × Int)}:∀ {t:PT} {i:Nat} {A:List Nat} (q:Bits),RepP ns i t A→t.obs q=.inner→(∀ (k:Nat) (m:Nat × Int),ns[k]?=some m→0<m.2→∃ s:Nat,ns'[k]?=some (s,m.2))→idxP ns' i q=idxP ns i q
 | .e,i,A,q,h,ho,hk => by cases q <;> simp [PT.obs] at ho
 | .l s,i,A,q,h,ho,hk => by cases q <;> simp [PT.obs] at ho
 | .n a b,i,A,[],h,ho,hk => rfl
 | .n a b,i,A,true :: q,⟨s,c,B,C,hn,hc,ha,hb,hA⟩,ho,hk => by
  obtain ⟨s',hs'⟩:=hk i _ hn (by simpa using hc)
  have:=hb.idx_same q ho hk
  simpa [idxP,hn,hs'] using this
 | .n a b,i,A,false :: q,⟨s,c,B,C,hn,hc,ha,hb,hA⟩,ho,hk => by
  obtain ⟨s',hs'⟩:=hk i _ hn (by simpa using hc)
  have:=ha.idx_same q ho hk
  simpa [idxP,hn,hs'] using this
def LutPAt (ns:List (Nat × Int)) (q:Bits) (v:Nat):Obs→Prop
 | .leaf s k => s<65536∧v=s * 256+(7 - k)+1
 | .inner => v=idxP ns 0 q * 256
 | .empty => v=0
def LutP (ns:List (Nat × Int)) (t:PT) (lut:Nat→Nat):Prop:=∀ x,x<128→LutPAt ns (bitsN x 7) (lut x) (t.obs (bitsN x 7))
def codePath (code:Nat):Nat→Bits
 | 0 => []
 | l+1 => code.testBit l :: codePath code l
theorem codePath_length (code:Nat):∀ l,(codePath code l).length=l
 | 0 => rfl
 | l+1 => by simp [codePath,codePath_length code l]
theorem codePath_append (code:Nat):∀ m j,codePath code (m+j)=codePath (code >>> j) m++codePath code j
 | 0,j => by simp [codePath]
 | m+1,j => by
  rw [show m+1+j=(m+j)+1 by omega]
  simp only [codePath,List.cons_append,codePath_append code m j,Nat.testBit_shiftRight]
  rw [Nat.add_comm m j]
theorem codePath_mod (code:Nat) (k:Nat):∀ l,l≤k→codePath (code % 2 ^ k) l=codePath code l
 | 0,_ => rfl
 | l+1,h => by
  simp only [codePath,codePath_mod code k l (by omega),Nat.testBit_mod_two_pow]
  rw [decide_eq_true (by omega),Bool.true_and]
theorem bitsN_append:∀ (l j x:Nat),bitsN x (l+j)=bitsN x l++bitsN (x / 2 ^ l) j
 | 0,j,x => by simp [bitsN]
 | l+1,j,x => by
  rw [show l+1+j=(l+j)+1 by omega]
  simp only [bitsN,List.cons_append,bitsN_append l j (x / 2),Nat.pow_succ]
  rw [Nat.div_div_eq_div_mul,Nat.mul_comm 2]
theorem val_inj {p q:Bits} (hl:p.length=q.length) (h:val p=val q):p=q:=by
 rw [← bitsN_val p,← bitsN_val q,h,hl]
theorem prefix_iff {p:Bits} {x:Nat} (hp:p.length≤7):p <+: bitsN x 7 ↔ x % 2 ^ p.length=val p:=by
 have h7:bitsN x 7=bitsN x p.length++bitsN (x / 2 ^ p.length) (7 - p.length):=by
  rw [← bitsN_append];congr 1;omega
 constructor
 ·intro h
  have h1:=List.prefix_iff_eq_take.1 h
  rw [h7,List.take_left' (bnl _ _)] at h1
  conv => rhs;rw [h1]
  rw [val_bitsN]
 ·intro h
  have h1:p=bitsN x p.length:=val_inj (by rw [bnl]) (by rw [val_bitsN,h])
  rw [h7]
  exact ⟨_,by rw [← h1]⟩
theorem prefix7_iff {p:Bits} {x:Nat} (hx:x<128) (hp:7≤p.length):bitsN x 7 <+: p ↔ x=val (p.take 7):=by
 have hl:(p.take 7).length=7:=by rw [List.length_take];omega
 constructor
 ·intro h
  have h1:=List.prefix_iff_eq_take.1 h
  rw [bnl] at h1
  rw [← h1,val_bitsN,Nat.mod_eq_of_lt (by omega)]
 ·intro h
  have h1:bitsN x 7=p.take 7:=by
   have:=bitsN_val (p.take 7)
   rw [hl,← h] at this
   exact this
  rw [h1]
  exact List.take_prefix 7 p
def nodeCells (ns:List (Nat × Int)):List Value:=ns.flatMap fun n => [.int .u32 (n.1:Nat),.int .i32 n.2]
theorem nodeCells_cons (n:Nat × Int) (ns:List (Nat × Int)):nodeCells (n :: ns)=.int .u32 (n.1:Nat) :: .int .i32 n.2 :: nodeCells ns:=rfl
theorem nodeCells_sym:∀ (ns:List (Nat × Int)) (k:Nat) (n:Nat × Int),ns[k]?=some n→(nodeCells ns)[k * 2]?=some (.int .u32 (n.1:Nat))
 | [],k,n,h => by simp at h
 | m :: ns,0,n,h => by simp at h;subst h;rfl
 | m :: ns,k+1,n,h => by
  have:=nodeCells_sym ns k n (by simpa using h)
  rw [nodeCells_cons,show (k+1) * 2=k * 2+1+1 by omega]
  simpa using this
theorem nodeCells_chi:∀ (ns:List (Nat × Int)) (k:Nat) (n:Nat × Int),ns[k]?=some n→(nodeCells ns)[k * 2+1]?=some (.int .i32 n.2)
 | [],k,n,h => by simp at h
 | m :: ns,0,n,h => by simp at h;subst h;rfl
 | m :: ns,k+1,n,h => by
  have:=nodeCells_chi ns k n (by simpa using h)
  rw [nodeCells_cons,show (k+1) * 2+1=k * 2+1+1+1 by omega]
  simpa using this
theorem nodeCells_setChi:∀ (ns:List (Nat × Int)) (k:Nat) (n:Nat × Int) (c:Int),ns[k]?=some n→(nodeCells ns).set (k * 2+1) (.int .i32 c)=nodeCells (ns.set k (n.1,c))
 | [],k,n,c,h => by simp at h
 | m :: ns,0,n,c,h => by simp at h;subst h;rfl
 | m :: ns,k+1,n,c,h => by
  have:=nodeCells_setChi ns k n c (by simpa using h)
  rw [nodeCells_cons,show (k+1) * 2+1=k * 2+1+1+1 by omega,List.set_cons_succ,List.set_cons_succ,this,List.set_cons_succ,nodeCells_cons]
theorem nodeCells_setSym:∀ (ns:List (Nat × Int)) (k:Nat) (n:Nat × Int) (s:Nat),ns[k]?=some n→(nodeCells ns).set (k * 2) (.int .u32 (s:Nat))=nodeCells (ns.set k (s,n.2))
 | [],k,n,s,h => by simp at h
 | m :: ns,0,n,s,h => by simp at h;subst h;rfl
 | m :: ns,k+1,n,s,h => by
  have:=nodeCells_setSym ns k n s (by simpa using h)
  rw [nodeCells_cons,show (k+1) * 2=k * 2+1+1 by omega,List.set_cons_succ,List.set_cons_succ,this,List.set_cons_succ,nodeCells_cons]
def Wand (ns:List (Nat × Int)) (n:Nat) (C:PT→PT) (K:List Nat):Prop :=
 ∀ (ns':List (Nat × Int)) (X':PT) (A':List Nat),(∀ k ∈ K,ns'[k]?=ns[k]?)→RepP ns' n X' A'→∃ A'',RepP ns' 0 (C X') A''∧A''.Perm (A'++K)
structure Zip (ns0:List (Nat × Int)) (t0:PT) (s:Nat) (path q p:Bits) (ns:List (Nat × Int)) (len n:Nat) (X:PT) (A:List Nat) (C:PT→PT) (K:List Nat):Prop where
 way:path=q++p
 rep:RepP ns n X A
 wand:Wand ns n C K
 nodup:(A++K).Nodup
 below:∀ k ∈ A++K,k<len
 count:(A++K).length=len
 ins:t0.ins path s=(X.ins p s).map C
 zero:∀ k,len≤k→k<ns.length→ns[k]?=some (0,0)
 size:ns.length=ns0.length
 len_le:len≤ns.length
 keep:∀ (k:Nat) (m:Nat × Int),ns0[k]?=some m→0<m.2→ns[k]?=some m
 idx:n=idxP ns 0 q
 anc:∀ q1 c q2,q=q1++c :: q2→idxP ns 0 q1 ∈ K
 cin:∀ Y,(C Y).inner=(C .e).inner+Y.inner
theorem idxP_congr {ns ns':List (Nat × Int)}:∀ (q:Bits) (i:Nat),(∀ q1 c q2,q=q1++c :: q2→ns'[idxP ns i q1]?=ns[idxP ns i q1]?)→idxP ns' i q=idxP ns i q
 | [],i,h => rfl
 | c :: q,i,h => by
  have h0:=h [] c q rfl
  simp only [idxP] at h0 ⊢
  rw [h0]
  refine idxP_congr q _ fun q1 c' q2 he => ?_
  have:=h (c :: q1) c' q2 (by rw [he];rfl)
  simpa [idxP] using this
theorem snoc_split {q q1 q2:Bits} {c c':Bool} (h:q++[c']=q1++c :: q2):(∃ q3,q=q1++c :: q3)∨q1=q:=by
 rcases List.append_eq_append_iff.1 h with ⟨a,h1,h2⟩ | ⟨a,h1,h2⟩
 ·cases a with
  | nil => right;simpa using h1
  | cons x a =>
   simp only [List.cons_append,List.cons.injEq] at h2
   have:=congrArg List.length h2.2
   simp at this
 ·cases a with
  | nil => right;simpa using h1.symm
  | cons x a =>
   simp only [List.cons_append,List.cons.injEq] at h2
   left
   exact ⟨a,by rw [h1,h2.1]⟩
theorem Wand.id (ns:List (Nat × Int)):Wand ns 0 (fun X => X) []:=fun ns' X' A' _ h => ⟨A',h,by simp⟩
theorem Zip.start {ns0:List (Nat × Int)} {t0:PT} {s:Nat} {path:Bits} {len:Nat} {A:List Nat} (hrep:RepP ns0 0 t0 A) (hnd:A.Nodup) (hb:∀ k ∈ A,k<len) (hc:A.length=len)
  (hz:∀ k,len≤k→k<ns0.length→ns0[k]?=some (0,0)) (hl:len≤ns0.length):Zip ns0 t0 s path [] path ns0 len 0 t0 A (fun X => X) [] :=
 ⟨rfl,hrep,Wand.id _,by simpa using hnd,by simpa using hb,by simpa using hc,by cases t0.ins path s <;> rfl,hz,rfl,hl,fun k m h _ => h,rfl,fun q1 c q2 h => by simp at h,fun Y => by simp [PT.inner]⟩
section
variable {ns0 ns:List (Nat × Int)} {t0:PT} {s:Nat} {path q p:Bits} {len n:Nat} {A K:List Nat} {C:PT→PT}
theorem Zip.right {a b:PT} (z:Zip ns0 t0 s path q (true :: p) ns len n (.n a b) A C K):∃ (c:Nat) (B D:List Nat),ns[n]?.map (·.2)=some (c:Int)∧0<c∧c+1<len ∧
  Zip ns0 t0 s path (q++[true]) p ns len (c+1) b D (fun y => C (.n a y)) (n :: B++K):=by
 obtain ⟨sy,c,B,D,hn,hc,ha,hb,rfl⟩:=z.rep
 have hlt:c+1<len:=z.below _ (by simp [hb.root])
 refine ⟨c,B,D,by rw [hn];rfl,hc,hlt,⟨by rw [z.way];simp,hb,?_,?_,?_,?_,?_,z.zero,z.size,z.len_le,z.keep,?_,?_,fun Y => by rw [z.cin,z.cin (.n _ .e)];simp only [PT.inner];omega⟩⟩
 ·intro ns' X' A' hk hX
  have h1:RepP ns' n (.n a X') (n :: (B++A')):=⟨sy,c,B,A',by rw [hk n (by simp),hn],hc,ha.congr (fun k hk' => hk k (by simp [hk'])),hX,rfl⟩
  obtain ⟨A'',h2,h3⟩:=z.wand ns' (.n a X') _ (fun k hk' => hk k (by simp [hk'])) h1
  refine ⟨A'',h2,h3.trans ?_⟩
  simp only [List.cons_append,List.append_assoc]
  refine (List.Perm.cons n ?_).trans (List.perm_middle.symm)
  rw [← List.append_assoc,← List.append_assoc]
  exact List.Perm.append_right K List.perm_append_comm
 ·refine (List.Perm.nodup_iff ?_).1 z.nodup
  simp only [List.cons_append,List.append_assoc]
  refine (List.Perm.cons n ?_).trans (List.perm_middle.symm)
  rw [← List.append_assoc,← List.append_assoc]
  exact List.Perm.append_right K List.perm_append_comm
 ·intro k hk
  exact z.below k (by simp only [List.mem_append,List.mem_cons] at hk ⊢;rcases hk with h | (h | h) | h <;> simp [h])
 ·have:=z.count;simp only [List.length_append,List.length_cons] at this ⊢;omega
 ·rw [z.ins];simp only [PT.ins,Option.map_map];rfl
 ·rw [idxP_append,← z.idx];simp [idxP,hn]
 ·intro q1 c' q2 he
  rcases snoc_split he with ⟨q3,h3⟩ | h3
  ·have:=z.anc q1 c' q3 h3
   simp [this]
  ·subst h3;rw [← z.idx];simp
theorem Zip.left {a b:PT} (z:Zip ns0 t0 s path q (false :: p) ns len n (.n a b) A C K):∃ (c:Nat) (B D:List Nat),ns[n]?.map (·.2)=some (c:Int)∧0<c∧c+1<len ∧
  Zip ns0 t0 s path (q++[false]) p ns len c a B (fun y => C (.n y b)) (n :: D++K):=by
 obtain ⟨sy,c,B,D,hn,hc,ha,hb,rfl⟩:=z.rep
 have hlt:c+1<len:=z.below _ (by simp [hb.root])
 refine ⟨c,B,D,by rw [hn];rfl,hc,hlt,⟨by rw [z.way];simp,ha,?_,?_,?_,?_,?_,z.zero,z.size,z.len_le,z.keep,?_,?_,fun Y => by rw [z.cin,z.cin (.n .e _)];simp only [PT.inner];omega⟩⟩
 ·intro ns' X' A' hk hX
  have h1:RepP ns' n (.n X' b) (n :: (A'++D)):=⟨sy,c,A',D,by rw [hk n (by simp),hn],hc,hX,hb.congr (fun k hk' => hk k (by simp [hk'])),rfl⟩
  obtain ⟨A'',h2,h3⟩:=z.wand ns' (.n X' b) _ (fun k hk' => hk k (by simp [hk'])) h1
  refine ⟨A'',h2,h3.trans ?_⟩
  simp only [List.cons_append,List.append_assoc]
  exact List.perm_middle.symm
 ·refine (List.Perm.nodup_iff ?_).1 z.nodup
  simp only [List.cons_append,List.append_assoc]
  exact List.perm_middle.symm
 ·intro k hk
  exact z.below k (by simp only [List.mem_append,List.mem_cons] at hk ⊢;rcases hk with h | (h | h) | h <;> simp [h])
 ·have:=z.count;simp only [List.length_append,List.length_cons] at this ⊢;omega
 ·rw [z.ins];simp only [PT.ins,Option.map_map];rfl
 ·rw [idxP_append,← z.idx];simp [idxP,hn]
 ·intro q1 c' q2 he
  rcases snoc_split he with ⟨q3,h3⟩ | h3
  ·have:=z.anc q1 c' q3 h3
   simp [this]
  ·subst h3;rw [← z.idx];simp
end
section
variable {ns0 ns:List (Nat × Int)} {t0:PT} {s:Nat} {path q p:Bits} {len n:Nat} {A K:List Nat} {C:PT→PT}
theorem Zip.here {X:PT} (z:Zip ns0 t0 s path q p ns len n X A C K):n<len:=z.below n (by simp [z.rep.root])
theorem Zip.open_ {c:Bool} (z:Zip ns0 t0 s path q (c :: p) ns len n .e A C K) (hl:len+2≤ns.length):∃ sy:Nat,ns[n]?=some (sy,0) ∧
  Zip ns0 t0 s path q (c :: p) (ns.set n (sy,(len:Int))) (len+2) n (.n .e .e) [n,len,len+1] C K:=by
 have hn:=z.here
 obtain ⟨rfl,sy,hs⟩:=z.rep
 have hnl:n<ns.length:=by have:=z.len_le;omega
 refine ⟨sy,hs,⟨z.way,?_,?_,?_,?_,?_,?_,?_,by rw [List.length_set];exact z.size,by rw [List.length_set];omega,?_,z.idx.trans ?_,?_,z.cin⟩⟩
 ·refine ⟨sy,len,[len],[len+1],by simp [hnl],by omega,⟨rfl,0,?_⟩,⟨rfl,0,?_⟩,rfl⟩
  ·rw [List.getElem?_set_ne (by omega)];exact z.zero len (by omega) (by omega)
  ·rw [List.getElem?_set_ne (by omega)];exact z.zero (len+1) (by omega) (by omega)
 ·intro ns' X' A' hk hX
  refine z.wand ns' X' A' (fun k hk' => ?_) hX
  rw [hk k hk',List.getElem?_set_ne]
  rintro rfl
  have:=z.nodup
  simp [hk'] at this
 ·have h1:=z.nodup
  simp only [List.cons_append,List.nil_append,List.nodup_cons,List.mem_cons] at h1 ⊢
  refine ⟨fun h => ?_,fun h => ?_,fun h => ?_,h1.2⟩
  ·rcases h with h | h | h
   ·omega
   ·omega
   ·exact h1.1 h
  ·rcases h with h | h
   ·omega
   ·have:=z.below len (by simp [h]);omega
  ·have:=z.below (len+1) (by simp [h]);omega
 ·intro k hk
  simp only [List.cons_append,List.nil_append,List.mem_cons] at hk
  rcases hk with rfl | rfl | rfl | hk
  ·omega
  ·omega
  ·omega
  ·have:=z.below k (by simp [hk]);omega
 ·have:=z.count;simp only [List.cons_append,List.nil_append,List.length_cons] at this ⊢;omega
 ·rw [z.ins];cases c <;> rfl
 ·intro k h1 h2
  rw [List.length_set] at h2
  rw [List.getElem?_set_ne (by omega)]
  exact z.zero k (by omega) h2
 ·intro k m hm hpos
  have:=z.keep k m hm hpos
  rw [List.getElem?_set]
  by_cases hkn:n=k
  ·subst hkn
   rw [hs] at this
   simp only [Option.some.injEq] at this
   subst this
   simp at hpos
  ·rw [if_neg hkn];exact this
 ·exact (idxP_congr q 0 fun q1 c' q2 he => by
   rw [List.getElem?_set_ne]
   rintro rfl
   have h1:=z.anc q1 c' q2 he
   have h2:=z.nodup
   simp [h1] at h2).symm
 ·intro q1 c' q2 he
  have:idxP (ns.set n (sy,(len:Int))) 0 q1=idxP ns 0 q1:=idxP_congr q1 0 fun q3 c3 q4 he3 => by
   rw [List.getElem?_set_ne]
   rintro rfl
   have h1:=z.anc q3 c3 (q4++c' :: q2) (by rw [he,he3];simp)
   have h2:=z.nodup
   simp [h1] at h2
  rw [this]
  exact z.anc q1 c' q2 he
end
section
variable {ns0 ns:List (Nat × Int)} {t0:PT} {s:Nat} {path q p:Bits} {len n:Nat} {A K:List Nat} {C:PT→PT}
theorem Zip.stable {X:PT} (z:Zip ns0 t0 s path q p ns len n X A C K) (m:Nat × Int) {q':Bits} (hq:q' <+: q):idxP (ns.set n m) 0 q'=idxP ns 0 q':=by
 obtain ⟨r,rfl⟩:=hq
 refine idxP_congr q' 0 fun q1 c' q2 he => ?_
 rw [List.getElem?_set_ne]
 rintro rfl
 have h1:=z.anc q1 c' (q2++r) (by rw [he];simp)
 have h2:=z.nodup
 have h3:=z.rep.root
 rw [List.nodup_append] at h2
 exact h2.2.2 _ h3 _ h1 O
structure Bld (ns:List (Nat × Int)) (len:Nat) (t:PT) (lut:Nat→Nat):Prop where
 rep:∃ A,RepP ns 0 t A∧A.Nodup∧(∀ k ∈ A,k<len)∧A.length=len
 zero:∀ k,len≤k→k<ns.length→ns[k]?=some (0,0)
 len_le:len≤ns.length
 lutP:LutP ns t lut
def lutIns (lut:Nat→Nat) (s:Nat) (path:Bits) (i7:Nat):Nat→Nat:=fun x =>
 if path.length≤7 then (if x % 2 ^ path.length=val path then s * 256+path.length+1 else lut x)
 else if x=val (path.take 7) then (if lut x=0 then i7 * 256 else lut x) else lut x
theorem Zip.finish {X:PT} {lut:Nat→Nat} (z:Zip ns0 t0 s path path [] ns len n X A C K) (hX:∀ a b,X≠.n a b) (hs:s<65536) (b:∃ len0,Bld ns0 len0 t0 lut) :
  ∃ t',t0.ins path s=some t'∧Bld (ns.set n (s,-1)) len t' (lutIns lut s path (idxP ns 0 (path.take 7))):=by
 obtain ⟨len0,b⟩:=b
 have hn:=z.here
 have hnl:n<ns.length:=by have:=z.len_le;omega
 have hA:A=[n]:=by
  cases X with
  | e => exact z.rep.1
  | l _ => exact z.rep.1
  | n a b => exact absurd rfl (hX a b)
 have hnode:∃ m:Nat × Int,ns[n]?=some m∧¬ 0<m.2:=by
  cases X with
  | e => obtain ⟨_,sy,h⟩:=z.rep;exact ⟨_,h,by simp⟩
  | l _ => exact ⟨_,z.rep.2,by simp⟩
  | n a b => exact absurd rfl (hX a b)
 have hins:t0.ins path s=some (C (.l s)):=by
  rw [z.ins]
  cases X with
  | e => rfl
  | l _ => rfl
  | n a b => exact absurd rfl (hX a b)
 subst hA
 have hnK:n ∉ K:=by have:=z.nodup;simp at this;exact this.1
 obtain ⟨A'',hr,hp⟩:=z.wand (ns.set n (s,-1)) (.l s) [n] (fun k hk => List.getElem?_set_ne (fun e => hnK (by rw [e];exact hk))) ⟨rfl,by simp [hnl]⟩
 have keep2:∀ (k:Nat) (m:Nat × Int),ns0[k]?=some m→0<m.2→∃ s':Nat,(ns.set n (s,-1))[k]?=some (s',m.2):=by
  intro k m hm hpos
  have h1:=z.keep k m hm hpos
  refine ⟨m.1,?_⟩
  rw [List.getElem?_set]
  by_cases hk:n=k
  ·subst hk
   obtain ⟨m',h2,h3⟩:=hnode
   rw [h2] at h1
   simp only [Option.some.injEq] at h1
   subst h1
   exact absurd hpos h3
  ·rw [if_neg hk];exact h1
 refine ⟨C (.l s),hins,⟨⟨A'',hr,hp.symm.nodup z.nodup,fun k hk => z.below k (hp.subset hk),by rw [hp.length_eq];exact z.count⟩,?_,by rw [List.length_set];exact z.len_le,?_⟩⟩
 ·intro k h1 h2
  rw [List.length_set] at h2
  rw [List.getElem?_set_ne (by omega)]
  exact z.zero k h1 h2
 ·obtain ⟨A0,hr0,_⟩:=b.rep
  intro x hx
  have hq:(bitsN x 7).length=7:=bnl x 7
  have old:=b.lutP x hx
  have aside:Aside path (bitsN x 7)→LutPAt (ns.set n (s,-1)) (bitsN x 7) (lut x) ((C (.l s)).obs (bitsN x 7)):=by
   intro ha
   rw [PT.ins_obs_aside t0 path _ s _ hins ha]
   cases ho:t0.obs (bitsN x 7) with
   | leaf s' k => rw [ho] at old;exact old
   | empty => rw [ho] at old;exact old
   | inner =>
    rw [ho] at old
    show lut x=_
    rw [hr0.idx_same _ ho keep2]
    exact old
  unfold lutIns
  by_cases h7:path.length≤7
  ·simp only [if_pos h7]
   by_cases hv:x % 2 ^ path.length=val path
   ·rw [if_pos hv]
    obtain ⟨r,hr⟩:=(prefix_iff h7).2 hv
    have hrl:path.length+r.length=7:=by rw [← hq,← hr,List.length_append]
    rw [← hr,PT.ins_obs_under t0 path s _ hins r]
    exact ⟨hs,by omega⟩
   ·rw [if_neg hv]
    refine aside ⟨fun h => hv ((prefix_iff h7).1 h),fun h => hv ((prefix_iff h7).1 ?_)⟩
    have:=List.IsPrefix.eq_of_length_le h (by omega)
    rw [this]
    exact List.prefix_refl _
  ·simp only [if_neg h7]
   have hlong:¬ path <+: bitsN x 7:=fun h => h7 (by rw [← hq];exact h.length_le)
   by_cases hv:x=val (path.take 7)
   ·rw [if_pos hv]
    have hpre:=(prefix7_iff hx (by omega)).2 hv
    have htake:path.take 7=bitsN x 7:=by
     have:=List.prefix_iff_eq_take.1 hpre
     rw [hq] at this
     exact this.symm
    obtain ⟨r,hr⟩:=hpre
    cases r with
    | nil => exact absurd (by rw [← hr];simp) hlong
    | cons c r =>
     have hin:(C (.l s)).obs (bitsN x 7)=.inner:=PT.ins_obs_above t0 (bitsN x 7) c r s _ (by rw [hr];exact hins)
     rw [hin]
     have hst:idxP (ns.set n (s,-1)) 0 (bitsN x 7)=idxP ns 0 (bitsN x 7):=z.stable _ ⟨c :: r,hr⟩
     show _=_
     rw [hst,htake]
     by_cases h0:lut x=0
     ·rw [if_pos h0]
     ·rw [if_neg h0]
      cases ho:t0.obs (bitsN x 7) with
      | leaf s' k => exact absurd ho (prefix_of_obs_leaf t0 path _ s _ hins ⟨c :: r,hr⟩ (fun e => hlong (e ▸ List.prefix_refl _)) s' k)
      | empty => rw [ho] at old;exact absurd old h0
      | inner =>
       rw [ho] at old
       rw [← hst,hr0.idx_same _ ho keep2]
       exact old
   ·rw [if_neg hv]
    exact aside ⟨hlong,fun h => hv ((prefix7_iff hx (by omega)).1 h)⟩
theorem Zip.odd {X:PT} (z:Zip ns0 t0 s path q p ns len n X A C K):len=2 * (C X).inner+1:=by
 obtain ⟨A'',h1,h2⟩:=z.wand ns X A (fun _ _ => rfl) z.rep
 rw [← h1.count,h2.length_eq,z.count]
theorem PT.ins_inner:∀ (p:Bits) (c:Bool) (s:Nat) (t':PT),PT.e.ins (c :: p) s=some t'→1≤t'.inner:=by
 intro p c s t' h
 cases c <;> simp only [PT.ins,Option.map_eq_some_iff] at h <;> (obtain ⟨u,_,rfl⟩:=h;simp only [PT.inner];omega)
theorem Zip.stuck_room {c:Bool} (z:Zip ns0 t0 s path q (c :: p) ns len n .e A C K):∀ t',t0.ins path s=some t'→len<2 * t'.inner+1:=by
 intro t' h
 rw [z.ins,Option.map_eq_some_iff] at h
 obtain ⟨Y,hY,rfl⟩:=h
 have h1:=PT.ins_inner p c s Y hY
 have h2:=z.odd
 have h3:=z.cin Y
 omega
theorem Zip.stuck_end {a b:PT} (z:Zip ns0 t0 s path q [] ns len n (.n a b) A C K):t0.ins path s=none:=by rw [z.ins];rfl
theorem Zip.stuck_leaf {s':Nat} {c:Bool} (z:Zip ns0 t0 s path q (c :: p) ns len n (.l s') A C K):t0.ins path s=none:=by rw [z.ins];rfl
end
end Go.Proofs.YtinkhckpckfajaaDoor
