/-
  A picture is written and read: part 13 of 13 (SLaw).
-/
import Derived.Test.YtmgemcffhbnpfaaGreatDoorA12
set_option linter.unusedVariables false
set_option linter.unusedSimpArgs false
set_option maxRecDepth 100000
set_option maxHeartbeats 1000000
namespace Go.Proofs.YtmgemcffhbnpfaaGreatDoor
open Go
def K8 (v:Value) (n:Nat) (w:World):Prop:=∃ a c,v=.slice a n c∧(n=0∨∃ sb so,∃ bs:List Nat,a=some ⟨sb,so,none⟩∧n=bs.length∧(∀ j (h:j<bs.length),w.cell? ⟨sb,so+j,none⟩=some (.int .u8 (bs[j]:Nat)))∧∀ c ∈ bs,c<256)
theorem K8.val {v:Value} {n:Nat} {w:World} (h:K8 v n w):∃ a c,v=.slice a n c:=by obtain ⟨a,c,e,_⟩:=h;exact ⟨a,c,e⟩
theorem x8 {a b:Nat} (h:a<256∧b<256):KV .u8 (a:Int) (b:Int)=((a ^^^ b:Nat):Int):=by
 have h2:a ^^^ b<2 ^ 8:=Nat.xor_lt_two_pow h.1 h.2
 show IntKind.u8.wrap ((BitVec.ofInt 8 _ ^^^ BitVec.ofInt 8 _).toNat:Int)=_
 rw [Kj ω ω,yl ω]
def pE (s:List Nat):RS:=⟨fi s,false,false⟩
theorem St.rdr0 {w0 w:World} {S:List Nat} {rb sb so c:Nat} {s:List Nat} (H:St w0 S [aa rb (G_ sb so c s 0 false false) 58] w):St w0 S [cy rb sb so c s (pE s)] w :=
 zM (rs:=[aa rb (G_ sb so c s 0 false false) 58]) (l:=[]) H (fun h => ⟨0,Nat.zero_le _,rfl,h _ (List.mem_cons_self ..)⟩) (eM _ _ _ _ _ _) fun b hb => ⟨_,List.mem_cons_self ..,hb⟩
theorem B_ (W:World) (sb so c:Nat) (s:List Nat) (I:xo sb so s W) (hsb:sb<W.heap.size) :
  Calls Tryz.prog 22 #[.slice (some ⟨sb,so,none⟩) s.length c] W fun e w' => e=.returned (.tuple #[iT ((jF (pE s)).1.1),iT ((jF (pE s)).1.2),.bool (!(jF (pE s)).2.f)])∧cf [] W w':=by
 have H:St W [] [] W:=St.nil W []
 refine enter (m:=12) Tryz.func22 O Tryz.ntmps22 O (Cy (az O (az O (cU O (Lt (Cy (bU O (Lp (iF (ps:=[(0,.slice (some ⟨sb,so,none⟩) s.length c)]) (G_ sb so c s 0 false false) O κ) (fM H (cs:=G_ sb so c s 0 false false) O O O ?_)))))))))
 intro w rb hn hb H
 replace H:=H.rdr0
 refine aS O FX (vC w rb sb so c s (pE s) (H.get (i:=0) O) (I.keep H.frm List.not_mem_nil) ω) O ?_
 rintro e w ⟨s0,he,hP,_,_,hf⟩
 replace H:=H.rdr 0 rfl hP hf
 refine ⟨_,he,?_⟩
 refine av O O (av O O (av O O (az O (az O (cU O (Lt (Ct ?_)))))))
 exact km O O O O ⟨O,H.frm⟩
theorem AU (W:World) (sb so c:Nat) (s:List Nat) (I:xo sb so s W) (hsb:sb<W.heap.size) (hsm:(jF (pE s)).2.f=false→(jF (pE s)).1.1 * (jF (pE s)).1.2≤1000000) :
  Calls Tryz.prog 9 #[.slice (some ⟨sb,so,none⟩) s.length c] W fun e w' => ∃ v1 v2 v3 v4,e=.returned (.tuple #[v1,v2,v3,v4,.bool (!(iu (pE s)).2.f)])∧cf [] W w' ∧
   ((iu (pE s)).2.f=false→v1=iT ((iu (pE s)).1.1.1)∧v2=iT ((iu (pE s)).1.1.2)∧∃ a cap out,v3=.slice a out.length cap∧bT w' a cap 36 1 out.length (nums .u32 out)∧out.length=(iu (pE s)).1.1.1 * (iu (pE s)).1.1.2∧(∀ p ∈ out,p<2 ^ 32) ∧
    (lR (iu (pE s)).1.2.1→out=ge (iu (pE s)).1.1.2 (iu (pE s)).1.2.1 (iu (pE s)).1.2.2)):=by
 have H:St W [] [] W:=St.nil W []
 refine enter (m:=16) Tryz.func9 O Tryz.ntmps9 O (Cy (az O (az O (bI O (az O (cU O (Lt (Cy (bU O (Lp (iF (ps:=[(0,.slice (some ⟨sb,so,none⟩) s.length c)]) (G_ sb so c s 0 false false) O κ) (fM H (cs:=G_ sb so c s 0 false false) O O O ?_)))))))))))
 intro w rb hn hb H
 replace H:=H.rdr0
 refine aS O GW (uZ w rb sb so c s (pE s) (H.get (i:=0) O) (I.keep H.frm List.not_mem_nil) ω hsm) O ?_
 rintro e w ⟨v1,v2,v3,v4,s0,he,hP,_,hf,hV⟩
 replace H:=H.rdr 0 rfl hP hf
 refine ⟨_,he,?_⟩
 refine av O O (av O O (av O O (av O O (av O O (bI O (bI O (bI O (bI O (cU O (Lt (Ct ?_)))))))))))
 exact mL O O O O O O ⟨v1,v2,v3,v4,O,H.frm,fun h => by
  obtain ⟨h1,h2,a,cap,out,h3,h4,_,h5⟩:=hV h
  exact ⟨h1,h2,a,cap,out,h3,h4,h5⟩⟩
theorem xI (W:World) (sb so c:Nat) (s:List Nat) (I:xo sb so s W) (hsb:sb<W.heap.size) (hsm:(jF (pE s)).2.f=false→(jF (pE s)).1.1 * (jF (pE s)).1.2≤1000000) :
  Calls Tryz.prog 10 #[.slice (some ⟨sb,so,none⟩) s.length c] W fun e w' => e=.returned (.bool (!(iu (pE s)).2.o))∧cf [] W w':=by
 have H:St W [] [] W:=St.nil W []
 refine enter (m:=14) Tryz.func10 O Tryz.ntmps10 O (Cy (cU O (Lt (Cy (bU O (Lp (iF (ps:=[(0,.slice (some ⟨sb,so,none⟩) s.length c)]) (G_ sb so c s 0 false false) O κ) (fM H (cs:=G_ sb so c s 0 false false) O O O ?_)))))))
 intro w rb hn hb H
 replace H:=H.rdr0
 refine Lp (nd O) (Lt (Cy (bH O (aS O GW (uZ w rb sb so c s (pE s) (H.get (i:=0) O) (I.keep H.frm List.not_mem_nil) ω hsm) O ?_))))
 rintro e w ⟨v1,v2,v3,v4,s0,he,hP,ho,hf,hV⟩
 replace H:=H.rdr 0 rfl hP hf
 simp only [List.set] at H
 refine ⟨_,he,?_⟩
 refine Lt (Cy (bH O (aK O (aU gC O (aC jz O (H.rdO 0 O) (Lp (fT O) (cU O (Lt (Ct ?_)))))))))
 exact ak O O ⟨by rw [ho];rfl,H.frm⟩
theorem yD (W:World) (sb so c:Nat) (s:List Nat) (I:xo sb so s W) (hsb:sb<W.heap.size) :
  Calls Tryz.prog 7 #[.slice (some ⟨sb,so,none⟩) s.length c] W fun e w' => ∃ b,e=.returned (.bool b)∧cf [] W w'∧(b=true→(jF (pE s)).2.f=false→(jF (pE s)).1.1 * (jF (pE s)).1.2≤1000000):=by
 have H:St W [] [] W:=St.nil W []
 obtain ⟨q,s1,eH⟩:∃ q s1,jF (pE s)=(q,s1):=⟨_,_,rfl⟩
 have hh:=B_ W sb so c s I hsb
 have hrng:=xu (pE s)
 rw [eH] at hh hrng ⊢
 obtain ⟨⟨hw1,hw⟩,hh1,hh2⟩:=hrng
 have hm:=Nat.mul_le_mul hw hh2
 simp only at hh hw1 hw hh1 hh2 hm ⊢
 refine enter (m:=20) Tryz.func7 O Tryz.ntmps7 O (Cy (cU O (Lt ?_)))
 cases hf1:s1.f with
 | true =>
  rw [hf1] at hh
  refine Cy (bU O (aS O HZ hh O ?_))
  rintro e w ⟨he,hf⟩
  refine ⟨_,he,?_⟩
  refine gr O (av O O (av O O (av O O (az O (az O (cU O (Lt (Cy (dh O (Lp (fT O) (dh O (Lk (Lk (Lk (Lk (ay O O (cU O ?_)))))))))))))))))
  refine Lt (Ct ?_)
  exact ak O O ⟨true,O,hf,fun _ h => by cases h⟩
 | false =>
  rw [hf1] at hh
  refine Cy (bU O (aS O HZ hh O ?_))
  rintro e w ⟨he,hf⟩
  refine ⟨_,he,?_⟩
  refine gr O (av O O (av O O (av O O (az O (az O (cU O (Lt (Cy (dh O (Lp (fT O) (dh O (Lg (YI O) (Lg (YI O) (Lg (cX (r:=((q.1 * q.2:Nat):Int)) O O (pK ω)) (Lg (uz (b:=decide (q.1 * q.2≤20000)) O O (decide_eq_decide.2 ω)) (ay O O (cU O ?_)))))))))))))))))
  refine Lt (Ct ?_)
  exact ak O O ⟨decide (q.1 * q.2≤20000),O,hf,fun h _ => by have:=of_decide_eq_true h;omega⟩
theorem kp (W:World) (G:Gl W):Calls Tryz.prog 8 #[] W fun e w' => e=.returned (.bool true)∧cf [] W w':=by
 have H:St W [] [] W:=St.nil W []
 refine enter (m:=5) Tryz.func8 O Tryz.ntmps8 O (Cy (cU O (Lt (Cy (cH H gj (nums .u32 [4278256131]) O O δ δ κ ?_)))))
 intro w b1 hn1 hb1 H
 have I1:FG b1 0 [4278256131] w:=⟨na (H.blk (i:=0) rfl),by simp,(H.blk (i:=0) rfl).lt⟩
 refine ul (px:=[4278256131]) (n:=0) (wd:=1) (ht:=1) (G.keep0 H.frm) I1 δ O δ δ δ ⟨none,0,O,.inl rfl⟩ δ O O O O O ?_
 intro w2 X sb sc hf2 hR I hsb hsc hX _ _
 obtain ⟨R',hdec⟩:=FS hR
 replace H:=H.quiet hf2
 refine cH (St.nil w2 []) gj (nums .u32 [4278256131]) O O δ δ κ ?_
 intro w3 b3 hn3 hb3 H3
 refine LI (px:=[4278256131]) (I.keep0 H3.frm) ⟨na (H3.blk (i:=0) O),by simp,(H3.blk (i:=0) O).lt⟩ hdec O O O O O ?_
 intro w4 hf4
 refine cU O (Lt (Ct ?_))
 exact ak O O ⟨O,(H.frm.trans H3.frm).trans hf4⟩
end Go.Proofs.YtmgemcffhbnpfaaGreatDoor
