/-
  A picture is written and read: part 11 of 13 (SpecB, SpecD, SpecE, Rd, MapTwo, STree, SLens, STr).
-/
import Derived.Test.YtmgemcffhbnpfaaGreatDoorA10
import Derived.WideKeyPair
set_option linter.unusedVariables false
set_option linter.unusedSimpArgs false
set_option maxRecDepth 100000
namespace Go.Proofs.YtmgemcffhbnpfaaGreatDoor
theorem B3 (n:Nat) (own:List Nat) (hl:own.length=19) (h15:∀ x ∈ own,x≤15) :
  Ag (fun a b => a=b∧a.length=n∧∀ x ∈ a,x≤15) (cW (ot n) fun left => cW (kg own) fun own => cW (cT own n n [] left 8) fun l => fW (sQ n l)) (mf n own):=by
 refine y3 ?_ (s9 n own)
 cases hk:CX own with
 | true =>
  obtain ⟨t,ht,ha⟩:=AL h15 hk
  rw [ht]
  refine Ag.bind (GI n) (fun left => (jK _).bind fun own => (fk _ _ _ _ _ _).bind fun l => ce.ret _) fun left left' hleft => ?_
  subst hleft
  have he:(cW (kg own) fun own => cW (cT own n n [] left 8) fun l => fW (sQ n l))=cW (cT own n n [] left 8) fun l => fW (sQ n l):=by
   funext s
   simp only [cW,kg,hk,Bool.not_true,Bool.false_eq_true,if_false]
  rw [he]
  have h:=p9 n ha hl n [] left 8 (by simp) (by simp) (by simp) ω
  refine y3 (p:=pb (il t n n [] left 8) ret) (Ag.bind h (fun l => ce.ret _) fun a b hab => Ag.ret ⟨hab.1,by rw [hab.1];exact hab.2.1,by rw [hab.1];exact hab.2.2⟩) fun R => ?_
  unfold pb
  cases il t n n [] left 8 R with
  | none => rfl
  | some q => rfl
 | false =>
  intro R ho
  have hf:∀ s,(cW (ot n) (fun left => cW (kg own) fun own => cW (cT own n n [] left 8) fun l => fW (sQ n l)) s).2.f=true:=fun s => by
   have h1:∀ left s,(cW (kg own) (fun own => cW (cT own n n [] left 8) fun l => fW (sQ n l)) s).2.f=true:=fun left s => by
    unfold cW kg
    simp only [hk,Bool.not_false,if_true]
    exact (fk own n n [] left 8 _).1 O
   exact h1 _ _
  refine ⟨fun h => (by rw [hf] at h;cases h),fun _ => ?_⟩
  cases hov:qw own with
  | true =>
   have h1:(cW (ot n) (fun left => cW (kg own) fun own => cW (cT own n n [] left 8) fun l => fW (sQ n l)) ⟨R,false,false⟩).2.o=true:=by
    have h2:∀ left s,(cW (kg own) (fun own => cW (cT own n n [] left 8) fun l => fW (sQ n l)) s).2.o=true:=fun left s => by
     unfold cW kg
     simp only [hk,Bool.not_false,if_true]
     exact (fk own n n [] left 8 _).2 (by simp [RS.bad,hov])
    exact h2 _ _
   rw [h1] at ho
   cases ho
  | false =>
   rw [wW h15 hk hov]
   rfl
def zr (n:Nat):jh (List Nat):=pb (rd 4) fun nc => if 19<nc+4 then no else pb (lG (nc+4) 0 (fun _ => 0)) fun f => mf n ((List.range 19).map f)
theorem Ah (A:Nat) (R:aM):kv A R=pb (zr A) (fun ls => xQ (dX ls)) R:=by
 unfold kv zr
 rw [eR]
 congr 1
 funext nc
 funext R
 split
 ·rfl
 ·rw [eR]
theorem Hq (n:Nat):Ag (fun a b => a=b∧a.length=n∧∀ x ∈ a,x≤15) (nE n) (zr n):=by
 refine jq (fun nc => nc<16) (Ag.sb 4) (fun s => fG 4 s) (fun nc => (sT _ _ _).bind fun f => (ui n).bind fun left => (jK _).bind fun own => (fk _ _ _ _ _ _).bind fun l => ce.ret _) fun nc nc' h hnc => ?_
 subst h
 rw [if_neg ω]
 refine Ag.bind (Ev _ _ _ (fun _ => Nat.zero_le _)) (fun f => (ui n).bind fun left => (jK _).bind fun own => (fk _ _ _ _ _ _).bind fun l => ce.ret _) fun f f' hf => ?_
 obtain ⟨rfl,hf⟩:=hf
 exact B3 n _ (by simp) fun x hx => by
  obtain ⟨j,_,rfl⟩:=List.mem_map.1 hx
  exact hf j
theorem js (m a:Nat) (b:Option Nat):(gd m a b).length=m:=by simp [gd]
theorem uK {m a j:Nat} {b:Option Nat} (hj:j<m):(gd m a b).getD j 0=if j=a∨some j=b then 1 else 0:=by simp [gd,hj]
theorem rk (m a:Nat) (b:Option Nat):∀ x ∈ gd m a b,x≤1:=fun x hx => by
 obtain ⟨j,_,rfl⟩:=List.mem_map.1 hx
 split <;> omega
theorem mA {m n a:Nat} {b:Option Nat} (h:n≤m):(gd m a b).take n=gd n a b:=by
 unfold gd
 rw [← List.map_take,List.take_range,Nat.min_eq_left h]
theorem o7 (m a:Nat):∀ b:Option Nat,b≠some a→(gd m a b).countP (·≠0)=(if a<m then 1 else 0)+(match b with | some x => if x<m then 1 else 0 | none => 0):=by
 intro b hb
 induction m with
 | zero => cases b <;> simp [gd]
 | succ m ih =>
  have h1:gd (m+1) a b=gd m a b++[if m=a∨some m=b then 1 else 0]:=by
   unfold gd
   rw [List.range_succ,List.map_append]
   rfl
  rw [h1,List.countP_append,ih]
  cases b with
  | none =>
   by_cases h2:m=a
   ·subst h2;simp
   ·have:(a<m+1) ↔ (a<m):=ω
    simp [h2,this]
  | some x =>
   have hxa:x≠a:=fun h => hb (by rw [h])
   by_cases h2:m=a
   ·subst h2
    have:(x<m+1) ↔ (x<m):=ω
    simp [this]
    omega
   ·have h3:(a<m+1) ↔ (a<m):=ω
    by_cases h4:m=x
    ·subst h4
     simp [h3]
    ·have h5:(x<m+1) ↔ (x<m):=ω
     simp [h2,h3,h4,h5]
theorem xx:∀ (ls:List Nat),(∀ x ∈ ls,x≤1)→eD ls=16384 * ls.countP (·≠0)
 | [],_ => rfl
 | a :: r,h => by
  have ih:=xx r fun x hx => h x (List.mem_cons_of_mem _ hx)
  have ha:=h a (by simp)
  unfold eD at ih ⊢
  rw [List.map_cons,List.sum_cons,ih]
  rcases (by omega:a=0∨a=1) with rfl | rfl
  ·simp [room]
  ·simp [room];omega
theorem ys {A first:Nat} (sec:Option Nat) (h1:first<256) (hA:1≤A) (h2:∀ x,sec=some x→first<x∧x<256) :
  Ag (qE A) (cW (fun s => ((gd (max A 256) first sec).take A,if ((gd (max A 256) first sec).drop A).any (0<·) then s.fail else s)) kg) (xQ (match sec with | none => eU 1 first 0 A | some x => eU 2 first x A)):=by
 have hm:A≤max A 256:=Nat.le_max_left _ _
 have hm2:256≤max A 256:=Nat.le_max_right _ _
 have hbad:∀ j,A≤j→j<256→(j=first∨some j=sec)→((gd (max A 256) first sec).drop A).any (0<·)=true:=fun j hj1 hj2 hj => by
  rw [List.any_eq_true]
  refine ⟨1,?_,by simp⟩
  rw [List.mem_iff_getElem?]
  refine ⟨j - A,?_⟩
  rw [List.getElem?_drop,show A+(j - A)=j by omega]
  unfold gd
  rw [List.getElem?_map,List.getElem?_range ω]
  simp only [Option.map_some,hj,if_true]
 have hfail:((gd (max A 256) first sec).drop A).any (0<·)=true→Ag (qE A) (cW (fun s => ((gd (max A 256) first sec).take A,if ((gd (max A 256) first sec).drop A).any (0<·) then s.fail else s)) kg) (no:jh T):=fun hb R ho => by
  have hf:(cW (fun s => ((gd (max A 256) first sec).take A,if ((gd (max A 256) first sec).drop A).any (0<·) then s.fail else s)) kg ⟨R,false,false⟩).2.f=true:=by
   unfold cW
   simp only [hb,if_true]
   exact (jK _ _).1 O
  exact ⟨fun h => (by rw [hf] at h;cases h),fun _ => rfl⟩
 have hgood:(∀ j,A≤j→¬ (j=first∨some j=sec))→((gd (max A 256) first sec).drop A).any (0<·)=false:=fun hg => by
  rw [List.any_eq_false]
  intro x hx
  rw [List.mem_iff_getElem?] at hx
  obtain ⟨i,hi⟩:=hx
  rw [List.getElem?_drop] at hi
  unfold gd at hi
  rw [List.getElem?_map,Option.map_eq_some_iff] at hi
  obtain ⟨j,hj,hx⟩:=hi
  have hj2:=List.getElem?_eq_some_iff.1 hj
  obtain ⟨hj3,hj4⟩:=hj2
  rw [List.getElem_range] at hj4
  subst hj4
  rw [if_neg (hg _ ω)] at hx
  subst hx
  simp
 have hsimp:((gd (max A 256) first sec).drop A).any (0<·)=false→(cW (fun s => ((gd (max A 256) first sec).take A,if ((gd (max A 256) first sec).drop A).any (0<·) then s.fail else s)) kg)=kg (gd A first sec):=fun hb => by
  funext s
  unfold cW
  simp only [hb,Bool.false_eq_true,if_false]
  rw [mA hm]
 have h15:∀ x ∈ gd A first sec,x≤15:=fun x hx => by have:=rk A first sec x hx;omega
 cases sec with
 | none =>
  simp only
  by_cases hf:first<A
  ·rw [hsimp (hgood fun j hj hh => by simp at hh;omega)]
   have hc:(gd A first none).countP (·≠0)=1:=by rw [o7 _ _ _ (by simp)];simp [hf]
   have hb:=sz hc (s:=first) (by rw [js];exact hf) (by rw [uK hf];simp)
   have:=zv (A:=A) h15 (js _ _ _)
   rw [hb] at this
   have hs:eU 1 first 0 A=some (.leaf first):=by simp [eU,hf]
   rw [hs]
   exact this
  ·have hs:eU 1 first 0 A=none:=by simp [eU,hf]
   rw [hs]
   exact hfail (hbad first ω h1 (.inl O))
 | some x =>
  obtain ⟨hx1,hx2⟩:=h2 x rfl
  simp only
  by_cases hf:x<A
  ·rw [hsimp (hgood fun j hj hh => by simp at hh;omega)]
   have hfA:first<A:=ω
   have hc:(gd A first (some x)).countP (·≠0)=2:=by rw [o7 _ _ _ (by simp;omega)];simp [hf,hfA]
   have hkr:eD (gd A first (some x))=2 ^ 15:=by rw [xx _ (rk _ _ _),hc]
   have hs:eU 2 first x A=some (.node (.leaf first) (.leaf x)):=by simp [eU,hf,hfA]
   obtain ⟨u,hu,hcode,hread,_⟩:=tV ω h15 hkr
   have hag:=zv (A:=A) h15 (js _ _ _)
   rw [hu] at hag
   rw [hs]
   have hlen:=js A first (some x)
   have gF:(gd A first (some x)).getD first 0=1:=by rw [uK hfA];simp
   have gX:(gd A first (some x)).getD x 0=1:=by rw [uK hf];simp
   have hcnt:∀ ls:List Nat,(∀ y ∈ ls,y≤1)→ls.count 1=ls.countP (·≠0):=fun ls hls => by
    rw [List.count]
    refine List.countP_congr fun y hy => ?_
    have:=hls y hy
    simp
    omega
   have sF:dq (gd A first (some x)) first=0:=by
    unfold dq
    rw [gF,mA ω,hcnt _ (rk _ _ _),o7 _ _ _ (by simp;omega)]
    have:¬ x<first:=ω
    simp [us,this]
   have sX:dq (gd A first (some x)) x=1:=by
    unfold dq
    rw [gX,mA ω,hcnt _ (rk _ _ _),o7 _ _ _ (by simp;omega)]
    simp [us,hx1]
   have pF:aB (cS (gd A first (some x)) first) 1=[false]:=by
    have:=mZ (gd A first (some x)) first (by rw [gF];decide)
    rw [gF] at this
    rw [← this,sF,lq]
    rfl
   have pX:aB (cS (gd A first (some x)) x) 1=[true]:=by
    have:=mZ (gd A first (some x)) x (by rw [gX];decide)
    rw [gX] at this
    rw [← this,sX,lq]
    rfl
   have hw:∀ R,(T.node (.leaf first) (.leaf x)).walk R=u.walk R:=fun R => by
    match R with
    | [] =>
     cases hn:u.walk [] with
     | none => rfl
     | some q =>
      exfalso
      obtain ⟨y,R'⟩:=q
      obtain ⟨s,hs1,hs2,hs3⟩:=hread _ _ _ hn
      have:=congrArg List.length hs3
      rw [List.length_append,bV] at this
      simp only [List.length_nil] at this
      omega
    | true :: R =>
     have:=hcode x (by rw [hlen];exact hf) (by rw [gX];decide) R
     rw [gX,pX] at this
     rw [show (true :: R)=[true]++R from rfl,this]
     rfl
    | false :: R =>
     have:=hcode first (by rw [hlen];exact hfA) (by rw [gF];decide) R
     rw [gF,pF] at this
     rw [show (false :: R)=[false]++R from rfl,this]
     rfl
   intro R ho
   obtain ⟨a,b⟩:=hag R ho
   refine ⟨fun h => ?_,fun h => by have:=b h;cases this⟩
   obtain ⟨v,hv,hr1,hr2⟩:=a h
   obtain ⟨rfl,hR⟩:=iY hv
   refine ⟨_,by rw [← hR];rfl,?_,hr2⟩
   have:(T.node (.leaf first) (.leaf x)).walk=u.walk:=funext hw
   rw [this]
   exact hr1
  ·have hs:eU 2 first x A=none:=by simp [eU,hf]
   rw [hs]
   exact hfail (hbad x ω hx2 (.inr O))
theorem Ek {α β:Type} {c:Prop} [Decidable c] (m n:SM α) (k:α→SM β):cW (if c then m else n) k=if c then cW m k else cW n k:=by split <;> rfl
theorem yY {α β γ:Type} (m:SM α) (k:α→SM β) (h:β→SM γ):cW (cW m k) h=cW m fun v => cW (k v) h:=rfl
theorem G5 {α β:Type} (v:α) (k:α→SM β):cW (fW v) k=k v:=rfl
theorem Kn {α β:Type} {x:α} {c:Bool} (h:c=false) (k:α→SM β) (R:aM):(cW (fun s => (x,s.odd c)) k) ⟨R,false,false⟩=k x ⟨R,false,false⟩:=by subst h;rfl
def oz (A first:Nat) (sec:Option Nat):SM (List Nat):=cW (fun s => ((gd (max A 256) first sec).take A,if ((gd (max A 256) first sec).drop A).any (0<·) then s.fail else s)) kg
theorem jG (A first:Nat) (sec:Option Nat):ce (oz A first sec) :=
 (gM (fun _ => (gd (max A 256) first sec).take A) (fun _ => ((gd (max A 256) first sec).drop A).any (0<·))).bind jK
theorem Ci (A:Nat):cW (kM A) kg=cW (sb 1) fun two => cW (sb 1) fun e => cW (sb (1+7 * e)) fun first => cW (mw two first) fun sec => oz A first sec:=rfl
theorem tz {A first:Nat} (sec:Option Nat) (h1:first<256) (hA:1≤A) (h2:∀ x,sec=some x→first<x∧x<256) :
  Ag (qE A) (oz A first sec) (xQ (match sec with | none => eU 1 first 0 A | some x => eU 2 first x A)):=ys sec h1 hA h2
attribute [irreducible] oz
theorem DC {A:Nat} (hA:1≤A):Ag (qE A) (cW (kM A) kg) (ow A):=by
 rw [Ci]
 refine jq (fun u => u<2) (Ag.sb 1) (fun s => fG 1 s) (fun two => (ce.sb 1).bind fun e => (ce.sb _).bind fun first => (nQ _ _).bind fun sec => jG A first sec) fun two two' h2 h22 => ?_
 subst h2
 refine jq (fun u => u<2) (Ag.sb 1) (fun s => fG 1 s) (fun e => (ce.sb _).bind fun first => (nQ _ _).bind fun sec => jG A first sec) fun e e' he he2 => ?_
 subst he
 rw [Nat.add_comm 1 (7 * e)]
 have h8:(2:Nat) ^ (7 * e+1)≤256:=by rcases (by omega:e=0∨e=1) with rfl | rfl <;> decide
 refine jq (fun x => x<256) (Ag.sb _) (fun s => Nat.lt_of_lt_of_le (fG _ s) h8) (fun first => (nQ _ _).bind fun sec => jG A first sec) fun first first' hf hf2 => ?_
 subst hf
 unfold mw
 rw [Ek]
 by_cases h0:two=0
 ·rw [if_pos h0,if_neg ω,G5]
  exact tz none hf2 hA (by simp)
 ·rw [if_neg h0,if_pos ω,yY]
  refine jq (fun x => x<256) (Ag.sb 8) (fun s => fG 8 s) (fun x => (ly (fun _ => some x) (fun _ => decide (x≤first))).bind fun sec => jG A first sec) fun x x' hx hx2 => ?_
  subst hx
  by_cases hle:x≤first
  ·intro R ho
   have:((cW (fun s => (some x,s.odd (decide (x≤first)))) fun sec => oz A first sec) ⟨R,false,false⟩).2.o=true :=
    (jG A first (some x) _).2 (by simp [RS.odd,hle])
   exact absurd (this.symm.trans ho) δ
  ·exact jN (tz (some x) hf2 hA (fun y hy => by simp only [Option.some.injEq] at hy;subst hy;omega)) fun R => Kn (by simp [hle]) _ R
theorem H6 (A:Nat):fP A=cW (sb 1) fun u => if u=0 then cW (nE A) kg else cW (kM A) kg:=by
 unfold fP
 rw [yY]
 congr 1
 funext u
 rw [Ek]
theorem qk {A:Nat} (hA:1≤A):Ag (qE A) (fP A) (nz A):=by
 rw [H6]
 refine jq (fun u => u<2) (Ag.sb 1) (fun s => fG 1 s) (fun u => cC ((yP A).bind jK) ((vG A).bind jK)) fun u u' hu hu2 => ?_
 subst hu
 refine kN (fun _ => ?_) fun _ => DC hA
 exact y3 (Ag.bind (Hq A) jK fun a b ⟨hab,hl,h15⟩ => by subst hab;exact zv h15 hl) (Ah A)
theorem s_ {α β:Type} {rel:α→β→Prop} {m:SM α} {p:jh β} {g:RS→α} (h:Ag rel m p):Ag rel (fun s => if false=true∨s.f=true then (g s,s) else m s) p :=
 jN h fun R => if_neg (by simp)
theorem EQ {α β:Type} {rel:α→β→Prop} {v:α} {u:β} {c:Bool} (h:rel v u):Ag rel (fun s => (v,s.odd c)) (Go.Proofs.YtmgemcffhbnpfaaGreatDoor.ret u):=fun R _ => ⟨fun _ => ⟨u,rfl,h⟩,fun h => (by cases h)⟩
theorem Bt {α β:Type} {rel:α→β→Prop} {m:SM α} (h:∀ s,(m s).2.f=true):Ag rel m (Go.Proofs.YtmgemcffhbnpfaaGreatDoor.no:jh β):=fun R _ => ⟨fun hf => (by rw [h] at hf;cases hf),fun _ => rfl⟩
theorem DG {α β γ:Type} {rel:α→β→Prop} {m:SM α} {p:jh γ} {q:γ→jh β} (h:∀ s,(m s).2.f=true) (hp:∀ R,pb p q R=none):Ag rel m (pb p q):=fun R _ => ⟨fun hf => (by rw [h] at hf;cases hf),fun _ => hp R⟩
theorem KK {α:Type} (p:jh α):pb p ret=p:=by
 funext R
 unfold pb
 cases p R with
 | none => rfl
 | some q => rfl
theorem lE {α β γ:Type} (p:jh α) (f:α→jh β) (g:β→jh γ):pb (pb p f) g=pb p fun v => pb (f v) g:=funext fun R => eR p f R
theorem Ei (c:Nat):Ag Eq (pJ c) (lz c):=by
 unfold pJ lz
 refine kN (fun _ => Ag.ret O) fun _ => Ag.bind (Ag.sb _) (fun _ => ce.ret _) fun x x' hx => ?_
 subst hx
 exact Ag.ret O
theorem FB {w n cc:Nat} {g:Nat→List Nat} {t:Nat→T} {acc:List Nat} (h:∀ j,j<5→qE (bm cc j) (g j) (t j)):Ag Eq (jv w n cc g acc) (yA w n cc t acc):=by
 have hl:=fun j hj => (h j hj).2
 have ha0:bm cc 0=280+(if cc=0 then 0 else 2 ^ cc):=rfl
 unfold jv yA
 refine jq (fun s => s<bm cc 0) (h 0 ω).1 (fun s => by rw [← hl 0 ω];exact lK (by rw [hl 0 ω,ha0];omega) s) (fun s => cC ((fj _).bind fun r => (fj _).bind fun b => (fj _).bind fun a => ce.ret _)
  (cC ((jI _).bind fun len => (fj _).bind fun ds => (jI _).bind fun dc => cC (ce.fail _) (ce.ret _)) (ce.ret _))) fun s s' hs hlt => ?_
 subst hs
 refine kN (fun _ => ?_) fun h1 => kN (fun _ => ?_) fun h2 => ?_
 ·refine Ag.bind (h 1 ω).1 (fun r => (fj _).bind fun b => (fj _).bind fun a => ce.ret _) fun r r' hr => ?_
  subst hr
  refine Ag.bind (h 2 ω).1 (fun b => (fj _).bind fun a => ce.ret _) fun b b' hb => ?_
  subst hb
  refine Ag.bind (h 3 ω).1 (fun a => ce.ret _) fun a a' ha => ?_
  subst ha
  exact Ag.ret O
 ·refine Ag.bind (Ei _) (fun len => (fj _).bind fun ds => (jI _).bind fun dc => cC (ce.fail _) (ce.ret _)) fun len len' hlen => ?_
  subst hlen
  refine Ag.bind (h 4 ω).1 (fun ds => (jI _).bind fun dc => cC (ce.fail _) (ce.ret _)) fun ds ds' hds => ?_
  subst hds
  refine Ag.bind (Ei _) (fun dc => cC (ce.fail _) (ce.ret _)) fun dc dc' hdc => ?_
  subst hdc
  exact kN (fun _ => Ag.no) fun _ => Ag.ret O
 ·rw [if_neg]
  ·exact Ag.ret O
  ·rw [ha0] at hlt
   split at hlt
   ·omega
   ·omega
theorem vq {w n cc:Nat} {grp:Nat→Nat→List Nat} {tg:Nat→Nat→T} (h:∀ i j,j<5→qE (bm cc j) (grp i j) (tg i j)):∀ (k:Nat) (acc:List Nat),Ag Eq (fh w n cc grp k acc) (iz w n cc tg k acc)
 | 0,acc => Ag.ret rfl
 | k+1,acc => by
  unfold fh iz
  by_cases hn:n≤acc.length
  ·rw [if_pos hn]
   exact jN (n:=fW acc) (Ag.ret O) fun R => if_pos (by simp [hn])
  ·rw [if_neg hn]
   refine jN (n:=cW (jv w n cc (grp acc.length) acc) (fh w n cc grp k)) ?_ fun R => if_neg (by simp [hn])
   refine Ag.bind (FB (h acc.length)) (fun l => ij w n cc grp k l) fun l l' hl => ?_
   subst hl
   exact vq h k l
def oG (cc i:Nat) (ls:List (List Nat)) (ts:List T):Prop:=ls.length=ts.length∧∀ j,j<ls.length→qE (bm cc ((i+j) % 5)) (ls.getD j []) (ts.getD j (.leaf 0))
theorem oG.cons {cc i:Nat} {ls:List (List Nat)} {ts:List T} {l:List Nat} {t:T} (h:qE (bm cc (i % 5)) l t) (hs:oG cc (i+1) ls ts):oG cc i (l :: ls) (t :: ts):=by
 refine ⟨by simp [hs.1],fun j hj => ?_⟩
 cases j with
 | zero => exact h
 | succ j =>
  have:=hs.2 j (by simpa using hj)
  rw [show i+(j+1)=i+1+j by omega]
  simpa using this
theorem rA {α:Type} (cc n i:Nat) (q:List T→jh α):pb (eC cc (n+1) i) q=pb (nz (bm cc (i % 5))) fun t => pb (eC cc n (i+1)) fun ts => q (t :: ts):=by
 show pb (pb (nz (bm cc (i % 5))) fun t => pb (eC cc n (i+1)) fun ts => ret (t :: ts)) q=_
 rw [lE]
 congr 1
 funext t
 rw [lE]
 rfl
theorem m5 (cc j:Nat):1≤bm cc j:=by
 unfold bm
 split
 ·omega
 ·split <;> omega
theorem A5 {α:Type} (cc k:Nat) (q:List (List Nat)→SM α):cW (cW (nN cc) fun g => cW (fw cc k) fun ts => fW (g++ts)) q =
  cW (fP (bm cc 0)) fun a => cW (fP (bm cc 1)) fun b => cW (fP (bm cc 2)) fun c => cW (fP (bm cc 3)) fun d => cW (fP (bm cc 4)) fun e => cW (fw cc k) fun ts => q (a :: b :: c :: d :: e :: ts):=by
 funext s
 simp only [cW,nN,fW,List.cons_append,List.nil_append]
theorem yR (cc:Nat):∀ (k i:Nat),i % 5=0→Ag (oG cc i) (fw cc k) (eC cc (5 * k) i)
 | 0,i,hi => Ag.ret ⟨rfl,fun j hj => by simp at hj⟩
 | k+1,i,hi => by
  unfold fw
  refine s_ ?_
  have h1:=A5 cc k (fW:List (List Nat)→SM _)
  have h2:cW (cW (nN cc) fun g => cW (fw cc k) fun ts => fW (g++ts)) fW=cW (nN cc) fun g => cW (fw cc k) fun ts => fW (g++ts):=rfl
  rw [h2] at h1
  rw [h1,← KK (eC cc (5 * (k+1)) i),show 5 * (k+1)=5 * k+1+1+1+1+1 by omega,rA]
  simp only [rA]
  rw [show i % 5=0 from hi,show (i+1) % 5=1 by omega,show (i+1+1) % 5=2 by omega,show (i+1+1+1) % 5=3 by omega,show (i+1+1+1+1) % 5=4 by omega]
  have s5:∀ a b c d e,ce (cW (fw cc k) fun ts => fW (a :: b :: c :: d :: e :: ts)):=fun a b c d e => (ka cc k).bind fun ts => ce.ret _
  refine Ag.bind (qk (m5 _ _)) (fun a => (fO _).bind fun b => (fO _).bind fun c => (fO _).bind fun d => (fO _).bind fun e => s5 a b c d e) fun a a' ha => (Ag.bind (qk (m5 _ _)) (fun b => (fO _).bind fun c => (fO _).bind fun d => (fO _).bind fun e => s5 a b c d e) fun b b' hb => (Ag.bind (qk (m5 _ _)) (fun c => (fO _).bind fun d => (fO _).bind fun e => s5 a b c d e) fun c c' hc => (Ag.bind (qk (m5 _ _)) (fun d => (fO _).bind fun e => s5 a b c d e) fun d d' hd => (Ag.bind (qk (m5 _ _)) (fun e => s5 a b c d e) fun e e' he => (Ag.bind (yR cc k (i+1+1+1+1+1) ω) (fun ts => ce.ret _) fun ts ts' hts => (Ag.ret ?_))))))
  refine oG.cons (by rw [hi];exact ha) (oG.cons (by rw [show (i+1) % 5=1 by omega];exact hb) (oG.cons (by rw [show (i+1+1) % 5=2 by omega];exact hc) (oG.cons (by rw [show (i+1+1+1) % 5=3 by omega];exact hd) (oG.cons (by rw [show (i+1+1+1+1) % 5=4 by omega];exact he) hts))))
theorem Am (px:List Nat):∀ p ∈ px,p / 256 % 65536≤bB px:=by
 have key:∀ (px:List Nat) (m:Nat),m≤px.foldl (fun m p => max m (p / 256 % 65536)) m∧∀ p ∈ px,p / 256 % 65536≤px.foldl (fun m p => max m (p / 256 % 65536)) m:=by
  intro px
  induction px with
  | nil => intro m;simp
  | cons a r ih =>
   intro m
   obtain ⟨h1,h2⟩:=ih (max m (a / 256 % 65536))
   refine ⟨by simp only [List.foldl_cons];omega,fun p hp => ?_⟩
   simp only [List.foldl_cons]
   rcases List.mem_cons.1 hp with rfl | hp
   ·omega
   ·exact h2 p hp
 exact (key px 0).2
theorem sP (hb tpr:Nat) (hpx:List Nat) (w i:Nat):dF hb tpr hpx w i≤bB hpx:=by
 unfold dF
 split
 ·exact Nat.zero_le _
 ·rw [List.getD_eq_getElem?_getD]
  cases h:hpx[tpr * (i / w / 2 ^ hb)+i % w / 2 ^ hb]? with
  | none => simp
  | some p => exact Am hpx p (List.mem_of_getElem? h)
theorem se {cc:Nat}:∀ (k:Nat) (s:RS),(fw cc k s).2.f=false→(fw cc k s).1.length=5 * k
 | 0,s,_ => rfl
 | k+1,s,h => by
  unfold fw at h ⊢
  by_cases hf:false=true∨s.f=true
  ·rw [if_pos hf] at h
   simp at hf
   rw [hf] at h
   cases h
  ·rw [if_neg hf] at h ⊢
   have ih:=se k (nN cc s).2 h
   show ((nN cc s).1++(fw cc k (nN cc s).2).1).length=5 * (k+1)
   have:(nN cc s).1.length=5:=rfl
   rw [List.length_append,ih,this]
   omega
def MN (mt:SM (Nat × List Nat)) (p:jh (Nat × List Nat)):Prop:=Ag Eq mt p
theorem AY {mt:SM (Nat × List Nat)} {dm:jh (Nat × List Nat)} (hm:Ag Eq mt dm) (w h cc:Nat):Ag Eq (nF mt w h cc) (pb (gL dm cc) fun q => iz w (w * h) cc (rH w q) (w * h) []):=by
 unfold nF gL
 rw [lE]
 refine Ag.bind hm (fun m => (ka _ _).bind fun ts => eK (fun _ => []) (fun _ => false) (ij _ _ _ _ _ _)) fun m m' hm => ?_
 subst hm
 rw [lE]
 intro R ho
 have hts:=yR cc (bB m.2+1) 0 rfl R
 have hlen:=se (cc:=cc) (bB m.2+1) ⟨R,false,false⟩
 unfold cW at ho ⊢
 generalize fw cc (bB m.2+1) ⟨R,false,false⟩=r at *
 obtain ⟨ts,R1,f1,o1⟩:=r
 simp only at *
 have hst:=eK (m:=fh w (w * h) cc (A3 w m ts) (w * h) []) (fun _ => []) (fun _ => false) (ij _ _ _ _ _ _) ⟨R1,f1,o1⟩
 cases o1 with
 | true => exact absurd ((hst.2 rfl).symm.trans ho) δ
 | false =>
  obtain ⟨h1,h2⟩:=hts rfl
  cases f1 with
  | true => exact ⟨fun hf => absurd ((hst.1 rfl).symm.trans hf) δ,fun _ => dN (h2 rfl)⟩
  | false =>
   obtain ⟨ts',e1,hr⟩:=h1 rfl
   rw [dp e1]
   have hl:ts.length=5 * (bB m.2+1):=hlen rfl
   have hg:∀ i j,j<5→qE (bm cc j) (A3 w m ts i j) (rH w (m,ts') i j):=fun i j hj => by
    have hle:=sP m.1 (aq w m.1) m.2 w i
    have:=hr.2 (5 * dF m.1 (aq w m.1) m.2 w i+j) ω
    rw [show (0+(5 * dF m.1 (aq w m.1) m.2 w i+j)) % 5=j by omega] at this
    exact this
   exact s_ (g:=fun _ => []) (vq hg (w * h) []) R1 ho
theorem BN {mt:SM (Nat × List Nat)} {dm:jh (Nat × List Nat)} (hm:Ag Eq mt dm) (hs:ce mt) (w h:Nat):Ag Eq (rQ mt w h) (qR dm w h):=by
 have he:qR dm w h=pb (rd 1) fun u => if u=0 then (pb (gL dm 0) fun q => iz w (w * h) 0 (rH w q) (w * h) []) else pb (rd 4) fun c => if c<1∨11<c then no else pb (gL dm c) fun q => iz w (w * h) c (rH w q) (w * h) []:=by
  unfold qR ut
  rw [lE]
  congr 1
  funext u
  split
  ·rfl
  ·rw [lE]
   congr 1
   funext c
   split <;> rfl
 rw [he]
 unfold rQ
 refine Ag.bind (Ag.sb 1) (fun u => cC (kj hs _ _ _) ((ce.sb 4).bind fun c => cC (ce.fail _) (kj hs _ _ _))) fun u u' hu => ?_
 subst hu
 refine kN (fun _ => AY hm w h 0) fun _ => Ag.bind (Ag.sb 4) (fun c => cC (ce.fail _) (kj hs _ _ _)) fun c c' hc => ?_
 subst hc
 exact kN (fun _ => Ag.no) fun _ => AY hm w h c
theorem Af (w h:Nat):Ag Eq (zF w h) (ip w h):=BN (Ag.ret rfl) (ce.ret _) w h
theorem GK (w h:Nat):Ag Eq (rF w h) (zq w h):=by
 unfold rF zq
 refine Ag.bind (Ag.sb 1) (fun u => cC (ce.ret _) ((ce.sb 3).bind fun b => (kS _ _).bind fun px => ce.ret _)) fun u u' hu => ?_
 subst hu
 refine kN (fun _ => Ag.ret O) fun _ => Ag.bind (Ag.sb 3) (fun b => (kS _ _).bind fun px => ce.ret _) fun b b' hb => ?_
 subst hb
 refine Ag.bind (Af _ _) (fun px => ce.ret _) fun px px' hp => ?_
 subst hp
 exact Ag.ret O
theorem Jb (top:Bool) (w h:Nat):Ag Eq (jH top w h) (gT top w h):=by
 unfold jH gT tj
 exact BN (kN (fun _ => GK w h) fun _ => Ag.ret O) (cC (uG w h) (ce.ret _)) w h
def uW (k w h:Nat):jh (Tr × Nat) :=
 if k≤1 then pb (rd 3) fun b => pb (ip (aq w (b+2)) (aq h (b+2))) fun px => ret (⟨k,w,b+2,px⟩,w)
 else if k=2 then ret (⟨2,w,0,[]⟩,w)
 else pb (rd 8) fun n => pb (ip (n+1) 1) fun px => ret (⟨3,w,b0 (n+1),mN px⟩,aq w (b0 (n+1)))
theorem Kf {k:Nat} (hk:k<4) (w h:Nat):Ag (fun a b => a=b∧b.1.kind=k) (uT k w h) (uW k w h):=by
 unfold uT uW
 refine kN (fun h1 => ?_) fun h1 => kN (fun h2 => Ag.ret ⟨O,h2.symm⟩) fun h2 => ?_
 ·refine Ag.bind (Ag.sb 3) (fun b => (kS _ _).bind fun px => ly (fun _ => _) (fun _ => _)) fun b b' hb => ?_
  subst hb
  refine Ag.bind (Af _ _) (fun px => ly (fun _ => _) (fun _ => _)) fun px px' hp => ?_
  subst hp
  exact EQ ⟨O,O⟩
 ·refine Ag.bind (Ag.sb 8) (fun n => (kS _ _).bind fun px => ce.ret _) fun n n' hn => ?_
  subst hn
  refine Ag.bind (Af _ _) (fun px => ce.ret _) fun px px' hp => ?_
  subst hp
  exact Ag.ret ⟨O,by show 3=k;omega⟩
theorem BB {k w h:Nat} (hk:k<4) {R R':aM} {t:Tr × Nat} (hd:uW k w h R=some (t,R')):t.1.kind=k:=by
 unfold uW at hd
 split at hd
 ·obtain ⟨b,R2,_,hd⟩:=d9 hd
  obtain ⟨px,R3,_,hd⟩:=d9 hd
  rw [← (iY hd).1]
 ·split at hd
  ·rw [← (iY hd).1];show 2=k;omega
  ·obtain ⟨b,R2,_,hd⟩:=d9 hd
   obtain ⟨px,R3,_,hd⟩:=d9 hd
   rw [← (iY hd).1];show 3=k;omega
theorem Ed (h:Nat):∀ (k w:Nat) (l:List Tr),Ag Eq (mi h k w l) (kQ h k w l)
 | 0,w,l => Ag.no
 | k+1,w,l => by
  unfold mi kQ
  have st:∀ kd,ce (if l.any (·.kind=kd) then fun s => ((l,w),s.fail) else cW (uT kd w h) fun t => mi h k t.2 (l++[t.1])):=fun kd => cC (ce.fail _) ((we _ _ _).bind fun t => kx h k _ _)
  refine Ag.bind (Ag.sb 1) (fun u => eK (fun _ => (l,w)) (fun _ => decide (u=0)) ((ce.sb 2).bind st)) fun u u' hu => ?_
  subst hu
  by_cases h0:u=0
  ·rw [if_pos h0]
   exact jN (n:=fW (l,w)) (Ag.ret O) fun R => if_pos (by simp [h0])
  rw [if_neg h0]
  refine jN (n:=cW (sb 2) fun kd => if l.any (·.kind=kd) then fun s => ((l,w),s.fail) else cW (uT kd w h) fun t => mi h k t.2 (l++[t.1])) ?_ fun R => if_neg (by simp [h0])
  have he:rU w h=pb (rd 2) fun kd => uW kd w h:=rfl
  rw [he,lE]
  refine jq (fun kd => kd<4) (Ag.sb 2) (fun s => fG 2 s) st fun kd kd' hk hk4 => ?_
  subst hk
  by_cases ha:l.any (·.kind=kd)=true
  ·rw [if_pos ha]
   refine DG (fun s => rfl) fun R => ?_
   cases hd:uW kd w h R with
   | none => exact dN hd
   | some q =>
    obtain ⟨t,R'⟩:=q
    rw [dp hd,BB hk4 hd,if_pos ha]
    rfl
  ·rw [if_neg ha]
   refine Ag.bind (Kf hk4 w h) (fun t => kx h k _ _) fun t t' ht => ?_
   obtain ⟨rfl,hkd⟩:=ht
   rw [hkd,if_neg ha]
   exact Ed h k _ _
def zJ (m:Nat):SM (Nat × Nat):=cW (sb 14) fun w => cW (sb 14) fun h => cW (sb 1) fun _ => cW (sb 3) fun v => fun s => ((w+1,h+1),if decide (m≠47) || decide (v≠0) then s.fail else s)
theorem Dz (m:Nat):ce (zJ m):=(ce.sb 14).bind fun w => (ce.sb 14).bind fun h => (ce.sb 1).bind fun _ => (ce.sb 3).bind fun v => gM (fun _ => _) (fun _ => _)
theorem IH:Ag Eq jF l5:=by
 show Ag Eq (cW (sb 8) zJ) l5
 unfold l5
 refine Ag.bind (Ag.sb 8) Dz fun m m' hm => ?_
 subst hm
 by_cases h:m≠47
 ·rw [if_pos h]
  refine Bt fun s => ?_
  unfold zJ cW
  simp [h,RS.fail]
 ·rw [if_neg h]
  unfold zJ
  refine Ag.bind (Ag.sb 14) (fun w => (ce.sb 14).bind fun h => (ce.sb 1).bind fun _ => (ce.sb 3).bind fun v => gM (fun _ => _) (fun _ => _)) fun w w' hw => ?_
  subst hw
  refine Ag.bind (Ag.sb 14) (fun h => (ce.sb 1).bind fun _ => (ce.sb 3).bind fun v => gM (fun _ => _) (fun _ => _)) fun ht ht' hh => ?_
  subst hh
  refine Ag.bind (Ag.sb 1) (fun _ => (ce.sb 3).bind fun v => gM (fun _ => _) (fun _ => _)) fun a a' ha => (Ag.bind (Ag.sb 3) (fun v => gM (fun _ => _) (fun _ => _)) fun v v' hv => ?_)
  subst hv
  by_cases hv:v≠0
  ·rw [if_pos hv]
   exact Bt fun s => by simp [hv,RS.fail]
  ·rw [if_neg hv]
   exact jN (n:=fW (w+1,ht+1)) (Ag.ret O) fun R => by simp only [h,hv,decide_false,Bool.or_false,Bool.false_eq_true,if_false];rfl
theorem D8:Ag (fun a b => b=(a.1.1,a.1.2,ge a.1.2 a.2.1 a.2.2)) iu iS:=by
 unfold iu iS
 have s1:∀ (q:Nat × Nat) (t:List Tr × Nat),ce (fun s => if false=true∨s.f=true then ((q,t.1,[]),s) else cW (jH true t.2 q.2) (fun px => fW (q,t.1,px)) s):=fun q t => eK (fun _ => (q,t.1,[])) (fun _ => false) ((xi _ _ _).bind fun px => ce.ret _)
 refine Ag.bind IH (fun q => eK (fun _ => (q,[],[])) (fun _ => false) ((kx _ _ _ _).bind (s1 q))) fun q q' hq => ?_
 subst hq
 refine s_ (g:=fun _ => (q,[],[])) (Ag.bind (Ed _ _ _ _) (s1 q) fun t t' ht => ?_)
 subst ht
 refine s_ (g:=fun _ => (q,t.1,[])) (Ag.bind (Jb _ _ _) (fun px => ce.ret _) fun px px' hp => ?_)
 subst hp
 exact Ag.ret O
def Sh {α:Type} (P:α→Prop) (m:SM α):Prop:=∀ s,(m s).2.f=false→P (m s).1
def gp {α:Type} (P:α→Prop) (m:SM α):Prop:=∀ s,P (m s).1
section
variable {α β:Type} {P:α→Prop} {Q:β→Prop}
theorem gp.sh {m:SM α} (h:gp P m):Sh P m:=fun s _ => h s
theorem gp.ret {v:α} (h:P v):gp P (fW v):=fun _ => h
theorem Sh.ret {v:α} (h:P v):Sh P (fW v):=fun _ _ => h
theorem gp.any (m:SM α):gp (fun _ => True) m:=fun _ => trivial
theorem gp.bind {m:SM α} {k:α→SM β} (hm:gp P m) (hk:∀ v,P v→gp Q (k v)):gp Q (cW m k):=fun s => hk _ (hm s) _
theorem Sh.bind {m:SM α} {k:α→SM β} (sk:∀ v,ce (k v)) (hm:Sh P m) (hk:∀ v,P v→Sh Q (k v)):Sh Q (cW m k):=fun s hf => by
 cases h:(m s).2.f with
 | true => rw [show (cW m k s).2.f=true from (sk _ _).1 h] at hf;cases hf
 | false => exact hk _ (hm s h) _ hf
theorem nI {c:Prop} [Decidable c] {m n:SM α} (h1:c→gp P m) (h2:¬ c→gp P n):gp P (if c then m else n):=by
 by_cases h:c
 ·rw [if_pos h];exact h1 h
 ·rw [if_neg h];exact h2 h
theorem pd {c:Prop} [Decidable c] {m n:SM α} (h1:c→Sh P m) (h2:¬ c→Sh P n):Sh P (if c then m else n):=by
 by_cases h:c
 ·rw [if_pos h];exact h1 h
 ·rw [if_neg h];exact h2 h
theorem Sh.fail {g:RS→α}:Sh P (fun s => (g s,s.fail)):=fun s h => by cases h
theorem tI {m:SM α} {g:RS→α} (h:Sh P m):Sh P (fun s => if false=true∨s.f=true then (g s,s) else m s):=fun s hf => by
 by_cases h0:false=true∨s.f=true
 ·simp only [h0,if_true] at hf
  simp at h0
  rw [h0] at hf
  cases hf
 ·simp only [h0,if_false] at hf ⊢
  exact h s hf
theorem gp.sb (n:Nat):gp (fun v => v<2 ^ n) (sb n):=fun s => fG n s
end
def wj (n:Nat) (l:List Nat):Prop:=l.length=n∧∀ x ∈ l,x≤15
theorem o8 {own:List Nat} {n:Nat} (ho:own.length=19):∀ (k:Nat) (acc:List Nat) (left before:Nat),acc.length≤n→(∀ x ∈ acc,x≤15)→before≤15→gp (fun a => a.length≤n∧∀ x ∈ a,x≤15) (cT own n k acc left before)
 | 0,acc,left,before,h1,h2,h3 => gp.ret ⟨h1,h2⟩
 | k+1,acc,left,before,h1,h2,h3 => fun s => by
  unfold cT
  by_cases hc:(decide (n≤acc.length) || decide (left=0))=true∨s.f=true
  ·simp only [hc,if_true]
   exact ⟨h1,h2⟩
  ·simp only [hc,if_false]
   have hn:acc.length<n:=by
    refine Nat.lt_of_not_le fun h => hc (.inl ?_)
    simp [h]
   have h:gp (fun a => a.length≤n∧∀ x ∈ a,x≤15) (cW (jt own) fun c => if c<16 then cT own n k (acc++[c]) (left - 1) (if c≠0 then c else before)
     else cW (sb (repB (c - 16))) fun v => if n<acc.length+(v+repO (c - 16)) then fun s => (acc,s.fail) else
      cT own n k (acc++List.replicate (v+repO (c - 16)) (if c=16 then before else 0)) (left - 1) before):=by
    refine gp.bind (P:=fun c => c<19) (fun s => by have:=lK (ls:=own) ω s;omega) fun c hc => nI (fun h => ?_) fun h => ?_
    ·exact o8 ho k _ _ _ (by simp;omega) (fun x hx => by
      rw [List.mem_append,List.mem_singleton] at hx
      rcases hx with hx | rfl
      ·exact h2 x hx
      ·omega) (by split <;> omega)
    ·refine gp.bind (gp.any _) fun v _ => nI (fun _ => fun s => ⟨h1,h2⟩) fun h => ?_
     exact o8 ho k _ _ _ (by simp;omega) (fun x hx => by
      rw [List.mem_append] at hx
      rcases hx with hx | hx
      ·exact h2 x hx
      ·rw [(List.mem_replicate.1 hx).2];split <;> omega) h3
   exact h s
theorem y5 (n:Nat):gp (wj n) (nE n):=by
 refine gp.bind (gp.any _) fun nc _ => gp.bind (gp.any _) fun f _ => gp.bind (gp.any _) fun left _ => (gp.bind (P:=fun own => own.length=19) (fun s => by show ((List.range 19).map f).length=19;simp) fun own ho => ?_)
 refine gp.bind (o8 ho n [] left 8 (by simp) (by simp) ω) fun l hl => gp.ret ⟨by simp [sQ];omega,fun x hx => ?_⟩
 unfold sQ at hx
 rw [List.mem_append] at hx
 rcases hx with hx | hx
 ·exact hl.2 x hx
 ·rw [(List.mem_replicate.1 hx).2];omega
theorem BE (n:Nat):gp (wj n) (kM n):=by
 refine gp.bind (gp.any _) fun two _ => gp.bind (gp.any _) fun e _ => gp.bind (gp.any _) fun first _ => gp.bind (gp.any _) fun sec _ => fun s => ?_
 show wj n ((gd (max n 256) first sec).take n)
 rw [mA (Nat.le_max_left _ _)]
 exact ⟨js _ _ _,fun x hx => by have:=rk _ _ _ x hx;omega⟩
theorem oB (n:Nat):gp (wj n) (fP n):=by
 unfold fP
 exact gp.bind (gp.bind (gp.any _) fun u _ => nI (fun _ => y5 n) fun _ => BE n) fun l hl s => hl
def II (cc k:Nat) (ts:List (List Nat)):Prop:=ts.length=5 * k∧∀ j,j<5 * k→wj (bm cc (j % 5)) (ts.getD j [])
theorem yX (cc:Nat):gp (II cc 1) (nN cc):=by
 refine gp.bind (oB _) fun a ha => gp.bind (oB _) fun b hb => gp.bind (oB _) fun c hc => gp.bind (oB _) fun d hd => gp.bind (oB _) fun e he => gp.ret ⟨O,fun j hj => ?_⟩
 rcases (by omega:j=0∨j=1∨j=2∨j=3∨j=4) with rfl | rfl | rfl | rfl | rfl
 ·exact ha
 ·exact hb
 ·exact hc
 ·exact hd
 ·exact he
theorem II.append {cc k m:Nat} {a b:List (List Nat)} (ha:II cc k a) (hb:II cc m b):II cc (k+m) (a++b):=by
 refine ⟨by rw [List.length_append,ha.1,hb.1];omega,fun j hj => ?_⟩
 by_cases h:j<5 * k
 ·have:=ha.2 j h
  rw [List.getD_eq_getElem?_getD] at this ⊢
  rwa [List.getElem?_append_left (by rw [ha.1];exact h)]
 ·have:=hb.2 (j - 5 * k) ω
  rw [show (j - 5 * k) % 5=j % 5 by omega,List.getD_eq_getElem?_getD] at this
  rwa [List.getD_eq_getElem?_getD,List.getElem?_append_right (by rw [ha.1];omega),ha.1]
theorem uE (cc:Nat):∀ k,Sh (II cc k) (fw cc k)
 | 0 => Sh.ret ⟨rfl,fun j hj => ω⟩
 | k+1 => tI (Sh.bind (fun g => (ka cc k).bind fun ts => ce.ret _) (yX cc).sh fun g hg => Sh.bind (fun ts => ce.ret _) (uE cc k) fun ts hts => Sh.ret (by rw [Nat.add_comm k 1];exact hg.append hts))
theorem Aa {a r g b:Nat} (ha:a<256) (hr:r<256) (hg:g<256) (hb:b<256):fQ a r g b<2 ^ 32:=(eO ha hr hg hb).2.2.2.2
theorem w_ (w c:Nat):1≤eX w c:=by
 unfold eX
 split
 ·omega
 ·split <;> omega
def ru (n:Nat) (l:List Nat):Prop:=l.length≤n∧∀ p ∈ l,p<2 ^ 32
theorem sq {w n cc:Nat} {g:Nat→List Nat} {acc:List Nat} (hg:∀ j,j<5→wj (bm cc j) (g j)) (hn:acc.length<n) (h32:∀ p ∈ acc,p<2 ^ 32):gp (ru n) (jv w n cc g acc):=by
 have hlt:∀ j,j<5→gp (fun s => s<bm cc j) (jt (g j)):=fun j hj s => by
  have:=(hg j hj).1
  rw [← this]
  exact lK (by rw [this];have:=m5 cc j;omega) s
 have h1:∀ p,p<2 ^ 32→ru n (acc++[p]):=fun p hp => ⟨by simp;omega,fun q hq => by
  rw [List.mem_append,List.mem_singleton] at hq
  rcases hq with hq | rfl
  ·exact h32 q hq
  ·exact hp⟩
 unfold jv
 refine gp.bind (gp.any _) fun s _ => nI (fun hs => ?_) fun _ => nI (fun _ => ?_) fun _ => gp.ret (h1 _ (uv acc h32 _))
 ·exact gp.bind (hlt 1 ω) fun r hr => gp.bind (hlt 2 ω) fun b hb => gp.bind (hlt 3 ω) fun a ha => gp.ret (h1 _ (Aa ha hr hs hb))
 ·refine gp.bind (gp.any _) fun len _ => gp.bind (gp.any _) fun ds _ => gp.bind (gp.any _) fun dc _ => nI (fun _ s => ⟨Nat.zero_le _,by simp⟩) fun h => gp.ret ⟨?_,?_⟩
  ·rw [lI];omega
  ·exact uw (w_ _ _) len acc ω h32
theorem AW {w n cc:Nat} {g:Nat→List Nat} {acc:List Nat}:Sh (fun l => acc.length<l.length) (jv w n cc g acc):=by
 unfold jv
 have hlen:∀ c,Sh (fun v => 1≤v) (pJ c):=fun c => pd (fun _ => Sh.ret ω) fun _ => Sh.bind (P:=fun _ => True) (fun _ => ce.ret _) (fun s _ => trivial) fun x _ => Sh.ret ω
 refine Sh.bind (P:=fun _ => True) (fun s => cC ((fj _).bind fun r => (fj _).bind fun b => (fj _).bind fun a => ce.ret _)
  (cC ((jI _).bind fun len => (fj _).bind fun ds => (jI _).bind fun dc => cC (ce.fail _) (ce.ret _)) (ce.ret _))) (fun s _ => trivial) fun s _ => pd (fun _ => ?_) fun _ => pd (fun _ => ?_) fun _ => Sh.ret (by simp)
 ·exact fun s _ => by simp [cW,fW]
 ·refine Sh.bind (fun len => (fj _).bind fun ds => (jI _).bind fun dc => cC (ce.fail _) (ce.ret _)) (hlen _) fun len hl => Sh.bind (P:=fun _ => True) (fun ds => (jI _).bind fun dc => cC (ce.fail _) (ce.ret _)) (fun s _ => trivial) fun ds _ =>
   Sh.bind (P:=fun _ => True) (fun dc => cC (ce.fail _) (ce.ret _)) (fun s _ => trivial) fun dc _ => pd (fun _ => Sh.fail) fun _ => Sh.ret (by rw [lI];omega)
theorem sV {w n cc:Nat} {grp:Nat→Nat→List Nat} (hg:∀ i j,j<5→wj (bm cc j) (grp i j)):∀ (k:Nat) (acc:List Nat),ru n acc→gp (ru n) (fh w n cc grp k acc)
 | 0,acc,h => gp.ret h
 | k+1,acc,h => fun s => by
  unfold fh
  by_cases hc:decide (n≤acc.length)=true∨s.f=true
  ·simp only [hc,if_true];exact h
  ·simp only [hc,if_false]
   have hn:acc.length<n:=Nat.lt_of_not_le fun h => hc (.inl (by simp [h]))
   exact gp.bind (sq (hg acc.length) hn h.2) (fun l hl => sV hg k l hl) s
theorem vI {w n cc:Nat} {grp:Nat→Nat→List Nat} (hg:∀ i j,j<5→wj (bm cc j) (grp i j)):∀ (k:Nat) (acc:List Nat),ru n acc→n≤acc.length+k→Sh (fun l => l.length=n) (fh w n cc grp k acc)
 | 0,acc,h,hk => Sh.ret (by have:=h.1;omega)
 | k+1,acc,h,hk => fun s hf => by
  unfold fh at hf ⊢
  by_cases hc:decide (n≤acc.length)=true∨s.f=true
  ·simp only [hc,if_true] at hf ⊢
   rcases hc with hc | hc
   ·have:=h.1
    simp only [decide_eq_true_eq] at hc
    omega
   ·rw [hc] at hf;cases hf
  ·simp only [hc,if_false] at hf ⊢
   have hn:acc.length<n:=Nat.lt_of_not_le fun h => hc (.inl (by simp [h]))
   refine Sh.bind (P:=fun l => ru n l∧acc.length<l.length) (fun l => ij w n cc grp k l) (fun s hf => ⟨sq (hg acc.length) hn h.2 s,AW s hf⟩) (fun l hl => vI hg k l hl.1 ω) s hf
theorem uS {cc w:Nat} {m:Nat × List Nat} {ts:List (List Nat)} (h:II cc (bB m.2+1) ts) (i j:Nat) (hj:j<5):wj (bm cc j) (A3 w m ts i j):=by
 have hle:=sP m.1 (aq w m.1) m.2 w i
 have:=h.2 (5 * dF m.1 (aq w m.1) m.2 w i+j) ω
 rwa [show (5 * dF m.1 (aq w m.1) m.2 w i+j) % 5=j by omega] at this
theorem yQ (mt:SM (Nat × List Nat)) (w h cc:Nat):gp (ru (w * h)) (nF mt w h cc):=by
 refine gp.bind (gp.any _) fun m _ => fun s => ?_
 have ht:=uE cc (bB m.2+1) s
 unfold cW
 generalize fw cc (bB m.2+1) s=r at *
 obtain ⟨ts,s1⟩:=r
 simp only at *
 by_cases hf:s1.f=true
 ·simp only [hf,or_true,if_true]
  exact ⟨Nat.zero_le _,by simp⟩
 ·rw [if_neg (by simp [hf])]
  exact sV (fun i j hj => uS (ht (by simpa using hf)) i j hj) _ _ ⟨Nat.zero_le _,by simp⟩ s1
theorem AE {mt:SM (Nat × List Nat)} (w h cc:Nat):Sh (fun l => l.length=w * h) (nF mt w h cc):=by
 refine Sh.bind (P:=fun _ => True) (fun m => (ka _ _).bind fun ts => eK (fun _ => []) (fun _ => false) (ij _ _ _ _ _ _)) (fun s _ => trivial) fun m _ => (Sh.bind (fun ts => eK (fun _ => []) (fun _ => false) (ij _ _ _ _ _ _)) (uE cc (bB m.2+1)) fun ts hts => tI (g:=fun _ => []) ?_)
 exact vI (fun i j hj => uS hts i j hj) _ _ ⟨Nat.zero_le _,by simp⟩ (by simp)
theorem y2 (mt:SM (Nat × List Nat)) (w h:Nat):gp (ru (w * h)) (rQ mt w h) :=
 gp.bind (gp.any _) fun u _ => nI (fun _ => yQ _ _ _ _) fun _ => gp.bind (gp.any _) fun c _ => nI (fun _ s => ⟨Nat.zero_le _,by simp⟩) fun _ => yQ _ _ _ _
theorem AT {mt:SM (Nat × List Nat)} (hm:ce mt) (w h:Nat):Sh (fun l => l.length=w * h) (rQ mt w h) :=
 Sh.bind (P:=fun _ => True) (fun u => cC (kj hm _ _ _) ((ce.sb 4).bind fun c => cC (ce.fail _) (kj hm _ _ _))) (fun s _ => trivial) fun u _ => pd (fun _ => AE _ _ _) fun _ =>
  Sh.bind (P:=fun _ => True) (fun c => cC (ce.fail _) (kj hm _ _ _)) (fun s _ => trivial) fun c _ => pd (fun _ => Sh.fail) fun _ => AE _ _ _
theorem wY (w h:Nat):gp (ru (w * h)) (zF w h):=y2 _ _ _
theorem z6 (w h:Nat):Sh (fun l => l.length=w * h) (zF w h):=AT (ce.ret _) _ _
theorem xq (top:Bool) (w h:Nat):gp (ru (w * h)) (jH top w h):=y2 _ _ _
theorem Ii (top:Bool) (w h:Nat):Sh (fun l => l.length=w * h) (jH top w h):=AT (cC (uG w h) (ce.ret _)) _ _
theorem xV (p q:Nat):da p q<2 ^ 32:=Aa (Nat.mod_lt _ δ) (Nat.mod_lt _ δ) (Nat.mod_lt _ δ) (Nat.mod_lt _ δ)
theorem zj {n:Nat} {l:List Nat} (h:ru n l):ru n (mN l)∧(mN l).length=l.length:=by
 have hl:(mN l).length=l.length:=by rw [vU,fY];simp
 refine ⟨⟨by rw [hl];exact h.1,?_⟩,hl⟩
 rw [vU]
 refine oD (f:=jL) (P:=fun p => p<2 ^ 32) (fun acc p hp => ?_) l [] h.2 (by simp)
 unfold jL
 split
 ·exact hp
 ·exact xV _ _
structure Ej (ht:Nat) (t:Tr):Prop where
 ok:B4 ht t
 index:t.kind=3→t.bits=b0 t.px.length∧1≤t.px.length
theorem Ko {kd w h:Nat} (hk:kd<4) (hw:1≤w∧w≤16384):Sh (fun t => t.1.kind=kd∧t.1.wd=w∧t.2=i0 t.1∧Ej h t.1) (uT kd w h):=by
 unfold uT
 refine pd (fun h1 => ?_) fun h1 => pd (fun h2 => Sh.ret ⟨h2.symm,O,O,⟨by simp,hw,by simp,by simp,by simp⟩,by simp⟩) fun h2 => ?_
 ·refine Sh.bind (fun b => (kS _ _).bind fun px => ly (fun _ => _) (fun _ => _)) (gp.sb 3).sh fun b hb => ?_
  refine Sh.bind (P:=fun px => ru (aq w (b+2) * aq h (b+2)) px∧px.length=aq w (b+2) * aq h (b+2)) (fun px => ly (fun _ => _) (fun _ => _)) (fun s hf => ⟨wY _ _ s,z6 _ _ s hf⟩) fun px hp s hf => ?_
  refine ⟨O,O,?_,⟨by show kd≤3;omega,hw,fun _ => ⟨by show 2≤b+2;omega,by show b+2≤9;omega,hp.2⟩,fun h => by simp only at h;omega,hp.1.2⟩,fun h => by simp only at h;omega⟩
  unfold i0
  rw [if_neg (by show kd≠3;omega)]
 ·refine Sh.bind (fun n => (kS _ _).bind fun px => ce.ret _) (gp.sb 8).sh fun n hn => ?_
  refine Sh.bind (P:=fun px => ru ((n+1) * 1) px∧px.length=(n+1) * 1) (fun px => ce.ret _) (fun s hf => ⟨wY _ _ s,z6 _ _ s hf⟩) fun px hp => Sh.ret ?_
  obtain ⟨s1,s2⟩:=zj hp.1
  have hl:(mN px).length=n+1:=by rw [s2,hp.2];omega
  refine ⟨by show 3=kd;omega,O,O,⟨by simp,hw,by simp,fun _ => ⟨nJ _,by show (mN px).length≤256;omega⟩,s1.2⟩,fun _ => ⟨by show b0 (n+1)=b0 (mN px).length;rw [hl],by show 1≤(mN px).length;omega⟩⟩
theorem wO {t:Tr} (h:1≤t.wd∧t.wd≤16384):1≤i0 t∧i0 t≤16384:=by
 unfold i0
 split
 ·have:=cu (b:=t.bits) h.1
  omega
 ·exact h
def JF (h w0:Nat) (q:List Tr × Nat):Prop:=jJ w0 q.1 q.2∧(∀ t ∈ q.1,Ej h t)∧1≤q.2∧q.2≤16384
theorem D3 {h w0:Nat}:∀ (k w:Nat) (l:List Tr),1≤w∧w≤16384→jJ w0 l w→(∀ t ∈ l,Ej h t)→Sh (JF h w0) (mi h k w l)
 | 0,w,l,hw,hc,ht => Sh.fail
 | k+1,w,l,hw,hc,ht => by
  refine Sh.bind (P:=fun _ => True) (fun u => eK (fun _ => (l,w)) (fun _ => decide (u=0)) ((ce.sb 2).bind fun kd => cC (ce.fail _) ((we _ _ _).bind fun t => kx h k _ _))) (fun s _ => trivial) fun u _ s hf => ?_
  by_cases h0:decide (u=0)=true∨s.f=true
  ·simp only [h0,if_true]
   exact ⟨hc,ht,hw⟩
  ·simp only [h0,if_false] at hf ⊢
   refine Sh.bind (Q:=JF h w0) (fun kd => cC (ce.fail _) ((we _ _ _).bind fun t => kx h k _ _)) (gp.sb 2).sh (fun kd hk => pd (fun _ => Sh.fail) fun _ => ?_) s hf
   refine Sh.bind (fun t => kx h k _ _) (Ko hk hw) fun t ⟨_,h1,h2,h3⟩ => ?_
   rw [h2]
   refine D3 k _ _ (wO h3.ok.wd) (hc.snoc h1) fun x hx => ?_
   rw [List.mem_append,List.mem_singleton] at hx
   rcases hx with hx | rfl
   ·exact ht x hx
   ·exact h3
structure LO (v:(Nat × Nat) × List Tr × List Nat):Prop where
 w:1≤v.1.1∧v.1.1≤16384
 h:1≤v.1.2∧v.1.2≤16384
 trs:∃ nw,jJ v.1.1 v.2.1 nw∧(∀ t ∈ v.2.1,Ej v.1.2 t)∧v.2.2.length=nw * v.1.2
 px:∀ p ∈ v.2.2,p<2 ^ 32
theorem xu:gp (fun q => (1≤q.1∧q.1≤16384)∧1≤q.2∧q.2≤16384) jF :=
 gp.bind (gp.any _) fun m _ => gp.bind (gp.sb 14) fun w hw => gp.bind (gp.sb 14) fun h hh => gp.bind (gp.any _) fun _ _ => gp.bind (gp.any _) fun v _ s => by
  show (1≤w+1∧w+1≤16384)∧1≤h+1∧h+1≤16384
  omega
theorem DZ:Sh LO iu:=by
 have s1:∀ (q:Nat × Nat) (t:List Tr × Nat),ce (fun s => if false=true∨s.f=true then ((q,t.1,[]),s) else cW (jH true t.2 q.2) (fun px => fW (q,t.1,px)) s):=fun q t => eK (fun _ => (q,t.1,[])) (fun _ => false) ((xi _ _ _).bind fun px => ce.ret _)
 refine Sh.bind (fun q => eK (fun _ => (q,[],[])) (fun _ => false) ((kx _ _ _ _).bind (s1 q))) xu.sh fun q hq => tI (g:=fun _ => (q,[],[])) (Sh.bind (s1 q) (D3 5 q.1 [] hq.1 O (by simp)) fun t ht => tI (g:=fun _ => (q,t.1,[])) (Sh.bind (P:=fun px => ru (t.2 * q.2) px∧px.length=t.2 * q.2) (fun px => ce.ret _) (fun s hf => ⟨xq _ _ _ s,Ii _ _ _ s hf⟩) fun px hp => Sh.ret ?_))
 exact ⟨hq.1,hq.2,⟨t.2,ht.1,ht.2.1,hp.2⟩,hp.1.2⟩
def lR (l:List Tr):Prop:=∀ t ∈ l,t.kind=0→fp t.px=false
theorem I9 {kd w h:Nat}:∀ s,(uT kd w h s).2.o=false→(uT kd w h s).1.1.kind=0→fp (uT kd w h s).1.1.px=false:=by
 intro s ho hk
 unfold uT at *
 by_cases h1:kd≤1
 ·simp only [h1,if_true] at *
  simp only [cW,RS.odd,Bool.or_eq_false_iff] at ho hk ⊢
  have:=ho.2
  rw [hk] at this
  simpa using this
 ·simp only [h1,if_false] at *
  by_cases h2:kd=2
  ·simp only [h2,if_true] at hk
   cases hk
  ·simp only [h2,if_false] at hk
   cases hk
theorem BJ {h:Nat}:∀ (k w:Nat) (l:List Tr),lR l→∀ s,(mi h k w l s).2.o=false→lR (mi h k w l s).1.1
 | 0,w,l,hl,s,_ => hl
 | k+1,w,l,hl,s,ho => by
  unfold mi at ho ⊢
  unfold cW at ho ⊢
  generalize sb 1 s=r1 at *
  obtain ⟨u,s1⟩:=r1
  simp only at ho ⊢
  by_cases h0:decide (u=0)=true∨s1.f=true
  ·simp only [h0,if_true];exact hl
  ·simp only [h0,if_false] at ho ⊢
   generalize sb 2 s1=r2 at *
   obtain ⟨kd,s2⟩:=r2
   simp only at ho ⊢
   by_cases ha:l.any (·.kind=kd)=true
   ·rw [if_pos ha];exact hl
   ·rw [if_neg ha] at ho ⊢
    replace ho:(mi h k (uT kd w h s2).1.2 (l++[(uT kd w h s2).1.1]) (uT kd w h s2).2).2.o=false:=ho
    show lR (mi h k (uT kd w h s2).1.2 (l++[(uT kd w h s2).1.1]) (uT kd w h s2).2).1.1
    have ht:=I9 (kd:=kd) (w:=w) (h:=h) s2
    generalize uT kd w h s2=r3 at *
    obtain ⟨t,s3⟩:=r3
    simp only at ho ht ⊢
    have h3:s3.o=false:=by
     cases h3:s3.o with
     | false => rfl
     | true => rw [(kx h k _ _ s3).2 h3] at ho;cases ho
    refine BJ k _ _ (fun x hx => ?_) s3 ho
    rw [List.mem_append,List.mem_singleton] at hx
    rcases hx with hx | rfl
    ·exact hl x hx
    ·exact ht h3
theorem FV (s:RS) (ho:(iu s).2.o=false) (hf:(iu s).2.f=false):lR (iu s).1.2.1:=by
 unfold iu cW at *
 generalize jF s=r1 at *
 obtain ⟨q,s1⟩:=r1
 simp only at ho hf ⊢
 by_cases h1:false=true∨s1.f=true
 ·rw [if_pos h1];intro t ht;simp at ht
 ·rw [if_neg h1] at ho hf ⊢
  have hl:=BJ (h:=q.2) 5 q.1 [] (fun t ht => by simp at ht) s1
  generalize mi q.2 5 q.1 [] s1=r2 at *
  obtain ⟨t,s2⟩:=r2
  simp only at ho hf hl ⊢
  by_cases h2:false=true∨s2.f=true
  ·rw [if_pos h2] at ho ⊢
   exact hl ho
  ·rw [if_neg h2] at ho ⊢
   refine hl ?_
   cases h3:s2.o with
   | false => rfl
   | true =>
    have:=(xi true t.2 q.2 s2).2 h3
    simp only [fW] at ho
    rw [this] at ho
    cases ho
end Go.Proofs.YtmgemcffhbnpfaaGreatDoor
set_option maxHeartbeats 1000000
namespace Go.Proofs.YtmgemcffhbnpfaaGreatDoor
open Go
structure xo (sb so:Nat) (s:List Nat) (w:World):Prop where
 row:l7 w .u8 sb so s
 small:∀ c ∈ s,c<256
 len:s.length≤100000000
theorem xo.keep {sb so:Nat} {s:List Nat} {w w':World} {S:List Nat} (h:xo sb so s w) (hf:cf S w w') (hS:sb ∉ S):xo sb so s w' :=
 ⟨fun j hj => hf.cell (h.row j hj) hS,h.small,h.len⟩
def G_ (sb so c:Nat) (s:List Nat) (k:Nat) (f o:Bool):List Value:=[.slice (some ⟨sb,so,none⟩) s.length c,iT k,.bool f,.bool o]
def cy (rb sb so c:Nat) (s:List Nat) (st:RS):e_:=⟨[rb],fun w => ∃ k,k≤8 * s.length∧st.R=(fi s).drop k∧ff w rb (G_ sb so c s k st.f st.o) 58⟩
theorem eM (rb sb so c:Nat) (s:List Nat) (st:RS):(cy rb sb so c s st).Local∧(cy rb sb so c s st).In:=by
 refine ⟨fun w w' h ⟨k,h1,h2,h3⟩ => ⟨k,h1,h2,(h rb (List.mem_cons_self ..)).trans h3⟩,fun w ⟨k,h1,h2,h3⟩ b hb => ?_⟩
 simp only [cy,List.mem_singleton] at hb
 subst hb
 exact h3.lt
theorem yJ:∀ (s:List Nat) (k:Nat) (h:k / 8<s.length),(fi s)[k]?=some (s[k / 8] / 2 ^ (k % 8) % 2 == 1)
 | [],k,h => by simp at h
 | a :: r,k,h => by
  rw [nD]
  by_cases h8:k<8
  ·have h0:k / 8=0:=ω
   rw [List.getElem?_append_left (by rw [ie];exact h8)]
   simp only [h0,List.getElem_cons_zero]
   rw [Nat.mod_eq_of_lt h8]
   have key:∀ (n c k:Nat),k<n→(aV c n)[k]?=some (c / 2 ^ k % 2 == 1):=by
    intro n
    induction n with
    | zero => intro c k hk;omega
    | succ n ih =>
     intro c k hk
     cases k with
     | zero => simp [aV]
     | succ k =>
      rw [aV,List.getElem?_cons_succ,ih (c / 2) k ω,Nat.div_div_eq_div_mul,Nat.pow_succ,Nat.mul_comm 2]
   exact key 8 a k h8
  ·have h1:k / 8=(k - 8) / 8+1:=ω
   rw [List.getElem?_append_right (by rw [ie];omega),ie]
   simp only [h1,List.getElem_cons_succ]
   have h2:(k - 8) / 8<r.length:=by
    simp only [List.length_cons] at h
    omega
   rw [yJ r (k - 8) h2,show (k - 8) % 8=k % 8 by omega]
theorem IR {n:Nat} {st:RS} (h:n≤st.R.length):sb n st=(val (st.R.take n),⟨st.R.drop n,st.f,st.o⟩):=by unfold sb;rw [if_pos h]
theorem Ja {n:Nat} {st:RS} (h:st.R.length<n):sb n st=(0,⟨[],true,st.o⟩):=by unfold sb;rw [if_neg ω]
theorem uN (W:World) (rb sb so c:Nat) (s:List Nat) (st:RS) (n:Nat) (hn:n≤62) (hr:(cy rb sb so c s st).pred W) (I:xo sb so s W) (hne:sb≠rb) :
  Calls Tryz.prog 44 #[pT rb,iT n] W fun e w' => e=.returned (iT ((Go.Proofs.YtmgemcffhbnpfaaGreatDoor.sb n st).1))∧(cy rb sb so c s (Go.Proofs.YtmgemcffhbnpfaaGreatDoor.sb n st).2).pred w'∧cf [rb] W w':=by
 obtain ⟨k,hk,hR,hb⟩:=hr
 have hlen:=nU s
 have hRl:st.R.length=8 * s.length - k:=by rw [hR,List.length_drop,hlen]
 have hs8:=I.len
 have hS:sb ∉ [rb]:=by simpa using hne
 have H:St W [rb] [aa rb (G_ sb so c s k st.f st.o) 58] W:=gQ hb
 unfold G_ at H
 refine enter (m:=57) Tryz.func44 O Tryz.ntmps44 O (Cy (az O (Lt (Cy (az O (Lt (Cs (Cy (ai O (ai O (Lt ?_)))))))))))
 refine aH (fun ρ w' => ρ 5=iT (val (st.R.take n))∧n≤st.R.length∧St W [rb] [aa rb [.slice (some ⟨sb,so,none⟩) s.length c,iT (k+n),.bool st.f,.bool st.o] 58] w') ?_ ?_
 case refine_1 =>
  refine Cb ?_
  refine Cl (fun mm ρ w' => ∃ i,i≤n∧mm=n - i∧i≤st.R.length∧ρ 0=pT rb∧ρ 5=iT (val (st.R.take i))∧ρ 7=iT n∧ρ 8=iT i ∧
   St W [rb] [aa rb [.slice (some ⟨sb,so,none⟩) s.length c,iT (k+i),.bool st.f,.bool st.o] 58] w') n
   ⟨0,ω,rfl,ω,rfl,rfl,rfl,rfl,H⟩ ?_
  clear H
  rintro mm ρ w5 ⟨i,hi,hmm,hiR,r0,r5,r7,r8,H⟩
  refine Cy (bP η η (Lt ?_))
  by_cases hy:i=n
  case pos =>
   subst hy
   refine Cs (CF O ω (Cx (ax (ax (br (tn ?_))))))
   exact ⟨r5,hiR,H⟩
  refine Cs (CT O ω (Ck (tn (Cs (Cb (Cy (ai η (az O (Lt ?_)))))))))
  by_cases hE:st.R.length≤i
  case pos =>
   have hki:k+i=8 * s.length:=ω
   refine Cs (Cs (Cd aJ κ ?_))
   intro w hsame
   replace H:=H.same hsame
   refine mY η (du O (dD oT O (aD a_ O (H.cell 0 O O) (mY η (du O (dD zw O (aD jg O (H.cell 0 O O) (Sp (dx am O) (Sp (cX (r:=((8 * s.length:Nat):Int)) O O (pK (a:=8) ω)) (Sp (jC (b:=true) O O (decide_eq_true ω)) (Sn (tn ?_))))))))))))
   refine Cp O ?_
   refine Cy (bH η (aK O (aU dL O (ud H 0 lU O O O O ?_))))
   intro w H
   try simp only [List.set,List.eraseIdx] at H
   refine Lt (Cy (az O (Lt (Ct (aE (bL (aE (aE (bL (aE ?_))))))))))
   rw [Ja ω]
   refine ak O O ⟨O,⟨8 * s.length,Nat.le_refl _,?_,?_⟩,H.frm⟩
   ·rw [List.drop_eq_nil_of_le ω]
   ·have:=H.blk (i:=0) rfl
    rw [hki] at this
    exact this
  have hlt:k+i<8 * s.length:=ω
  have h8:(k+i) / 8<s.length:=ω
  have hbit:=yJ s (k+i) h8
  have hc8:s[(k+i) / 8]<256:=I.small _ (List.getElem_mem h8)
  have hdv:=Nat.div_le_self s[(k+i) / 8] (2 ^ ((k+i) % 8))
  have hRi:st.R[i]?=some (s[(k+i) / 8] / 2 ^ ((k+i) % 8) % 2 == 1):=by rw [hR,List.getElem?_drop,hbit]
  obtain ⟨hiR2,hRg⟩:=List.getElem?_eq_some_iff.1 hRi
  obtain ⟨bt,hbt⟩:∃ bt,bt=s[(k+i) / 8] / 2 ^ ((k+i) % 8) % 2:=⟨_,rfl⟩
  have hbt1:bt≤1:=ω
  have hval:val (st.R.take (i+1))=val (st.R.take i)+bt * 2 ^ i:=by
   rw [List.take_succ_eq_append_getElem hiR2,pj,List.length_take,Nat.min_eq_left ω,hRg,← hbt]
   rcases (by omega:bt=0∨bt=1) with h | h <;> rw [h] <;> simp [val]
  have hv:=uO (st.R.take i)
  rw [List.length_take,Nat.min_eq_left ω] at hv
  have hpow:2 ^ i * 2≤2 ^ 62:=by rw [← Nat.pow_succ];exact Nat.pow_le_pow_right ω ω
  have hbp:bt * 2 ^ i≤2 ^ i:=by rcases (by omega:bt=0∨bt=1) with h | h <;> rw [h] <;> omega
  have hor:val (st.R.take i) ||| bt * 2 ^ i=val (st.R.take (i+1)):=by
   rw [hval,Nat.or_comm,Nat.mul_comm,← Nat.two_pow_add_eq_or_of_lt hv,Nat.add_comm]
  refine Cs (Cs (Cd aJ κ ?_))
  intro w hsame
  replace H:=H.same hsame
  refine mY η (du O (dD oT O (aD a_ O (H.cell 0 O O) (mY η (du O (dD zw O (aD jg O (H.cell 0 O O) (Sp (dx am O) (Sp (cX (r:=((8 * s.length:Nat):Int)) O O (pK (a:=8) ω)) (Sp (jC (b:=false) O O (decide_eq_false ω)) (Sn (tn (Cq O (Ck (tn ?_)))))))))))))))
  have hcell:=I.row ((k+i) / 8) h8
  refine Cs (ar 23 aJ κ ?_)
  intro w hsame
  replace H:=H.same hsame
  refine bW r5 (mY η (du O (dD zw O (aD jg O (H.cell 0 O O) (mY η (du O (dD oT O (aD a_ O (H.cell 0 O O) (Sp (ki (r:=(((k+i) / 8:Nat):Int)) O O ω (Dt (b:=8) ω)) (Sp (ci ((k+i) / 8) am O O O h8) (aD aQ O (H.old hcell hS) (mY η (du O (dD oT O (aD a_ O (H.cell 0 O O) (Sp (gI (r:=(((k+i) % 8:Nat):Int)) O O ω O) (Sp (d6 (r:=((s[(k+i) / 8] / 2 ^ ((k+i) % 8):Nat):Int)) O O ω (jd (k:=.u8) (by show _≤8;omega))) (Sp (gZ O O (Mi (b:=1) ⟨ω,ω⟩)) (Sp (rp (r:=(bt:Int)) zV O (by rw [Nat.and_one_is_mod,← hbt];exact Mn ω)) ?_)))))))))))))))))))
  refine bW O (Sp (ed (r:=((bt * 2 ^ i:Nat):Int)) O O ω (x7 ⟨ω,ω⟩)) (Sp (sH (r:=(val (st.R.take (i+1)):Int)) O O (by rw [Mc ⟨ω,ω⟩,hor])) (Sn (az O (Lt (Cr (bH η (aK O (aU oT O (aC a_ O (H.cell 0 O O) (ao (r:=((k+(i+1):Nat):Int)) O O (ck (a:=k+i) (b:=1) ω) (aK O (aU oT O (bC H 0 k_ O O O O ?_))))))))))))))
  intro w H
  try simp only [List.set,List.eraseIdx] at H
  refine Ln (aF (tn (Cr (ao (r:=((i+1:Nat):Int)) r8 O (ck (b:=1) ω) (ai O (Lt ?_))))))
  exact ⟨n - (i+1),ω,i+1,ω,O,ω,r0,O,r7,O,H⟩
 case refine_2 =>
 clear H
 rintro ρ w5 ⟨r5,hnR,H⟩
 refine Cy (ai η (az O (Lt (Ct ?_))))
 rw [IR hnR]
 exact ak O O ⟨O,⟨k+n,ω,by rw [hR,List.drop_drop],H.blk (i:=0) rfl⟩,H.frm⟩
section
variable {w0 w:World} {S:List Nat} {l:List e_} {rb sb so c:Nat} {s:List Nat} {st:RS}
theorem St.rdr (H:St w0 S l w) (i:Nat) {st':RS} {w':World} (hi:l[i]?=some (cy rb sb so c s st)) (hP:(cy rb sb so c s st').pred w') (hf:cf [rb] w w'):St w0 S (l.set i (cy rb sb so c s st')) w' :=
 H.turn hi hf hP (eM _ _ _ _ _ _) fun b hb => .inl hb
variable {nn:Nat} {ops:Array Oper} {lo:List Oper} {Q:cY} {rest:List Oper} {ρ:dK} {ty:TypeId} {pos:String} {after:Array Edge} {x y:Operand} {d:Nat} {ts:Array TypeId}
theorem dC (H:St w0 S l w) (i n:Nat) (I:xo sb so s w) (hne:sb≠rb) (hi:l[i]?=some (cy rb sb so c s st)) (hn:n≤62) (hd:Nat.blt d nn=true) (hx:ev ρ x=pT rb) (hy:ev ρ y=iT n)
  (h:∀ w',cf [rb] w w'→St w0 S (l.set i (cy rb sb so c s (Go.Proofs.YtmgemcffhbnpfaaGreatDoor.sb n st).2)) w'→VL Tryz.prog nn ops Q rest (eW ρ d (iT ((Go.Proofs.YtmgemcffhbnpfaaGreatDoor.sb n st).1))) w') :
  VL Tryz.prog nn ops Q (⟨some d,.call ⟨.value (.func 44),#[x,y],ts⟩,ty,pos,after,none⟩ :: rest) ρ w :=
 aS hd CE (uN w rb sb so c s st n hn (H.get hi) I hne) (by simp [hx,hy]) fun e w' ⟨he,hP,hf⟩ => ⟨_,he,h _ hf (H.rdr i hi hP hf)⟩
end
def pk (a b:Int):Value:=.agg #[.int .i64 a,.int .i64 b]
theorem DE {a b c d:Int}:pk a b=pk c d ↔ a=c∧b=d:=by simp [pk]
def vO (a:Int):Prop:=(Lit.int .i64 a).wf=true
def LJ (P:Program) (t:TypeId) (z:Value):Prop:=∃ kt et e i,P.underlying t=some (.map kt et)∧WideMaps.ArrKey P kt e 2∧P.underlying e=some (.int .i64)∧(∃ m,P.types.size=m+1)∧P.info? et=some i∧i.zero=some z
def DA (w:World) (b:Nat) (m:Int→Int→Option Value):Prop:=∃ (es:Array MapEntry) (clock:Nat),w.heap[b]?=some (.map es clock)∧(∀ e ∈ es.toList,∃ x y,vO x∧vO y∧e.key=pk x y) ∧
 (∀ (i j:Nat) (e e':MapEntry),es.toList[i]?=some e→es.toList[j]?=some e'→e.key=e'.key→i=j)∧∀ x y v,m x y=some v ↔ ∃ e ∈ es.toList,e.key=pk x y∧e.val=v
def f_ (b:Nat) (m:Int→Int→Option Value):e_:=⟨[b],fun w => DA w b m⟩
theorem lj (b:Nat) (m:Int→Int→Option Value):(f_ b m).Local∧(f_ b m).In:=by
 refine ⟨fun w w' h ⟨es,c,h1,h2⟩ => ⟨es,c,by rw [h b (by simp [f_])];exact h1,h2⟩,fun w ⟨es,c,h1,h2⟩ x hx => ?_⟩
 obtain rfl:x=b:=by simpa [f_] using hx
 exact (Array.getElem?_eq_some_iff.1 h1).1
section
variable {P:Program}
theorem BT {t:TypeId} {z:Value} (F:LJ P t z) {w:World} {b:Nat} {m:Int→Int→Option Value} (h:DA w b m) {x y:Int} (hx:vO x) (hy:vO y):(Instr.lookup t (.map (some b)) (pk x y) true).run P w=.ok (.tuple #[(m x y).getD z,.bool (m x y).isSome]) w:=by
 obtain ⟨kt,et,e,i,h1,A,he,hsz,h3,h4⟩:=F
 obtain ⟨es,c,h5,h6,h7,h8⟩:=h
 have K:=A.law
 have hz:(zeroValue et).run P w=.ok z w:=by simp [zeroValue,typeInfo,h3,h4]
 have hg:(getObj b).run P w=.ok (.map es c) w:=by simp [getObj,Sem.run,h5]
 obtain ⟨l,hl⟩:∃ l,keyOf P kt (pk x y)=some l:=⟨_,WideMaps.keyOf_pair A he hsz hx hy⟩
 simp only [Instr.lookup,Sem.run_bind,run_underlying h1,Result.andThen_ok,hg,Sem.run_pure,K.check w es.isEmpty hl]
 rcases K.find w hl es.toList (fun q hq => by
  obtain ⟨x',y',hx',hy',hk⟩:=h6 q hq
  exact ⟨_,by rw [hk];exact WideMaps.keyOf_pair A he hsz hx' hy'⟩) with ⟨hf,hn⟩ | ⟨j,q,hf,hj,hk⟩
 ·have hm:m x y=none:=by
   cases hm:m x y with
   | none => rfl
   | some v =>
    obtain ⟨q,hq,hk,_⟩:=(h8 x y v).1 hm
    exact absurd hk (hn q hq)
  rw [hf,hm]
  simp [Sem.run_bind,hz]
 ·have hm:m x y=some q.val:=(h8 x y _).2 ⟨q,List.mem_of_getElem? hj,hk,rfl⟩
  rw [hf,hm]
  simp [Sem.run_bind]
theorem Bn {t:TypeId} {z:Value} (F:LJ P t z) {w:World} {b:Nat} {m:Int→Int→Option Value} (h:DA w b m) {x y:Int} (hx:vO x) (hy:vO y) (v:Value) :
  ∃ w',(Instr.mapUpdate t (.map (some b)) (pk x y) v).run P w=.ok () w'∧DA w' b (fun x' y' => if x'=x∧y'=y then some v else m x' y')∧cf [b] w w':=by
 obtain ⟨kt,et,e,i,h1,A,he,hsz,h3,h4⟩:=F
 obtain ⟨es,c,h5,h6,h7,h8⟩:=h
 have K:=A.law
 have hg:(getObj b).run P w=.ok (.map es c) w:=by simp [getObj,Sem.run,h5]
 have hset:∀ o,(setObj b o).run P w=.ok () (ChangeMaps.setBlock w b o):=fun o => by
  simp [setObj,Sem.run,ChangeMaps.setBlock,h5]
 have hfrm:∀ o,cf [b] w (ChangeMaps.setBlock w b o):=fun o =>
  ⟨rfl,rfl,rfl,by simp [ChangeMaps.setBlock],fun i _ hi => ChangeMaps.heap_setBlock_other h5 o (by simpa using hi)⟩
 obtain ⟨l,hl⟩:∃ l,keyOf P kt (pk x y)=some l:=⟨_,WideMaps.keyOf_pair A he hsz hx hy⟩
 simp only [Instr.mapUpdate,Sem.run_bind,run_underlying h1,Result.andThen_ok,hg,K.check w false hl]
 rcases K.find w hl es.toList (fun q hq => by
  obtain ⟨x',y',hx',hy',hk⟩:=h6 q hq
  exact ⟨_,by rw [hk];exact WideMaps.keyOf_pair A he hsz hx' hy'⟩) with ⟨hf,hn⟩ | ⟨j,q,hf,hj,hk⟩
 ·rw [hf]
  refine ⟨_,hset _,⟨_,_,ChangeMaps.heap_setBlock_same h5 _,?_,?_,?_⟩,hfrm _⟩
  ·intro e' he'
   simp only [Array.toList_push,List.mem_append,List.mem_singleton] at he'
   rcases he' with he' | rfl
   ·exact h6 e' he'
   ·exact ⟨x,y,hx,hy,O⟩
  ·intro i1 i2 e1 e2 g1 g2 g3
   rw [Array.toList_push] at g1 g2
   have key:∀ {i e},(es.toList++[(⟨pk x y,v,c⟩:MapEntry)])[i]?=some e→(i<es.toList.length∧es.toList[i]?=some e)∨(i=es.toList.length∧e.key=pk x y):=by
    intro i e g
    by_cases hi:i<es.toList.length
    ·rw [List.getElem?_append_left hi] at g
     exact .inl ⟨hi,g⟩
    ·rw [List.getElem?_append_right ω] at g
     obtain ⟨hi2,g2⟩:=List.getElem?_eq_some_iff.1 g
     simp only [List.length_cons,List.length_nil] at hi2
     refine .inr ⟨ω,?_⟩
     have:i - es.toList.length=0:=ω
     simp only [this,List.getElem_cons_zero] at g2
     rw [← g2]
   rcases key g1 with ⟨a1,a2⟩ | ⟨a1,a2⟩
   ·rcases key g2 with ⟨b1,b2⟩ | ⟨b1,b2⟩
    ·exact h7 _ _ _ _ a2 b2 g3
    ·exact absurd (g3.trans b2) (hn _ (List.mem_of_getElem? a2))
   ·rcases key g2 with ⟨b1,b2⟩ | ⟨b1,b2⟩
    ·exact absurd (g3.symm.trans a2) (hn _ (List.mem_of_getElem? b2))
    ·omega
  ·intro x' y' u
   simp only [Array.toList_push,List.mem_append,List.mem_singleton]
   by_cases hxy:x'=x∧y'=y
   ·obtain ⟨rfl,rfl⟩:=hxy
    simp only [and_self,if_true,Option.some.injEq]
    constructor
    ·rintro rfl
     exact ⟨_,.inr rfl,O,O⟩
    ·rintro ⟨e',he' | rfl,k1,k2⟩
     ·exact absurd k1 (hn e' he')
     ·exact k2
   ·rw [if_neg hxy,h8]
    constructor
    ·rintro ⟨e',he',k1,k2⟩
     exact ⟨e',.inl he',k1,k2⟩
    ·rintro ⟨e',he' | rfl,k1,k2⟩
     ·exact ⟨e',he',k1,k2⟩
     ·have:=DE.1 k1
      exact absurd ⟨this.1.symm,this.2.symm⟩ hxy
 ·rw [hf]
  have hk2:(Instr.keyThatStays ((es[j]?.map (·.key)).getD (pk x y)) (pk x y)).run P w=.ok (pk x y) w:=by
   have:es[j]?=some q:=by rw [← hj];simp
   rw [this]
   simp only [Option.map_some,Option.getD_some,hk]
   exact K.stays w hl
  simp only [Sem.run_bind,Sem.run_pure,Result.andThen_ok,hk2]
  have hget:∀ i e',(es.modify j fun e => { e with key:=pk x y,val:=v }).toList[i]?=some e'→∃ e0,es.toList[i]?=some e0∧e'.key=e0.key∧e'.val=if i=j then v else e0.val:=by
   intro i e' g
   rw [Array.toList_modify,List.getElem?_modify] at g
   obtain ⟨e0,g0,g1⟩:=Option.map_eq_some_iff.1 g
   refine ⟨e0,g0,?_⟩
   by_cases hij:j=i
   ·subst hij
    rw [hj,Option.some.injEq] at g0
    subst g0
    simp only [if_true] at g1
    rw [← g1]
    exact ⟨hk.symm,by simp⟩
   ·simp only [hij,if_false,id] at g1
    subst g1
    exact ⟨O,by rw [if_neg (fun h => hij h.symm)]⟩
  refine ⟨_,hset _,⟨_,_,ChangeMaps.heap_setBlock_same h5 _,?_,?_,?_⟩,hfrm _⟩
  ·intro e' he'
   obtain ⟨i,hi⟩:=List.mem_iff_getElem?.1 he'
   obtain ⟨e0,g0,g1,_⟩:=hget i e' hi
   obtain ⟨x',y',k1,k2,k3⟩:=h6 e0 (List.mem_of_getElem? g0)
   exact ⟨x',y',k1,k2,g1.trans k3⟩
  ·intro i1 i2 e1 e2 g1 g2 g3
   obtain ⟨a,a1,a2,_⟩:=hget _ _ g1
   obtain ⟨b',b1,b2,_⟩:=hget _ _ g2
   exact h7 _ _ _ _ a1 b1 (a2.symm.trans (g3.trans b2))
  ·intro x' y' u
   have hmem:(∃ e ∈ (es.modify j fun e => { e with key:=pk x y,val:=v }).toList,e.key=pk x' y'∧e.val=u) ↔ ∃ i e0,es.toList[i]?=some e0∧e0.key=pk x' y'∧(if i=j then v else e0.val)=u:=by
    constructor
    ·rintro ⟨e',he',k1,k2⟩
     obtain ⟨i,hi⟩:=List.mem_iff_getElem?.1 he'
     obtain ⟨e0,g0,g1,g2⟩:=hget i e' hi
     exact ⟨i,e0,g0,g1.symm.trans k1,g2.symm.trans k2⟩
    ·rintro ⟨i,e0,g0,k1,k2⟩
     have hi:i<(es.modify j fun e => { e with key:=pk x y,val:=v }).toList.length:=by
      have:=(List.getElem?_eq_some_iff.1 g0).1
      simpa using this
     obtain ⟨e0',g0',g1,g2⟩:=hget i _ (List.getElem?_eq_getElem hi)
     rw [g0,Option.some.injEq] at g0'
     subst g0'
     exact ⟨_,List.getElem_mem hi,g1.trans k1,g2.trans k2⟩
   rw [hmem]
   show (if x'=x∧y'=y then some v else m x' y')=some u ↔ _
   by_cases hxy:x'=x∧y'=y
   ·obtain ⟨rfl,rfl⟩:=hxy
    simp only [and_self,if_true,Option.some.injEq]
    constructor
    ·rintro rfl
     exact ⟨j,q,hj,hk,by simp⟩
    ·rintro ⟨i,e0,g0,k1,k2⟩
     have:i=j:=h7 _ _ _ _ g0 hj (k1.trans hk.symm)
     rw [if_pos this] at k2
     exact k2
   ·rw [if_neg hxy,h8]
    constructor
    ·rintro ⟨e',he',k1,k2⟩
     obtain ⟨i,hi⟩:=List.mem_iff_getElem?.1 he'
     refine ⟨i,e',hi,k1,?_⟩
     rw [if_neg]
     ·exact k2
     ·rintro rfl
      rw [hj,Option.some.injEq] at hi
      subst hi
      have:=DE.1 (hk.symm.trans k1)
      exact hxy ⟨this.1.symm,this.2.symm⟩
    ·rintro ⟨i,e0,g0,k1,k2⟩
     refine ⟨e0,List.mem_of_getElem? g0,k1,?_⟩
     rw [if_neg] at k2
     ·exact k2
     ·rintro rfl
      rw [hj,Option.some.injEq] at g0
      subst g0
      have:=DE.1 (hk.symm.trans k1)
      exact hxy ⟨this.1.symm,this.2.symm⟩
variable {w0 w:World} {S:List Nat} {l:List e_}
variable {n:Nat} {ops:Array Oper} {Q:cY} {rest:List Oper} {ρ:dK} {ty:TypeId} {pos:String} {after:Array Edge} {t:TypeId} {x y u:Operand} {b d:Nat} {v z:Value} {m:Int→Int→Option Value} {q r:Int}
theorem AM (H:St w0 S l w) (hd:Nat.blt d n=true)
  (h:∀ w' b,w.heap.size≤b→w0.heap.size≤b→St w0 S (f_ b (fun _ _ => none) :: l) w'→VL P n ops Q rest (eW ρ d (.map (some b))) w') :
  VL P n ops Q (⟨some d,.makeMap t none,ty,pos,after,none⟩ :: rest) ρ w:=by
 refine Lo hd (v:=.map (some w.heap.size)) (w':=w.alloc (.map #[] 0)) ?_ (h _ _ (Nat.le_refl _) H.high
  (H.add (cf.new [] w _) ⟨#[],0,by show (w.heap.push _)[w.heap.size]?=_;rw [Array.getElem?_push,if_pos rfl],by simp,by simp,by simp⟩ (lj _ _) (by simp [f_])))
 unfold dE
 simp only [execOp,Sem.run_bind]
 rfl
theorem DX {e:Operand→Value} {d:Option Tmp} {g:Option (Nat × Bool)} (F:LJ P t z) (hm:DA w b m) (h1:vO q) (h2:vO r) (hx:e x=.map (some b)) (hy:e y=pk q r) (hv:(m q r).getD z=v) {k:Bool} (hk:(m q r).isSome=k) :
  dE P e ⟨d,.lookup t x y true,ty,pos,after,g⟩ w (.tuple #[v,.bool k]) w:=by
 unfold dE
 simp only [execOp,hx,hy,Sem.run_bind,BT F hm h1 h2,Result.andThen_ok,hv,hk]
 rfl
theorem yk (i:Nat) (H:St w0 S l w) (F:LJ P t z) (hi:l[i]?=some (f_ b m)) (h1:vO q) (h2:vO r) (hx:ev ρ x=.map (some b)) (hy:ev ρ y=pk q r) (hu:ev ρ u=v)
  (h:∀ w',St w0 S (l.set i (f_ b (fun x' y' => if x'=q∧y'=r then some v else m x' y'))) w'→VL P n ops Q rest ρ w') :
  VL P n ops Q (⟨none,.mapUpdate t x y u,ty,pos,after,none⟩ :: rest) ρ w:=by
 obtain ⟨w',e1,e2,e3⟩:=Bn F (show DA w b m from H.get hi) h1 h2 v
 refine xZ (w':=w') ?_ (h _ (H.turn hi e3 e2 (lj _ _) (fun b hb => .inl hb)))
 unfold IW
 simp only [execOp,hx,hy,hu,Sem.run_bind,e1,Result.andThen_ok]
 rfl
end
theorem wV {P:Program} {fn:Func} {R:Ending→World→Prop} {ρ:dK} {w:World} {a b k t:Nat} {bk:Nat} {cs:List Value} {v2:Value} (hr:fn.results=#[.cell a t,.tmp b]) (F:C5 P t k) (h1:ρ a=pT bk) (hl:cs.length=k) (hc:∀ j,j<k→w.cell? ⟨bk,0+j,none⟩=cs[j]?)
  (h2:ρ b=v2) (h:R (.returned (.tuple #[.agg cs.toArray,v2])) w):aO P fn R .ret ρ w:=by
 refine ⟨_,fun tmps ht => ?_,h⟩
 have hL:=F bk 0 w cs hl hc
 simp only [Instr.loadAt,Instr.sureAddr,Sem.run_bind,Sem.run_pure,Result.andThen_ok] at hL
 simp only [results,hr]
 simp [ht,h1,h2,asAddr,hL]
theorem HU (m:Option Nat) (n:Int):Tryz.prog.built 134 [(0,.map m),(1,.int .i64 n)]=some #[.map m,.int .i64 n]:=κ
theorem Km:LJ Tryz.prog 132 (.int .i64 0) :=
 ⟨173,3,3,_,Tryz.underlying132,⟨Tryz.underlying173,κ,κ,κ⟩,Tryz.underlying3,⟨Tryz.prog.types.size - 1,κ⟩,rfl,rfl⟩
theorem EL {n:Nat} (h:n<9223372036854775808):vO (n:Int):=by
 unfold vO
 simp only [Lit.wf,Bool.and_eq_true,decide_eq_true_eq]
 exact (show (-9223372036854775808:Int)≤n∧(n:Int)≤9223372036854775807 by omega)
def dO (ls:List Nat) (i:Nat) (x y:Int):Option Value:=if 0<x∧0≤y then ((List.range i).find? fun s => decide (ls.getD s 0=x.toNat) && decide (dq ls s=y.toNat)).map fun s => (iT s) else none
def iG (ls:List Nat):Int:=if ls.countP (·≠0)=1 then (j7 ls:Nat) else -1
def xz (mb:Nat) (ls:List Nat):Value:=.agg #[.map (some mb),.int .i64 (iG ls)]
theorem E4 (ls:List Nat) {l n:Nat} (hl:0<l):dO ls ls.length (l:Int) (n:Int)=(kO ls l n).map fun s => (iT s):=by
 unfold dO kO
 rw [if_pos ⟨ω,ω⟩]
 simp
theorem E9 {ls:List Nat} {s i:Nat} (h:s<i) (hi:i<ls.length) (he:ls.getD s 0=ls.getD i 0):dq ls s<dq ls i:=by
 unfold dq
 rw [he]
 have h1:ls.take i=ls.take s++(ls.take i).drop s:=by
  have:=(List.take_append_drop s (ls.take i)).symm
  rwa [List.take_take,Nat.min_eq_left ω] at this
 have h2:0<((ls.take i).drop s).count (ls.getD i 0):=by
  refine List.count_pos_iff.2 ?_
  rw [List.mem_iff_getElem?]
  refine ⟨0,?_⟩
  rw [List.getElem?_drop,List.getElem?_take,if_pos ω]
  have:s<ls.length:=ω
  rw [← he]
  simp [this]
 rw [h1,List.count_append]
 omega
theorem xg {ls:List Nat} {i:Nat} (hi:i<ls.length):(fun x y => if x=((ls.getD i 0:Nat):Int)∧y=((dq ls i:Nat):Int)∧0<ls.getD i 0 then some (iT i) else dO ls i x y)=dO ls (i+1):=by
 funext x y
 unfold dO
 by_cases h:0<x∧0≤y
 ·rw [if_pos h,if_pos h,List.range_succ,List.find?_append]
  by_cases hxy:x=((ls.getD i 0:Nat):Int)∧y=((dq ls i:Nat):Int)∧0<ls.getD i 0
  ·rw [if_pos hxy]
   obtain ⟨rfl,rfl,h0⟩:=hxy
   have hn:((List.range i).find? fun s => decide (ls.getD s 0=((ls.getD i 0:Nat):Int).toNat) && decide (dq ls s=((dq ls i:Nat):Int).toNat))=none:=by
    rw [List.find?_eq_none]
    intro s hs
    rw [List.mem_range] at hs
    simp only [Int.toNat_natCast,Bool.and_eq_true,decide_eq_true_eq,not_and]
    intro he hc
    have:=E9 hs hi he
    omega
   rw [hn]
   simp
  ·rw [if_neg hxy]
   have:([i].find? fun s => decide (ls.getD s 0=x.toNat) && decide (dq ls s=y.toNat))=none:=by
    rw [List.find?_eq_none]
    intro s hs
    rw [List.mem_singleton] at hs
    subst hs
    simp only [Bool.and_eq_true,decide_eq_true_eq,not_and]
    intro h1 h2
    exact hxy ⟨ω,ω,ω⟩
   rw [this,Option.or_none]
 ·rw [if_neg h,if_neg h]
  rw [if_neg]
  rintro ⟨rfl,rfl,h0⟩
  exact h ⟨ω,ω⟩
theorem Cf {ls:List Nat} {i:Nat} (h0:ls.getD i 0=0) (hi:i<ls.length):dO ls (i+1)=dO ls i:=by
 rw [← xg hi]
 funext x y
 rw [if_neg (by rintro ⟨_,_,h⟩;omega)]
theorem xj {ls:List Nat} {i:Nat} (hi:i<ls.length):eD (ls.take (i+1))=eD (ls.take i)+room (ls.getD i 0):=by
 unfold eD
 rw [List.take_succ_eq_append_getElem hi,List.map_append,List.sum_append]
 simp [hi]
theorem vk {ls:List Nat} {i:Nat} (hi:i<ls.length):(ls.take (i+1)).countP (·≠0)=(ls.take i).countP (·≠0)+if ls.getD i 0=0 then 0 else 1:=by
 rw [List.take_succ_eq_append_getElem hi,List.countP_append]
 by_cases h:ls[i]=0 <;> simp [hi,h]
def qg (ls:List Nat) (i:Nat):Int:=(List.range i).foldl (fun a j => if ls.getD j 0=0 then a else (j:Int)) (-1)
theorem sK (ls:List Nat) (i:Nat):qg ls (i+1)=if ls.getD i 0=0 then qg ls i else (i:Int):=by
 unfold qg
 rw [List.range_succ,List.foldl_append]
 rfl
theorem C4 {ls:List Nat} (h:0<ls.countP (·≠0)):qg ls ls.length=(j7 ls:Nat):=by
 have key:∀ n,n≤ls.length→(0<(ls.take n).countP (·≠0)→qg ls n=(((List.range n).foldl (fun a i => if ls.getD i 0=0 then a else i) 0:Nat):Int)):=by
  intro n
  induction n with
  | zero => intro _ h;simp at h
  | succ n ih =>
   intro hn hc
   rw [sK,List.range_succ,List.foldl_append]
   simp only [List.foldl_cons,List.foldl_nil]
   rw [vk ω] at hc
   by_cases h0:ls.getD n 0=0
   ·rw [if_pos h0] at hc
    rw [if_pos h0,if_pos h0]
    exact ih ω ω
   ·rw [if_neg h0,if_neg h0]
 have:=key ls.length (Nat.le_refl _) (by rw [List.take_length];exact h)
 rw [this]
 rfl
theorem A_ (ls:List Nat):eD ls≤16384 * ls.length:=by
 unfold eD
 induction ls with
 | nil => simp
 | cons a r ih =>
  have:room a≤16384:=by
   unfold room
   split
   ·omega
   ·have:=Nat.pow_le_pow_right (n:=2) ω (show 15 - a≤14 by omega)
    omega
  simp only [List.map_cons,List.sum_cons,List.length_cons]
  omega
theorem Bs (W:World) (b o c:Nat) (ls:List Nat) (hr:l7 W .i64 b o ls) (h15:∀ x ∈ ls,x≤15) (hn:ls.length≤4096) :
  Calls Tryz.prog 80 #[.slice (some ⟨b,o,none⟩) ls.length c] W fun e w' => ∃ mb,e=.returned (.tuple #[xz mb ls,.bool (CX ls)])∧W.heap.size≤mb∧DA w' mb (dO ls ls.length)∧cf [] W w':=by
 have H:St W [] [] W:=St.nil W []
 have hS:b ∉ ([]:List Nat):=List.not_mem_nil
 refine enter (m:=49) Tryz.func80 O Tryz.ntmps80 O (Cy (cE H tB O ?_))
 intro w b2 hn2 hb2 H
 refine cU O (Lt (Cy (AM H O ?_)))
 intro w mb hmb1 hmb H
 refine Lp (iF [.map (some mb),.int .i64 (-1)] O (HU _ _)) (cE H tB O ?_)
 intro w b4 hn4 hb4 H
 refine dG (vs:=[.map (some mb),.int .i64 (-1)]) H 0 qM O O O O O (by simp [Value.oneCell']) ?_
 intro w H
 simp only [List.set] at H
 refine Lt (Cy (az O (az O (Lt (Cs (Cy (bU O (uJ H (fun j hj => H.old (hr j hj) hS) h15 ω O O ?_))))))))
 intro w g hg H
 refine bG bh O (ai O (Lt ?_))
 refine aH (fun ρ w' => ρ 2=pT b2∧ρ 4=pT b4∧ρ 5=iT (eD ls)∧ρ 6=iT (ls.countP (·≠0)) ∧
  St W [] [aa b4 [.map (some mb),.int .i64 (qg ls ls.length)] 134,f_ mb (dO ls ls.length),aa b2 [.map none,.int .i64 0] 134] w') ?_ ?_
 case refine_1 =>
  refine Cb ?_
  refine Cl (fun mm ρ w' => ∃ i,i≤ls.length∧mm=ls.length - i∧ρ 0=.slice (some ⟨b,o,none⟩) ls.length c∧ρ 2=pT b2∧ρ 4=pT b4∧ρ 5=iT (eD (ls.take i))∧ρ 6=iT ((ls.take i).countP (·≠0)) ∧
   ρ 13=.slice (aT g) ls.length ls.length∧ρ 14=iT ls.length∧ρ 15=iT i ∧
   St W [] [aa g (bM .i64 (fun s => if ls.getD s 0=0 then 0 else dq ls s) ls.length) 3,aa b4 [.map (some mb),.int .i64 (qg ls i)] 134,f_ mb (dO ls i),aa b2 [.map none,.int .i64 0] 134] w') ls.length
   ⟨0,Nat.zero_le _,rfl,rfl,rfl,rfl,rfl,rfl,rfl,rfl,rfl,by
    have:dO ls 0=fun _ _ => none:=by
     funext x y
     unfold dO
     split <;> simp
    rw [this]
    exact H⟩ ?_
  clear H
  rintro mm ρ w5 ⟨i,hi,hmm,r0,r2,r4,r5,r6,r13,r14,r15,H⟩
  refine Cy (bP η η (Lt ?_))
  by_cases hy:i=ls.length
  case pos =>
   subst hy
   refine Cs (CF O ω (Cx (ax (ax (br (tn ?_))))))
   rw [List.take_length] at r5 r6
   exact ⟨r2,r4,r5,r6,H.sub [1,2,3] O (by simp)⟩
  have hlt:i<ls.length:=ω
  have hcell:W.cell? ⟨b,o+i,none⟩=some (iT (ls.getD i 0)):=by
   rw [hr i hlt]
   simp [hlt]
  have hx15:ls.getD i 0≤15:=vX h15 i hlt
  have hkr:=xj hlt
  have hct:=vk hlt
  have hkl:=A_ (ls.take i)
  have hcl:(ls.take i).countP (·≠0)≤(ls.take i).length:=List.countP_le_length
  rw [List.length_take,Nat.min_eq_left hi] at hkl hcl
  have hsc:dq ls i≤8589934592+4096:=by
   have h1:=xa ls ω (k:=ls.getD i 0) ω
   have h2:(ls.take i).count (ls.getD i 0)≤(ls.take i).length:=List.count_le_length
   rw [List.length_take,Nat.min_eq_left hi] at h2
   unfold dq
   omega
  obtain ⟨cv,hcv⟩:∃ cv,cv=if ls.getD i 0=0 then 0 else dq ls i:=⟨_,rfl⟩
  have hcode:(bM .i64 (fun s => if ls.getD s 0=0 then 0 else dq ls s) ls.length)[0+i]?=some (iT cv):=by rw [Nat.zero_add,af hlt,hcv]
  refine Cs (CT O ω (Ck (tn (Cs (Cb (Cy (ai η (Lp (ci i bh r13 r15 O hlt) (aC a_ O (H.cell 0 O hcode) (az O (az O (Lt (Cy (bU η (ai O (Lp (ci i bh O O O hlt) ?_))))))))))))))))
  refine aC a_ O (H.old hcell hS) (az O (Lt (Cy (ai O (Lp (e9 O O) (Lt ?_))))))
  by_cases h0:ls.getD i 0=0
  case pos =>
   refine CF O ω (Ck (aF (tn (Cr (ao (r:=((i+1:Nat):Int)) r15 O (ck (b:=1) ω) (ai O (Lt ?_)))))))
   rw [Cf h0 hlt |>.symm] at H
   have hla:qg ls (i+1)=qg ls i:=by rw [sK,if_pos h0]
   rw [← hla] at H
   rw [if_pos h0] at hct
   have hro:room (ls.getD i 0)=0:=by rw [h0];rfl
   exact ⟨ls.length - (i+1),ω,i+1,ω,O,r0,r2,r4,by rw [hkr,hro];exact r5,by rw [hct];exact r6,r13,r14,O,H⟩
  have hro:room (ls.getD i 0)=1 * 2 ^ (15 - ls.getD i 0):=by unfold room;rw [if_neg h0,Nat.one_mul]
  have hp:2 ^ (15 - ls.getD i 0)≤2 ^ 14:=Nat.pow_le_pow_right ω ω
  rw [if_neg h0] at hcv
  refine CT O ω (Cy (aU xe η (aC DH O (H.cell 1 O O) (ai O (ai O (Lp (iF [iT (ls.getD i 0),iT cv] O (Et _ _)) (ai O (yk 2 H Km O (EL (n:=ls.getD i 0) ω) (EL (n:=cv) ω) O O (v:=iT i) O ?_))))))))
  intro w H
  refine Lt (Cy (ai η (ai O (bw (r:=((15 - ls.getD i 0:Nat):Int)) O O (iw (a:=15) ω) (Lp (ed (r:=((1 * 2 ^ (15 - ls.getD i 0):Nat):Int)) O O ω (x7 (a:=1) ⟨ω,ω⟩)) (ao (r:=(eD (ls.take (i+1)):Nat)) O O (by rw [ck ω,hkr,hro]) (az O (Lt (Cy (ai η (ao (r:=((ls.take (i+1)).countP (·≠0):Nat)) O O (by rw [hct,if_neg h0];exact ck (b:=1) ω) (az O (Lt (Cr ?_))))))))))))))
  refine ai O (aU qh η (bC H 1 k_ O O O O ?_))
  intro w H
  simp only [List.set] at H
  refine Ln (aF (tn (Cr (ao (r:=((i+1:Nat):Int)) r15 O (ck (b:=1) ω) (ai O (Lt ?_))))))
  have hmap:(fun x' y' => if x'=((ls.getD i 0:Nat):Int)∧y'=((dq ls i:Nat):Int) then some (iT i) else dO ls i x' y')=dO ls (i+1):=by
   rw [← xg hlt]
   funext x y
   by_cases h:x=((ls.getD i 0:Nat):Int)∧y=((dq ls i:Nat):Int)
   ·rw [if_pos h,if_pos ⟨h.1,h.2,ω⟩]
   ·rw [if_neg h,if_neg (by rintro ⟨h1,h2,_⟩;exact h ⟨h1,h2⟩)]
  rw [hcv,hmap] at H
  have hla:qg ls (i+1)=(i:Int):=by rw [sK,if_neg h0]
  exact ⟨ls.length - (i+1),ω,i+1,ω,O,r0,r2,r4,O,O,r13,r14,O,by rw [hla];exact H⟩
 case refine_2 =>
 clear H
 rintro ρ w5 ⟨r2,r4,r5,r6,H⟩
 refine Cs (Cy (ai η (bF O O (Lt ?_))))
 by_cases h1:ls.countP (·≠0)=1
 case pos =>
  have hon:qg ls ls.length=iG ls:=by unfold iG;rw [if_pos h1,C4 ω]
  rw [hon] at H
  have hok:CX ls=true:=by unfold CX;rw [decide_eq_true h1];rfl
  refine CT O ω (Cy (Lp (fH (cs:=[.map (some mb),.int .i64 (iG ls)]) j6 r4 O (fun j hj => by rw [Nat.zero_add];exact (H.blk (i:=0) O).cell j)) (dG (vs:=[.map (some mb),.int .i64 (iG ls)]) H 2 qM r2 O O O O (by simp [Value.oneCell']) ?_)))
  intro w H
  simp only [List.set] at H
  refine cU O (Lt (Ct (aE ?_)))
  refine wV (cs:=[.map (some mb),.int .i64 (iG ls)]) O j6 r2 O (fun j hj => by rw [Nat.zero_add];exact (H.blk (i:=2) O).cell j) O ⟨mb,by rw [hok];rfl,hmb,H.get (i:=1) rfl,H.frm⟩
 have hon:iG ls=-1:=by unfold iG;rw [if_neg h1]
 have hok:CX ls=decide (eD ls=32768):=by unfold CX;rw [decide_eq_false h1,Bool.false_or]
 refine CF O ω (Ck (tn (Cy (aU qh η (bC H 0 k_ O O O O ?_)))))
 intro w H
 refine Lt (Cy (Lp (fH (cs:=[.map (some mb),.int .i64 (-1)]) j6 r4 O (fun j hj => by rw [Nat.zero_add];exact (H.blk (i:=0) O).cell j)) (ai η (Lp (bR (b:=CX ls) O O (by rw [hok];exact decide_eq_decide.2 ω)) (dG (vs:=[.map (some mb),.int .i64 (-1)]) H 2 qM r2 O O O O (by simp [Value.oneCell']) ?_)))))
 intro w H
 simp only [List.set] at H
 refine cU O (Lt (Ct ?_))
 refine wV (cs:=[.map (some mb),.int .i64 (-1)]) O j6 r2 O (fun j hj => by rw [Nat.zero_add];exact (H.blk (i:=2) O).cell j) O ⟨mb,by rw [← hon];rfl,hmb,H.get (i:=1) rfl,H.frm⟩
theorem G6 (W:World) (b o c:Nat) (ls:List Nat) (hr:l7 W .i64 b o ls) (h15:∀ x ∈ ls,x≤15) (hn:ls.length≤4096) :
  Calls Tryz.prog 81 #[.slice (some ⟨b,o,none⟩) ls.length c] W fun e w' => e=.returned (.bool (qw ls))∧cf [] W w':=by
 have H:St W [] [] W:=St.nil W []
 have hS:b ∉ ([]:List Nat):=List.not_mem_nil
 refine enter (m:=22) Tryz.func81 O Tryz.ntmps81 O (Cy (cU O (Lt (Cy (az O (Lt (Cs (Cy (bU O (bG bh O (ai O (Lt ?_))))))))))))
 refine aH (fun ρ w' => ρ 3=iT (eD ls)∧St W [] [] w') ?_ ?_
 case refine_1 =>
  refine Cb ?_
  refine Cl (fun mm ρ w' => ∃ i,i≤ls.length∧mm=ls.length - i∧ρ 3=iT (eD (ls.take i))∧ρ 6=.slice (some ⟨b,o,none⟩) ls.length c∧ρ 7=iT ls.length∧ρ 8=iT i∧St W [] [] w') ls.length
   ⟨0,Nat.zero_le _,rfl,rfl,rfl,rfl,rfl,H⟩ ?_
  clear H
  rintro mm ρ w5 ⟨i,hi,hmm,r3,r6,r7,r8,H⟩
  refine Cy (bP η η (Lt ?_))
  by_cases hy:i=ls.length
  case pos =>
   subst hy
   refine Cs (CF O ω (Cx (ax (ax (br (tn ?_))))))
   rw [List.take_length] at r3
   exact ⟨r3,H⟩
  have hlt:i<ls.length:=ω
  have hcell:W.cell? ⟨b,o+i,none⟩=some (iT (ls.getD i 0)):=by
   rw [hr i hlt]
   simp [hlt]
  have hx15:ls.getD i 0≤15:=vX h15 i hlt
  have hkr:=xj hlt
  have hkl:=A_ (ls.take i)
  rw [List.length_take,Nat.min_eq_left hi] at hkl
  refine Cs (CT O ω (Ck (tn (Cs (Cb (Cy (Lp (ci i bh r6 r8 O hlt) (aC a_ O (H.old hcell hS) (az O (Lt (Cy (ai O (Lp (e9 O O) (Lt ?_))))))))))))))
  by_cases h0:ls.getD i 0=0
  case pos =>
   refine CF O ω (Ck (aF (tn (Cr (ao (r:=((i+1:Nat):Int)) r8 O (ck (b:=1) ω) (ai O (Lt ?_)))))))
   have hro:room (ls.getD i 0)=0:=by rw [h0];rfl
   exact ⟨ls.length - (i+1),ω,i+1,ω,O,by rw [hkr,hro];exact r3,r6,r7,O,H⟩
  have hro:room (ls.getD i 0)=1 * 2 ^ (15 - ls.getD i 0):=by unfold room;rw [if_neg h0,Nat.one_mul]
  have hp:2 ^ (15 - ls.getD i 0)≤2 ^ 14:=Nat.pow_le_pow_right ω ω
  refine CT O ω (Cr (ai η (ai O (bw (r:=((15 - ls.getD i 0:Nat):Int)) O O (iw (a:=15) ω) (Lp (ed (r:=((1 * 2 ^ (15 - ls.getD i 0):Nat):Int)) O O ω (x7 (a:=1) ⟨ω,ω⟩)) (ao (r:=(eD (ls.take (i+1)):Nat)) O O (by rw [ck ω,hkr,hro]) (az O (Ln (aF (tn (Cr (ao (r:=((i+1:Nat):Int)) r8 O (ck (b:=1) ω) (ai O (Lt ?_))))))))))))))
  exact ⟨ls.length - (i+1),ω,i+1,ω,O,O,r6,r7,O,H⟩
 case refine_2 =>
 clear H
 rintro ρ w5 ⟨r3,H⟩
 refine Cy (ai η (Lp (bE (b:=qw ls) O O (by unfold qw;exact decide_eq_decide.2 ω)) (cU O (Lt (Ct ?_)))))
 exact ak O O ⟨O,H.frm⟩
theorem DA.keep {w w':World} {S:List Nat} {b:Nat} {m:Int→Int→Option Value} (h:DA w b m) (hf:cf S w w') (hS:b ∉ S):DA w' b m:=by
 obtain ⟨es,c,h1,h2⟩:=h
 exact ⟨es,c,by rw [hf.block b (Array.getElem?_eq_some_iff.1 h1).1 hS];exact h1,h2⟩
section
variable {w0 w:World} {S:List Nat} {l:List e_} {rb sb so c:Nat} {s:List Nat} {st:RS}
theorem St.rdF (H:St w0 S l w) (i:Nat) (hi:l[i]?=some (cy rb sb so c s st)):w.cell? ⟨rb,2,none⟩=some (.bool st.f):=by
 obtain ⟨k,_,_,h⟩:=H.get hi
 exact h.cellv O
theorem St.rdO (H:St w0 S l w) (i:Nat) (hi:l[i]?=some (cy rb sb so c s st)):w.cell? ⟨rb,3,none⟩=some (.bool st.o):=by
 obtain ⟨k,_,_,h⟩:=H.get hi
 exact h.cellv O
variable {nn:Nat} {ops:Array Oper} {lo:List Oper} {Q:cY} {rest:List Oper} {ρ:dK} {ty t:TypeId} {pos:String} {after:Array Edge} {x y:Operand} {d:Nat} {ts:Array TypeId}
theorem g_ (H:St w0 S l w) (i:Nat) (F:vK Tryz.prog t) (hx:ev ρ x=.pointer (some ⟨rb,2,none⟩)) (hi:l[i]?=some (cy rb sb so c s st)) {v:Bool} (hy:ev ρ y=.bool v)
  (h:∀ w',St w0 S (l.set i (cy rb sb so c s ⟨st.R,v,st.o⟩)) w'→VL Tryz.prog nn ops Q rest ρ w'):VL Tryz.prog nn ops Q (⟨none,.store t x y,ty,pos,after,none⟩ :: rest) ρ w:=by
 obtain ⟨k,h1,h2,h3⟩:=H.get hi
 exact xZ (td F hx hy O (h3.cellv (i:=2) O) (h3.fz _)) (h _ (H.rdr i hi ⟨k,h1,h2,h3.put 2 _⟩ (cf.put w _ _ (by simp))))
theorem kw (H:St w0 S l w) (i:Nat) (F:vK Tryz.prog t) (hx:ev ρ x=.pointer (some ⟨rb,3,none⟩)) (hi:l[i]?=some (cy rb sb so c s st)) {v:Bool} (hy:ev ρ y=.bool v)
  (h:∀ w',St w0 S (l.set i (cy rb sb so c s ⟨st.R,st.f,v⟩)) w'→VL Tryz.prog nn ops Q rest ρ w'):VL Tryz.prog nn ops Q (⟨none,.store t x y,ty,pos,after,none⟩ :: rest) ρ w:=by
 obtain ⟨k,h1,h2,h3⟩:=H.get hi
 exact xZ (td F hx hy O (h3.cellv (i:=3) O) (h3.fz _)) (h _ (H.rdr i hi ⟨k,h1,h2,h3.put 3 _⟩ (cf.put w _ _ (by simp))))
end
theorem De (W:World) (rb sb so c mb:Nat) (s:List Nat) (st:RS) (ls:List Nat) (hr:(cy rb sb so c s st).pred W) (I:xo sb so s W) (hne:sb≠rb) (hm:DA W mb (dO ls ls.length)) (hmb:mb≠rb) :
  Calls Tryz.prog 65 #[pT rb,xz mb ls] W fun e w' => e=.returned (iT ((jt ls st).1))∧(cy rb sb so c s (jt ls st).2).pred w'∧cf [rb] W w':=by
 have H:St W [rb] [cy rb sb so c s st] W:=St.one hr (eM _ _ _ _ _ _) (by simp [cy])
 have hS:sb ∉ [rb]:=by simpa using hne
 have hmS:mb ∉ [rb]:=by simpa using hmb
 unfold xz
 refine enter (m:=44) Tryz.func65 O Tryz.ntmps65 O (Cy (fM H O (cs:=[.map (some mb),.int .i64 (iG ls)]) O O ?_))
 intro w b3 hn3 hb3 H
 refine az O (Lt ?_)
 by_cases h1:ls.countP (·≠0)=1
 case pos =>
  have hon:iG ls=(j7 ls:Nat):=by unfold iG;rw [if_pos h1]
  rw [hon] at H
  refine Cs (Cy (aU qh O (aC a_ O (H.cell 0 O O) (Lp (jC (b:=true) O O (decide_eq_true ω)) (Lt ?_)))))
  refine Cp O ?_
  refine Cy (aU qh O (aC a_ O (H.cell 0 O O) (az O (Lt (Ct (aE ?_))))))
  have he:jt ls st=(j7 ls,st):=by unfold jt;rw [if_pos h1]
  rw [he]
  exact ak O O ⟨O,H.get (i:=1) rfl,H.frm⟩
 have hon:iG ls=-1:=by unfold iG;rw [if_neg h1]
 have he:jt ls st=fA ls 15 1 0 st:=by unfold jt;rw [if_neg h1]
 rw [hon] at H
 rw [he]
 refine Cs (Cy (aU qh O (aC a_ O (H.cell 0 O O) (Lp (jC (b:=false) O O (decide_eq_false ω)) (Lt (Cq O (Ck (tn (Cy (az O (Lt (Cs (Cy (az O (Lt ?_)))))))))))))))
 refine aH (fun ρ w' => ∃ l n st',ρ 0=pT rb∧fA ls 15 1 0 st=fA ls 0 l n st'∧St W [rb] [aa b3 [.map (some mb),.int .i64 (-1)] 134,cy rb sb so c s st'] w') ?_ ?_
 case refine_1 =>
  refine Cb ?_
  refine Cl (fun mm ρ w' => ∃ k l n st',k+l=16∧1≤l∧mm=k∧n<2 ^ (l - 1)∧ρ 0=pT rb∧ρ 3=pT b3∧ρ 5=iT n∧ρ 6=iT l ∧
   fA ls 15 1 0 st=fA ls k l n st'∧St W [rb] [aa b3 [.map (some mb),.int .i64 (-1)] 134,cy rb sb so c s st'] w') 15
   ⟨15,1,0,st,rfl,ω,rfl,δ,rfl,rfl,rfl,rfl,rfl,H⟩ ?_
  clear H
  rintro mm ρ w5 ⟨k,l,n,st',hkl,hl1,hmm,hn,r0,r3,r5,r6,hE,H⟩
  refine Cs (Cy (ai η (Lp (sd O O) (Lt ?_))))
  by_cases hy:k=0
  case pos =>
   subst hy
   refine CF O ω (Cx (ax (ax (br (tn ?_)))))
   exact ⟨l,n,st',r0,hE,H⟩
  obtain ⟨k,rfl⟩:∃ j,k=j+1:=⟨k - 1,ω⟩
  obtain ⟨bt,dV,hsb⟩:∃ bt dV,Go.Proofs.YtmgemcffhbnpfaaGreatDoor.sb 1 st'=(bt,dV):=⟨_,_,rfl⟩
  have hbt:bt<2:=by have:=fG 1 st';rw [hsb] at this;exact this
  have hp:2 ^ (l - 1)≤2 ^ 14:=Nat.pow_le_pow_right ω ω
  have hp2:2 ^ (l+1 - 1)=2 * 2 ^ (l - 1):=by rw [show l+1 - 1=(l - 1)+1 by omega,Nat.pow_succ,Nat.mul_comm]
  have hstep:fA ls (k+1) l n st'=match kO ls l (2 * n+bt) with
    | some x => if dV.f then fA ls k (l+1) (2 * n+bt) dV else (x,dV)
    | none => fA ls k (l+1) (2 * n+bt) dV:=by
   conv => lhs;unfold fA cW
   rw [hsb]
   rfl
  refine CT O ω (Ck (tn (Cs (Cb (Cy (ai η (Lp (cX (r:=((2 * n:Nat):Int)) O O (pK (a:=2) ω)) (bH η (dC H 1 1 (I.keep H.frm hS) hne O ω O O O ?_)))))))))
  intro w hfw H
  rw [hsb] at H ⊢
  simp only [List.set] at H
  refine ao O O (ck ω) (az O (Lt ?_))
  have hlook:=E4 ls (l:=l) (n:=2 * n+bt) ω
  cases hfs:kO ls l (2 * n+bt) with
  | none =>
   rw [hfs] at hstep hlook
   refine Cy (aU xe η (aC DH O (H.cell 0 O O) (ai η (ai O (Lp (iF [iT l,iT (2 * n+bt)] O (Et _ _)) (Lp (DX (q:=(l:Int)) (r:=((2 * n+bt:Nat):Int)) (v:=.int .i64 0) (k:=false) Km (hm.keep H.frm hmS) (EL ω) (EL ω) O O (by rw [hlook];rfl) (by rw [hlook];rfl)) (gr O (av O O (av O O (az O (cU O (Lt (Cy (dh O (dh O (Lk ?_))))))))))))))))
   refine Lk (Lk (Lk (Lk (ay O O (Lt (Cq O (Ck (aF (tn (Cr (ai r6 (ao (r:=((l+1:Nat):Int)) O O (ck (b:=1) ω) (az O (Lt ?_))))))))))))))
   exact ⟨k,ω,k,l+1,2 * n+bt,dV,ω,ω,O,ω,r0,r3,O,O,by rw [hE,hstep],H⟩
  | some x =>
   rw [hfs] at hstep hlook
   refine Cy (aU xe η (aC DH O (H.cell 0 O O) (ai η (ai O (Lp (iF [iT l,iT (2 * n+bt)] O (Et _ _)) (Lp (DX (q:=(l:Int)) (r:=((2 * n+bt:Nat):Int)) (v:=iT x) (k:=true) Km (hm.keep H.frm hmS) (EL ω) (EL ω) O O (by rw [hlook];rfl) (by rw [hlook];rfl)) (gr O (av O O (av O O (az O (cU O (Lt ?_))))))))))))
   cases hf:dV.f with
   | false =>
    have hcf:=H.rdF 1 rfl
    rw [hf] at hcf
    refine Cy (dh O (dh O (Lg (YP η) (Lg (iL O) (Lg (iQ dL O) (Lg (ef jz O hcf) (Lg (fT O) (ay O O (Lt ?_)))))))))
    refine Cp O ?_
    refine Cy (ai O (az O (Lt (Ct (bL (aE (aE (bL (aE ?_)))))))))
    rw [hE,hstep]
    simp only [hf,Bool.false_eq_true,if_false]
    exact ak O O ⟨O,H.get (i:=1) rfl,H.frm⟩
   | true =>
    have hcf:=H.rdF 1 rfl
    rw [hf] at hcf
    refine Cy (dh O (dh O (Lg (YP η) (Lg (iL O) (Lg (iQ dL O) (Lg (ef jz O hcf) (Lg (fT O) (ay O O (Lt (Cq O (Ck (aF (tn (Cr (ai r6 (ao (r:=((l+1:Nat):Int)) O O (ck (b:=1) ω) (az O (Ln ?_))))))))))))))))))
    refine tn ?_
    exact ⟨k,ω,k,l+1,2 * n+bt,dV,ω,ω,O,ω,r0,r3,O,O,by rw [hE,hstep,hf];rfl,H⟩
 case refine_2 =>
 clear H
 rintro ρ w5 ⟨l,n,st',r0,hE,H⟩
 rw [hE]
 refine Cy (bH η (aK O (aU dL O (g_ H 1 lU O O O ?_))))
 intro w H
 simp only [List.set] at H
 refine Lt (Cy (az O (Lt (Ct ?_))))
 exact ak O O ⟨O,H.get (i:=1) rfl,H.frm⟩
section
variable {w0 w:World} {S:List Nat} {l:List e_} {rb sb so c mb:Nat} {s ls:List Nat} {st:RS}
variable {nn:Nat} {ops:Array Oper} {lo:List Oper} {Q:cY} {rest:List Oper} {ρ:dK} {ty t:TypeId} {pos:String} {after:Array Edge} {x y:Operand} {d:Nat} {ts:Array TypeId}
theorem mG (H:St w0 S l w) (i:Nat) (I:xo sb so s w) (hne:sb≠rb) (hm:DA w mb (dO ls ls.length)) (hmb:mb≠rb) (hi:l[i]?=some (cy rb sb so c s st)) (hd:Nat.blt d nn=true) (hx:ev ρ x=pT rb) (hy:ev ρ y=xz mb ls)
  (h:∀ w',cf [rb] w w'→St w0 S (l.set i (cy rb sb so c s (jt ls st).2)) w'→VL Tryz.prog nn ops Q rest (eW ρ d (iT ((jt ls st).1))) w') :
  VL Tryz.prog nn ops Q (⟨some d,.call ⟨.value (.func 65),#[x,y],ts⟩,ty,pos,after,none⟩ :: rest) ρ w :=
 aS hd JZ (De w rb sb so c mb s st ls (H.get hi) I hne hm hmb) (by simp [hx,hy]) fun e w' ⟨he,hP,hf⟩ => ⟨_,he,h _ hf (H.rdr i hi hP hf)⟩
end
theorem B0 {w:World} {b n:Nat} {k:IntKind} {f:Nat→Nat} {t:TypeId} (h:ff w b (bM k f n) t):l7 w k b 0 ((List.range n).map f):=fun j hj => by
 rw [Nat.zero_add]
 refine h.cellv ?_
 have hj2:j<n:=by simpa using hj
 rw [af hj2]
 simp
section
variable {P:Program} {w w0:World} {t ty el by_:Nat} {zs:List Value} {g n c c2 b off i d nn:Nat} {cur:List Value} {v:Value} {S:List Nat} {l:List e_} {ops:Array Oper} {Q:cY} {rest:List Oper} {ρ:dK} {pos:String} {after:Array Edge} {s x:Operand}
theorem BP (H:St w0 S l w) (i:Nat) (F:MK P t el by_ zs) (hz:zs.length=1) (hd:Nat.blt d nn=true) (hs:ev ρ s=.slice (aT g) n c) (hi:l[i]?=some (aa g cur el)) (hx:ev ρ x=.slice (some ⟨b,off,none⟩) 1 c2) (hc:w.cell? ⟨b,off,none⟩=some v) (hv:v.oneCell'=true) (hn:n<c) (hcl:c≤cur.length)
  (h:∀ w',St w0 S (l.set i (aa g (cur.set n v) el)) w'→VL P nn ops Q rest (eW ρ d (.slice (aT g) (n+1) c)) w') :
  VL P nn ops Q (⟨some d,.call ⟨.builtin .append,#[s,x],#[t,t]⟩,ty,pos,after,none⟩ :: rest) ρ w:=by
 obtain ⟨hu,q,z,hq,hz1,hz2,hz3,hz4⟩:=F
 have hg:w.heap[g]?=some (.cells cur.toArray el (0,0)):=H.blk hi
 have hr:=run_append_room (P:=P) w t ty el q hu hq g n c cur.toArray hg ⟨b,off,none⟩ 1 c2 [v] (by rw [hz3,hz];rfl) (fun j u hj => by
  cases j with
  | zero => simp only [List.getElem?_cons_zero,Option.some.injEq] at hj;subst hj;rw [ky];exact hc
  | succ j => simp at hj) (by simpa using hv) ω (by rw [hz3,hz];simp only [List.length_cons,List.length_nil,List.size_toArray];omega)
 rw [hz3,hz] at hr
 simp only [Nat.mul_one,List.length_cons,List.length_nil] at hr
 have hset:cur.take n++[v]++cur.drop (n+1)=cur.set n v:=by
  rw [List.append_assoc]
  rw [List.set_eq_take_append_cons_drop,if_pos ω]
  rfl
 rw [show n+(0+1)=n+1 from rfl,hset] at hr
 refine Lo hd (v:=.slice (aT g) (n+1) c) (w':=w.setRow g (cur.set n v).toArray) ?_ (h _ (H.turn hi ⟨O,O,O,by simp,fun x _ hx => setRow_other w g x _ (fun e => hx (by simp [aa,e]))⟩ (wB w g cur _ el hg) ⟨cw _ _ _,dW _ _ _⟩ (fun b hb => .inl hb)))
 unfold dE
 simp only [execOp,resolve,Sem.run_bind,Sem.run_pure,Result.andThen_ok,Go.invoke,Go.builtin,List.map_toArray,List.map_cons,List.map_nil,hs,hx,hr]
end
section
variable {w0 w:World} {S:List Nat} {l:List e_} {b o c:Nat} {ls:List Nat}
variable {nn:Nat} {ops:Array Oper} {lo:List Oper} {Q:cY} {rest:List Oper} {ρ:dK} {ty t:TypeId} {pos:String} {after:Array Edge} {x y:Operand} {d:Nat} {ts:Array TypeId} {j dj:Nat} {bo:Bool}
theorem xL (H:St w0 S l w) (hr:l7 w .i64 b o ls) (h15:∀ x ∈ ls,x≤15) (hn:ls.length≤4096) (hd:Nat.blt d nn=true) (hx:ev ρ x=.slice (some ⟨b,o,none⟩) ls.length c)
  (h:∀ w' mb,w.heap.size≤mb→cf [] w w'→St w0 S (f_ mb (dO ls ls.length) :: l) w'→VL Tryz.prog nn ops Q rest (eW ρ d (.tuple #[xz mb ls,.bool (CX ls)])) w') :
  VL Tryz.prog nn ops Q (⟨some d,.call ⟨.value (.func 80),#[x],ts⟩,ty,pos,after,none⟩ :: rest) ρ w :=
 aS hd JX (Bs w b o c ls hr h15 hn) (by simp [hx]) fun e w' ⟨mb,he,hmb,hM,hf⟩ => ⟨_,he,h _ mb hmb hf (H.add hf hM (lj _ _) (by simpa [f_] using hmb))⟩
theorem Bf (H:St w0 S l w) (hr:l7 w .i64 b o ls) (h15:∀ x ∈ ls,x≤15) (hn:ls.length≤4096) (hj:(lo[j]?).bind (·.dst)=some dj) (hdj:Nat.blt dj nn=true) (hb:ρ dj=.bool bo) (hd:Nat.blt d nn=true) (hx:ev ρ x=.slice (some ⟨b,o,none⟩) ls.length c)
  (h:∀ w',cf [] w w'→St w0 S l w'→VL Tryz.prog nn lo.toArray Q rest (eW ρ d (.bool (qw ls))) w') :
  VL Tryz.prog nn lo.toArray Q (⟨some d,.call ⟨.value (.func 81),#[x],ts⟩,ty,pos,after,some (j,bo)⟩ :: rest) ρ w :=
 kV hj hdj hb hd JP (G6 w b o c ls hr h15 hn) (by simp [hx]) fun e w' ⟨he,hf⟩ => ⟨_,he,h _ hf (H.quiet hf)⟩
end
def zh (n:Nat) (f:Nat→Nat):SM (List Nat):=cW (ot n) fun left => cW (kg ((List.range 19).map f)) fun own => cW (cT own n n [] left 8) fun l => fW (sQ n l)
theorem Hs (n:Nat) (st:RS) {nc:Nat} {dV st2:RS} {f:Nat→Nat} (h1:Go.Proofs.YtmgemcffhbnpfaaGreatDoor.sb 4 st=(nc,dV)) (h2:sZ (nc+4) 0 (fun _ => 0) dV=(f,st2)):nE n st=zh n f st2:=by
 show cW (Go.Proofs.YtmgemcffhbnpfaaGreatDoor.sb 4) (fun nc => cW (sZ (nc+4) 0 (fun _ => 0)) (zh n)) st=_
 unfold cW
 rw [h1]
 show zh n (sZ (nc+4) 0 (fun _ => 0) dV).1 (sZ (nc+4) 0 (fun _ => 0) dV).2=_
 rw [h2]
theorem GU (n:Nat) (f:Nat→Nat) (st:RS) {left:Nat} {dV st2:RS} {l:List Nat} (h1:ot n st=(left,dV)) (h2:cT ((List.range 19).map f) n n [] left 8 (kg ((List.range 19).map f) dV).2=(l,st2)):zh n f st=(sQ n l,st2):=by
 unfold zh cW
 rw [h1]
 show (sQ n (cT ((List.range 19).map f) n n [] left 8 (kg ((List.range 19).map f) dV).2).1,(cT ((List.range 19).map f) n n [] left 8 (kg ((List.range 19).map f) dV).2).2)=_
 rw [h2]
theorem E8 (k i:Nat) (f:Nat→Nat) (st:RS) {v:Nat} {dV:RS} (h:Go.Proofs.YtmgemcffhbnpfaaGreatDoor.sb 3 st=(v,dV)):sZ (k+1) i f st=sZ k (i+1) (fun j => if j=ry i then v else f j) dV:=by
 conv => lhs;unfold sZ cW
 rw [h]
theorem C_ (n:Nat) (st:RS) {dV:RS} (h:Go.Proofs.YtmgemcffhbnpfaaGreatDoor.sb 1 st=(0,dV)):ot n st=(n,dV):=by
 unfold ot cW
 rw [h]
 rfl
theorem ER (n:Nat) (st:RS) {u k ms:Nat} {dV st2 st3:RS} (hu:u≠0) (h:Go.Proofs.YtmgemcffhbnpfaaGreatDoor.sb 1 st=(u,dV)) (h2:Go.Proofs.YtmgemcffhbnpfaaGreatDoor.sb 3 dV=(k,st2)) (h3:Go.Proofs.YtmgemcffhbnpfaaGreatDoor.sb (2+2 * k) st2=(ms,st3)):ot n st=(ms+2,if n<ms+2 then st3.fail else st3):=by
 unfold ot cW
 rw [h]
 simp only [hu,if_false]
 rw [h2]
 simp only
 rw [h3]
 simp
def nO (own:List Nat) (n k:Nat) (acc:List Nat) (left before what times:Nat):SM (List Nat):=if n<acc.length+times then fun s => (acc,s.fail) else cT own n k (acc++List.replicate times what) (left - 1) before
theorem pi {own:List Nat} {n k:Nat} {acc:List Nat} {left before:Nat} {st:RS} (h:k=0∨n≤acc.length∨left=0∨st.f=true):cT own n k acc left before st=(acc,st):=by
 cases k with
 | zero => rfl
 | succ k =>
  unfold cT
  refine if_pos ?_
  rcases h with h | h | h | h
  ·cases h
  ·exact .inl (by simp [h])
  ·exact .inl (by simp [h])
  ·exact .inr h
theorem AB {own:List Nat} {n k:Nat} {acc:List Nat} {left before:Nat} {st dV:RS} {x:Nat} (h1:acc.length<n) (h2:left≠0) (h3:st.f=false) (hs:jt own st=(x,dV)) :
  cT own n (k+1) acc left before st=if x<16 then nO own n k acc left (if x≠0 then x else before) x 1 dV
   else cW (Go.Proofs.YtmgemcffhbnpfaaGreatDoor.sb (repB (x - 16))) (fun v => nO own n k acc left before (if x=16 then before else 0) (v+repO (x - 16))) dV:=by
 conv => lhs;unfold cT
 rw [if_neg (by simp [h2,h3];omega)]
 unfold cW
 rw [hs]
 show (if x<16 then cT own n k (acc++[x]) (left - 1) (if x≠0 then x else before) else _) dV=_
 by_cases hx:x<16
 ·rw [if_pos hx,if_pos hx]
  unfold nO
  rw [if_neg (show ¬ n<acc.length+1 by omega)]
  rfl
 ·rw [if_neg hx,if_neg hx]
  rfl
theorem Lx:repB 0=2∧repO 0=3∧repB 1=3∧repO 1=3∧repB 2=7∧repO 2=11:=by
 simp only [ue,tf]
 decide
theorem C0 {n:Nat} {l:List Nat} (h:l.length≤n):(sQ n l).length=n:=by simp [sQ];omega
theorem IL (n:Nat):List.replicate n (.int .i64 0)=nums .i64 (sQ n []):=by simp [sQ,nums]
theorem Il {n x:Nat} {l:List Nat} (h:l.length<n):(nums .i64 (sQ n l)).set l.length (iT x)=nums .i64 (sQ n (l++[x])):=by
 unfold sQ nums
 obtain ⟨m,hm⟩:∃ m,n - l.length=m+1:=⟨n - l.length - 1,ω⟩
 rw [hm,List.replicate_succ,List.length_append,show n - (l.length+[x].length)=m by simp;omega]
 rw [List.map_append,List.map_append,List.map_append,List.set_append_right _ _ (by simp)]
 simp
theorem z9 (W:World) (rb sb so c n:Nat) (s:List Nat) (st:RS) (hr:(cy rb sb so c s st).pred W) (I:xo sb so s W) (hne:sb≠rb) (hn1:1≤n) (hn:n≤4096) :
  Calls Tryz.prog 79 #[pT rb,iT n] W fun e w' => ∃ g,W.heap.size≤g∧e=.returned (.slice (aT g) n n)∧ff w' g (nums .i64 (nE n st).1) 3∧(cy rb sb so c s (nE n st).2).pred w'∧cf [rb] W w':=by
 have H:St W [rb] [cy rb sb so c s st] W:=St.one hr (eM _ _ _ _ _ _) (by simp [cy])
 have hS:sb ∉ [rb]:=by simpa using hne
 obtain ⟨nc,dV,e1⟩:∃ nc dV,Go.Proofs.YtmgemcffhbnpfaaGreatDoor.sb 4 st=(nc,dV):=⟨_,_,rfl⟩
 have hnc:nc<16:=by have:=fG 4 st;rw [e1] at this;exact this
 refine enter (m:=134) Tryz.func79 O Tryz.ntmps79 O (Cy (bI O (Lt (Cy (iJ H mg 19 19 O O O O (Nat.le_refl _) ω ω O ?_)))))
 intro w ob hob1 hob H
 rw [dz,fK] at H
 refine gS O (Lt (Cs (Cy (Bu H O ?_))))
 intro w qb hqb H
 refine bH O (dC H 2 4 (I.keep H.frm hS) hne O ω O O O ?_)
 intro w _ H
 rw [e1] at H ⊢
 simp only [List.set] at H
 refine ao (r:=((nc+4:Nat):Int)) O O (by rw [fg ω];omega) (Lp (ll (nc+4) bh O O O ω) (bG bh O (ai O (Lt ?_))))
 refine aH (fun ρ w' => ∃ f st2,sZ (nc+4) 0 (fun _ => 0) dV=(f,st2)∧(∀ j,f j≤15)∧ρ 0=pT rb∧ρ 1=iT n∧ρ 5=.slice (aT ob) 19 19 ∧
  St W [rb] [aa ob (bM .i64 f 19) 3,cy rb sb so c s st2] w') ?_ ?_
 case refine_1 =>
  refine Cb ?_
  refine Cl (fun mm ρ w' => ∃ i f st2,i≤nc+4∧mm=nc+4 - i∧sZ (nc+4) 0 (fun _ => 0) dV=sZ (nc+4 - i) i f st2∧(∀ j,f j≤15)∧ρ 0=pT rb∧ρ 1=iT n∧ρ 5=.slice (aT ob) 19 19 ∧
   ρ 21=.slice (aT qb) (nc+4) 19∧ρ 22=iT (nc+4)∧ρ 23=iT i ∧
   St W [rb] [aa qb (nums .i64 bY) 3,aa ob (bM .i64 f 19) 3,cy rb sb so c s st2] w') (nc+4)
   ⟨0,fun _ => 0,dV,Nat.zero_le _,rfl,rfl,fun _ => Nat.zero_le _,rfl,rfl,rfl,rfl,rfl,rfl,H⟩ ?_
  clear H
  rintro mm ρ w5 ⟨i,f,st2,hi,hmm,hE,hf15,r0,r1,r5,r21,r22,r23,H⟩
  refine Cy (bP η η (Lt ?_))
  by_cases hy:i=nc+4
  case pos =>
   refine Cs (CF O ω (Cx (ax (ax (br (tn ?_))))))
   rw [hy,Nat.sub_self] at hE
   exact ⟨f,st2,hE,hf15,r0,r1,r5,H.sub [1,2] O (by simp)⟩
  have hlt:i<nc+4:=ω
  have hord:(nums .i64 bY)[0+i]?=some (iT (ry i)):=by rw [Nat.zero_add];exact qS ω
  have ho19:=xk i ω
  obtain ⟨v,st3,e3⟩:∃ v st3,Go.Proofs.YtmgemcffhbnpfaaGreatDoor.sb 3 st2=(v,st3):=⟨_,_,rfl⟩
  have hv:v<8:=by have:=fG 3 st2;rw [e3] at this;exact this
  refine Cs (CT O ω (Ck (tn (Cs (Cb (Cy (Lp (ci i bh r21 r23 O hlt) (aC a_ O (H.cell 0 O hord) (az O (Lt (Cr (bU r5 (ai O (bH η (dC H 2 3 (I.keep H.frm hS) hne O ω O O O ?_)))))))))))))))
  intro w _ H
  rw [e3] at H ⊢
  refine Lp (bO (ry i) bh O O O ho19) (aP (v:=v) H 1 k_ O O O ho19 ?_)
  intro w H
  simp only [List.set] at H
  refine Ln (aF (tn (Cr (ao (r:=((i+1:Nat):Int)) r23 O (ck (b:=1) ω) (ai O (Lt ?_))))))
  rw [show nc+4 - i=(nc+4 - (i+1))+1 by omega,E8 _ _ _ _ e3] at hE
  exact ⟨nc+4 - (i+1),ω,i+1,_,st3,ω,O,hE,fun j => by
   by_cases hj:j=ry i
   ·simp only [hj,if_true];omega
   ·simp only [hj,if_false];exact hf15 j,r0,r1,r5,r21,r22,rfl,H⟩
 case refine_2 =>
 clear H
 rintro ρ w5 ⟨f,st2,hE,hf15,r0,r1,r5,H⟩
 rw [Hs n st e1 hE]
 refine Cy (ai η (az O (Lt (Cs (Cy (bH η (dC H 1 1 (I.keep H.frm hS) hne O ω O O O ?_)))))))
 intro w _ H
 obtain ⟨u,st3,e3⟩:∃ u st3,Go.Proofs.YtmgemcffhbnpfaaGreatDoor.sb 1 st2=(u,st3):=⟨_,_,rfl⟩
 have hu:u<2:=by have:=fG 1 st2;rw [e3] at this;exact this
 rw [e3] at H ⊢
 simp only [List.set] at H
 refine Lp (bR (b:=decide (u≠0)) O O (decide_eq_decide.2 ω)) (Lt ?_)
 refine aH (fun ρ w' => ∃ left st4,ot n st2=(left,st4)∧left≤100000∧ρ 0=pT rb∧ρ 1=iT n∧ρ 5=.slice (aT ob) 19 19∧ρ 8=iT left ∧
  St W [rb] [aa ob (bM .i64 f 19) 3,cy rb sb so c s st4] w') ?_ ?_
 case refine_1 =>
  by_cases hu0:u=0
  case pos =>
   subst hu0
   refine Cq O (Ck (tn ?_))
   exact ⟨n,st3,C_ n st2 e3,ω,r0,r1,r5,O,H⟩
  obtain ⟨k,st4,e4⟩:∃ k st4,Go.Proofs.YtmgemcffhbnpfaaGreatDoor.sb 3 st3=(k,st4):=⟨_,_,rfl⟩
  have hk:k<8:=by have:=fG 3 st3;rw [e4] at this;exact this
  obtain ⟨ms,st5,e5⟩:∃ ms st5,Go.Proofs.YtmgemcffhbnpfaaGreatDoor.sb (2+2 * k) st4=(ms,st5):=⟨_,_,rfl⟩
  have hms:ms<2 ^ (2+2 * k):=by have:=fG (2+2 * k) st4;rw [e5] at this;exact this
  have hp:2 ^ (2+2 * k)≤2 ^ 16:=Nat.pow_le_pow_right ω ω
  have hL:=ER n st2 hu0 e3 e4 e5
  have hb:decide (u≠0)=true:=decide_eq_true hu0
  rw [hb]
  refine Cp O ?_
  refine Cy (bH η (bH η (dC H 1 3 (I.keep H.frm hS) hne O ω O O O ?_)))
  intro w _ H
  rw [e4] at H ⊢
  simp only [List.set] at H
  refine Lp (cX (r:=((2 * k:Nat):Int)) O O (pK (a:=2) ω)) (ao (r:=((2+2 * k:Nat):Int)) O O (ck (a:=2) ω) (dC H 1 (2+2 * k) (I.keep H.frm hS) hne O ω O O O ?_))
  intro w _ H
  rw [e5] at H ⊢
  simp only [List.set] at H
  refine ao (r:=((ms+2:Nat):Int)) O O (by rw [fg ω];omega) (az O (Lt ?_))
  by_cases hlt:n<ms+2
  case neg =>
   rw [if_neg hlt] at hL
   refine Cy (ai O (ai η (Lp (bE (b:=false) O O (decide_eq_false ω)) (Lt (Cq O (Ck (tn ?_)))))))
   exact ⟨ms+2,st5,hL,ω,r0,r1,r5,O,H⟩
  rw [if_pos hlt] at hL
  refine Cy (ai O (ai η (Lp (bE (b:=true) O O (decide_eq_true ω)) (Lt ?_))))
  refine Cp O ?_
  refine Cr (bH η (aK O (aU dL O (g_ H 1 lU O O O ?_))))
  intro w H
  simp only [List.set] at H
  refine Lt ?_
  exact ⟨ms+2,st5.fail,hL,ω,r0,r1,r5,O,H⟩
 case refine_2 =>
 clear H r0 r1 r5
 rintro ρ w6 ⟨left,st4,hL,hl4,r0,r1,r5,r8,H⟩
 obtain ⟨own,hown⟩:∃ own,own=(List.range 19).map f:=⟨_,rfl⟩
 have ho19:own.length=19:=by rw [hown];simp
 have ho15:∀ x ∈ own,x≤15:=fun x hx => by
  rw [hown] at hx
  obtain ⟨j,_,rfl⟩:=List.mem_map.1 hx
  exact hf15 j
 have hrow:l7 w6 .i64 ob 0 own:=by rw [hown];exact B0 (H.blk (i:=0) rfl)
 rw [← ho19] at r5
 have hsz6:=H.frm.size
 refine Cy (bU r5 (xL H hrow ho15 ω O O ?_))
 intro w mb hmb hfw H
 refine gr O (av O O (av O O (cE H tB O ?_)))
 intro w b9 hn9 hb9 H
 refine dG (vs:=[.map (some mb),.int .i64 (iG own)]) H 0 qM O O O O O (by simp [Value.oneCell']) ?_
 intro w H
 simp only [List.set] at H
 refine cU O (Lt (Cs (Cy (dh O (Lp (fT O) (Lt ?_))))))
 obtain ⟨st5,e5⟩:∃ st5,(kg own st4).2=st5:=⟨_,rfl⟩
 refine aH (fun ρ w' => ρ 0=pT rb∧ρ 1=iT n∧ρ 8=iT left∧ρ 9=pT b9 ∧
  St W [rb] [aa b9 [.map (some mb),.int .i64 (iG own)] 134,f_ mb (dO own own.length),cy rb sb so c s st5] w') ?_ ?_
 case refine_1 =>
  unfold kg at e5
  cases hk:CX own with
  | true =>
   rw [hk] at e5
   refine Cq O (Ck (tn ?_))
   simp only [Bool.not_true,Bool.false_eq_true,if_false] at e5
   rw [e5] at H
   exact ⟨r0,r1,r8,O,H.sub [0,1,3] O (by simp)⟩
  | false =>
   rw [hk] at e5
   simp only [Bool.not_false,if_true,RS.bad] at e5
   have hco:=H.rdO 3 rfl
   have hr2:l7 w .i64 ob 0 own:=hown ▸ B0 (H.blk (i:=2) rfl)
   refine Cp O ?_
   cases ho:st4.o with
   | true =>
    rw [ho] at hco e5
    refine Cr (bH η (bH η (bH η (aK O (aU gC O (aC jz O hco (dh O (Lk (Lk (ay O O (aK O (aU dL O (g_ H 3 lU O O O ?_)))))))))))))
    intro w H
    refine aK O (aU gC O (kw H 3 lU O O O ?_))
    intro w H
    simp only [List.set] at H
    refine Lt ?_
    simp only [Bool.true_or] at e5
    rw [e5] at H
    exact ⟨r0,r1,r8,O,H.sub [0,1,3] O (by simp)⟩
   | false =>
    rw [ho] at hco e5
    refine Cr (bH η (bH η (bH η (aK O (aU gC O (aC jz O hco (dh O (Lg (YS η) (Bf H hr2 ho15 ω O O O O O ?_)))))))))
    intro w hfo H
    refine ay O O (aK O (aU dL O (g_ H 3 lU O O O ?_)))
    intro w H
    refine aK O (aU gC O (kw H 3 lU O O O ?_))
    intro w H
    simp only [List.set] at H
    refine Lt ?_
    simp only [Bool.false_or] at e5
    rw [e5] at H
    exact ⟨r0,r1,r8,O,H.sub [0,1,3] O (by simp)⟩
 case refine_2 =>
 have hmr:mb≠rb:=by
  have h1:=(eM rb sb so c s st).2 W hr rb (by simp [cy])
  have h2:=hsz6
  omega
 clear H r0 r1 r5 r8
 rintro ρ w7 ⟨r0,r1,r8,r9,H⟩
 refine Cy (ai r1 (iJ H mg 0 n O O O O (Nat.zero_le _) ω ω O ?_))
 intro w g hg1 hg H
 rw [dz,IL] at H
 refine gS O (Lt (Cy (az O (Lt ?_))))
 obtain ⟨E,hE0⟩:∃ E,cT own n n [] left 8 st5=E:=⟨_,rfl⟩
 refine Cs ?_
 refine aH (fun ρ w' => ∃ acc st',acc.length≤n∧E=(acc,st')∧ρ 1=iT n∧ρ 11=.slice (aT g) acc.length n∧St W [rb] [aa g (nums .i64 (sQ n acc)) 3,cy rb sb so c s st'] w') ?_ ?_
 case refine_1 =>
  refine Cb ?_
  refine Cl (fun mm ρ w' => ∃ k acc lf bf st',acc.length≤n∧n≤acc.length+k∧mm=k∧bf≤15∧lf≤100000∧E=cT own n k acc lf bf st'∧ρ 0=pT rb∧ρ 1=iT n∧ρ 8=iT lf∧ρ 9=pT b9 ∧
   ρ 11=.slice (aT g) acc.length n∧ρ 12=iT bf∧St W [rb] [aa g (nums .i64 (sQ n acc)) 3,aa b9 [.map (some mb),.int .i64 (iG own)] 134,f_ mb (dO own own.length),cy rb sb so c s st'] w') n
   ⟨n,[],left,8,st5,Nat.zero_le _,by simp,rfl,ω,hl4,hE0.symm,r0,r1,r8,r9,rfl,rfl,H⟩ ?_
  clear H r0 r1 r8 r9
  rintro mm ρ w8 ⟨k,acc,lf,bf,st',ha,hk,hmm,hb15,hlf,hE,r0,r1,r8,r9,r11,r12,H⟩
  have hcf:=H.rdF 3 rfl
  by_cases hA:acc.length<n
  case neg =>
   refine Cs (Cy (bU η (bG bh O (ai η (Lp (dy (b:=false) O O (decide_eq_false ω)) (dh O (Lk (Lk (ay O O (dh O (Lk (Lk (Lk (Lk (Lk (ay O O (Lt (Cq O ?_))))))))))))))))))
   refine Cx (ax (ax (br (tn ?_))))
   rw [pi (.inr (.inl ω))] at hE
   exact ⟨acc,st',ha,hE,r1,r11,H.sub [0,3] O (by simp)⟩
  by_cases hB:lf=0
  case pos =>
   refine Cs (Cy (bU η (bG bh O (ai η (Lp (dy (b:=true) O O (decide_eq_true ω)) (dh O (Lg (YI η) (Lg (bE (b:=false) O O (decide_eq_false ω)) (ay O O (dh O (Lk (Lk (Lk (Lk (Lk (ay O O (Lt (Cq O ?_))))))))))))))))))
   refine Cx (ax (ax (br (tn ?_))))
   rw [pi (.inr (.inr (.inl hB)))] at hE
   exact ⟨acc,st',ha,hE,r1,r11,H.sub [0,3] O (by simp)⟩
  cases hf:st'.f with
  | true =>
   rw [hf] at hcf
   refine Cs (Cy (bU η (bG bh O (ai η (Lp (dy (b:=true) O O (decide_eq_true ω)) (dh O (Lg (YI η) (Lg (bE (b:=true) O O (decide_eq_true ω)) (ay O O (dh O (Lg (YP η) (Lg (iL O) (Lg (iQ dL O) (Lg (ef jz O hcf) (Lg (fT O) (ay O O (Lt (Cq O ?_))))))))))))))))))
   refine Cx (ax (ax (br (tn ?_))))
   rw [pi (.inr (.inr (.inr hf)))] at hE
   exact ⟨acc,st',ha,hE,r1,r11,H.sub [0,3] O (by simp)⟩
  | false =>
  rw [hf] at hcf
  obtain ⟨k,rfl⟩:∃ j,k=j+1:=⟨k - 1,ω⟩
  obtain ⟨x,st6,ex⟩:∃ x st6,jt own st'=(x,st6):=⟨_,_,rfl⟩
  have hx19:x<19:=by have:=lK (ls:=own) ω st';rw [ex] at this;omega
  rw [AB hA hB hf ex] at hE
  refine Cs (Cy (bU η (bG bh O (ai η (Lp (dy (b:=true) O O (decide_eq_true ω)) (dh O (Lg (YI η) (Lg (bE (b:=true) O O (decide_eq_true ω)) (ay O O (dh O (Lg (YP η) (Lg (iL O) (Lg (iQ dL O) (Lg (ef jz O hcf) (Lg (fT O) (ay O O (Lt ?_)))))))))))))))))
  refine Cp O ?_
  refine Ck (tn (Cs (Cb (Cy (bH η (Lp (fH (cs:=[.map (some mb),.int .i64 (iG own)]) j6 r9 O (fun j hj => by rw [Nat.zero_add];exact (H.blk (i:=1) O).cell j)) (mG H 3 (I.keep H.frm hS) hne (H.get (i:=2) O) hmr O O O O ?_)))))))
  intro w _ H
  rw [ex] at H ⊢
  simp only [List.set] at H
  refine az O (Lt (Cy (az O (az O (Lt (Cs (Cy (ai O (Lt ?_)))))))))
  refine aH (fun ρ w' => ∃ what times bf' st7,what≤15∧bf'≤15∧1≤times∧times≤1000∧E=nO own n k acc lf bf' what times st7∧ρ 0=pT rb∧ρ 1=iT n∧ρ 8=iT lf∧ρ 9=pT b9 ∧
   ρ 11=.slice (aT g) acc.length n∧ρ 12=iT bf'∧ρ 14=iT what∧ρ 15=iT times∧St W [rb] [aa g (nums .i64 (sQ n acc)) 3,aa b9 [.map (some mb),.int .i64 (iG own)] 134,f_ mb (dO own own.length),cy rb sb so c s st7] w') ?_ ?_
  case refine_1 =>
   refine Cb ?_
   have hrep:=Lx
   by_cases h16:x=16
   case pos =>
    subst h16
    obtain ⟨v,st7,e7⟩:∃ v st7,Go.Proofs.YtmgemcffhbnpfaaGreatDoor.sb 2 st6=(v,st7):=⟨_,_,rfl⟩
    have hv:v<4:=by have:=fG 2 st6;rw [e7] at this;exact this
    rw [if_neg ω] at hE
    have hE2:E=nO own n k acc lf bf bf (v+3) st7:=by
     rw [hE]
     unfold cW
     rw [show repB (16 - 16)=2 from hrep.1,e7,show repO (16 - 16)=3 from hrep.2.1]
     rfl
    refine Cy (Lp (bR (b:=true) O O (decide_eq_true ω)) (cU O (Lt ?_)))
    refine Cp O ?_
    refine Cr (ai r12 (bH η (dC H 3 2 (I.keep H.frm hS) hne O ω O O O ?_)))
    intro w _ H
    rw [e7] at H ⊢
    simp only [List.set] at H
    refine ao (r:=((v+3:Nat):Int)) O O (by rw [fg ω];omega) (az O (az O (Ln (aF (tn ?_)))))
    exact ⟨bf,v+3,bf,st7,hb15,hb15,ω,ω,hE2,r0,r1,r8,r9,r11,r12,O,O,H⟩
   by_cases h17:x=17
   case pos =>
    subst h17
    obtain ⟨v,st7,e7⟩:∃ v st7,Go.Proofs.YtmgemcffhbnpfaaGreatDoor.sb 3 st6=(v,st7):=⟨_,_,rfl⟩
    have hv:v<8:=by have:=fG 3 st6;rw [e7] at this;exact this
    rw [if_neg ω] at hE
    have hE2:E=nO own n k acc lf bf 0 (v+3) st7:=by
     rw [hE]
     unfold cW
     rw [show repB (17 - 16)=3 from hrep.2.2.1,e7,show repO (17 - 16)=3 from hrep.2.2.2.1]
     rfl
    refine Cy (Lp (bR (b:=false) O O (decide_eq_false ω)) (cU O (Lt (Cq O (Cy (Lp (bR (b:=true) O O (decide_eq_true ω)) (cU O (Lt ?_))))))))
    refine Cp O ?_
    refine Cr (bH η (dC H 3 3 (I.keep H.frm hS) hne O ω O O O ?_))
    intro w _ H
    rw [e7] at H ⊢
    simp only [List.set] at H
    refine ao (r:=((v+3:Nat):Int)) O O (by rw [fg ω];omega) (az O (Ln (aF (tn ?_))))
    exact ⟨0,v+3,bf,st7,ω,hb15,ω,ω,hE2,r0,r1,r8,r9,r11,r12,O,O,H⟩
   by_cases h18:x=18
   case pos =>
    subst h18
    obtain ⟨v,st7,e7⟩:∃ v st7,Go.Proofs.YtmgemcffhbnpfaaGreatDoor.sb 7 st6=(v,st7):=⟨_,_,rfl⟩
    have hv:v<128:=by have:=fG 7 st6;rw [e7] at this;exact this
    rw [if_neg ω] at hE
    have hE2:E=nO own n k acc lf bf 0 (v+11) st7:=by
     rw [hE]
     unfold cW
     rw [show repB (18 - 16)=7 from hrep.2.2.2.2.1,e7,show repO (18 - 16)=11 from hrep.2.2.2.2.2]
     rfl
    refine Cy (Lp (bR (b:=false) O O (decide_eq_false ω)) (cU O (Lt (Cq O (Cy (Lp (bR (b:=false) O O (decide_eq_false ω)) (cU O (Lt (Cq O (Cy (Lp (bR (b:=true) O O (decide_eq_true ω)) (cU O (Lt ?_)))))))))))))
    refine Cp O ?_
    refine Cr (bH η (dC H 3 7 (I.keep H.frm hS) hne O ω O O O ?_))
    intro w _ H
    rw [e7] at H ⊢
    simp only [List.set] at H
    refine ao (r:=((v+11:Nat):Int)) O O (by rw [fg ω];omega) (az O (Ln (aF (tn ?_))))
    exact ⟨0,v+11,bf,st7,ω,hb15,ω,ω,hE2,r0,r1,r8,r9,r11,r12,O,O,H⟩
   rw [if_pos (show x<16 by omega)] at hE
   refine Cy (Lp (bR (b:=false) O O (decide_eq_false ω)) (cU O (Lt (Cq O (Cy (Lp (bR (b:=false) O O (decide_eq_false ω)) (cU O (Lt (Cq O (Cy (Lp (bR (b:=false) O O (decide_eq_false ω)) (cU O (Lt ?_)))))))))))))
   refine Cq O (Cy (ai O (az O (Lt ?_))))
   by_cases hx0:x=0
   case pos =>
    rw [if_neg (show ¬ x≠0 by omega)] at hE
    refine Cy (ai O (Lp (uC (b:=false) O O (decide_eq_false ω)) (Lt (Cq O (Ck (aF (tn ?_)))))))
    exact ⟨x,1,bf,st6,ω,hb15,ω,ω,hE,r0,r1,r8,r9,r11,r12,O,O,H⟩
   rw [if_pos hx0] at hE
   refine Cy (ai O (Lp (uC (b:=true) O O (decide_eq_true ω)) (Lt ?_)))
   refine Cp O ?_
   refine Cr (ai O (az O (Ln (aF (tn ?_)))))
   exact ⟨x,1,x,st6,ω,ω,ω,ω,hE,r0,r1,r8,r9,r11,O,O,O,H⟩
  case refine_2 =>
  clear H hcf hE r0 r1 r8 r9 r11 r12
  rintro ρ w9 ⟨what,times,bf',st7,hw15,hb15',ht1,ht2,hE,r0,r1,r8,r9,r11,r12,r14,r15,H⟩
  unfold nO at hE
  by_cases hov:n<acc.length+times
  case pos =>
   rw [if_pos hov] at hE
   refine Cs (Cy (bU η (bG bh O (ai η (ao O O (ck ω) (ai η (Lp (bE (b:=true) O O (decide_eq_true ω)) (Lt ?_))))))))
   refine Cp O ?_
   refine Cy (bH η (aK O (aU dL O (g_ H 3 lU O O O ?_))))
   intro w H
   simp only [List.set] at H
   refine Lt (Cx (ax (FR O (ax (ax (br (tn ?_)))))))
   exact ⟨acc,st7.fail,ha,hE,r1,r11,H.sub [0,3] O (by simp)⟩
  rw [if_neg hov] at hE
  refine Cs (Cy (bU η (bG bh O (ai η (ao O O (ck ω) (ai η (Lp (bE (b:=false) O O (decide_eq_false ω)) (Lt (Cq O (Ck (tn (Cy (ai η (ai O (Lt ?_)))))))))))))))
  refine iC (fun ρ w' => ρ 0=pT rb∧ρ 1=iT n∧ρ 8=iT lf∧ρ 9=pT b9 ∧
   ρ 11=.slice (aT g) (acc.length+times) n∧ρ 12=iT bf'∧St W [rb] [aa g (nums .i64 (sQ n (acc++List.replicate times what))) 3,aa b9 [.map (some mb),.int .i64 (iG own)] 134,f_ mb (dO own own.length),cy rb sb so c s st7] w') ?_ ?_
  case refine_1 =>
   refine Cb ?_
   refine Cl (fun mm ρ w' => ∃ i,i≤times∧mm=times - i∧ρ 0=pT rb∧ρ 1=iT n∧ρ 8=iT lf∧ρ 9=pT b9 ∧
    ρ 11=.slice (aT g) (acc.length+i) n∧ρ 12=iT bf'∧ρ 14=iT what∧ρ 123=iT times∧ρ 124=iT i∧St W [rb] [aa g (nums .i64 (sQ n (acc++List.replicate i what))) 3,aa b9 [.map (some mb),.int .i64 (iG own)] 134,f_ mb (dO own own.length),cy rb sb so c s st7] w') times
    ⟨0,Nat.zero_le _,rfl,r0,r1,r8,r9,r11,r12,r14,rfl,rfl,by rw [List.replicate_zero,List.append_nil];exact H⟩ ?_
   clear H r0 r1 r8 r9 r11 r12 r14 r15
   rintro mm ρ w10 ⟨i,hi,hmm2,r0,r1,r8,r9,r11,r12,r14,r123,r124,H⟩
   refine Cy (bP η η (Lt ?_))
   by_cases hy:i=times
   case pos =>
    subst hy
    refine Cs (CF O ω (Cx (ax (ax (br (aF (tn ?_)))))))
    exact ⟨r0,r1,r8,r9,r11,r12,H⟩
   have hl2:(acc++List.replicate i what).length=acc.length+i:=by simp
   have hpl:(sQ n (acc++List.replicate i what)).length=n:=C0 ω
   refine Cs (CT O ω (Ck (tn (Cs (Cb (Cr (bU r11 (ai r14 (cH H mg (nums .i64 [what]) O O δ δ κ ?_)))))))))
   intro w b128 hn128 hb128 H
   refine BP H 1 mg O O O O O (H.cell 0 O O) O ω (by simp [nums,hpl]) ?_
   intro w H
   simp only [List.set] at H
   rw [← hl2,Il ω,List.append_assoc,← List.replicate_succ'] at H
   refine gS O (Ln (aF (tn (Cr (ao (r:=((i+1:Nat):Int)) r124 O (ck (b:=1) ω) (ai O (Lt ?_)))))))
   exact ⟨times - (i+1),ω,i+1,ω,O,r0,r1,r8,r9,O,r12,r14,r123,O,H.sub [1,2,3,4] O (by simp)⟩
  case refine_2 =>
  clear H r0 r1 r8 r9 r11 r12 r14 r15
  rintro ρ w10 ⟨r0,r1,r8,r9,r11,r12,H⟩
  refine Cr (ai r8 (bw (r:=((lf - 1:Nat):Int)) O O (iw (b:=1) ω) (az O (Lt ?_))))
  have hl3:(acc++List.replicate times what).length=acc.length+times:=by simp
  rw [← hl3] at r11
  exact ⟨k,ω,k,acc++List.replicate times what,lf - 1,bf',st7,ω,ω,O,hb15',ω,hE,r0,r1,O,r9,r11,r12,H⟩
 case refine_2 =>
 clear H r0 r1 r8 r9
 rintro ρ w8 ⟨acc,st',ha,hE,r1,r11,H⟩
 rw [hE] at hE0
 have hfin:zh n f st2=(sQ n acc,st'):=by
  refine GU n f st2 hL ?_
  rw [← hown,e5]
  exact hE0
 rw [hfin]
 refine Cy (bU η (ai η (Lp (ll n bh O O O (Nat.le_refl _)) (gS O (Lt (Ct ?_))))))
 exact ak O O ⟨g,hg,O,H.blk (i:=0) rfl,H.get (i:=1) rfl,H.frm⟩
theorem By {w:World} {b:Nat} {k:IntKind} {cur:List Value} {ls:List Nat} {t:TypeId} (h:ff w b cur t) (ht:cur.take ls.length=nums k ls):l7 w k b 0 ls:=fun j hj => by
 rw [Nat.zero_add]
 refine h.cellv ?_
 have h1:(cur.take ls.length)[j]?=some (.int k (ls[j]:Nat)):=by rw [ht];simp [nums,hj]
 rwa [List.getElem?_take,if_pos hj] at h1
def Bo (n:Nat):SM (List Nat):=cW (sb 1) fun u => if u=0 then nE n else kM n
theorem Fe (n:Nat) (st:RS) {dV:RS} (h:Go.Proofs.YtmgemcffhbnpfaaGreatDoor.sb 1 st=(0,dV)):Bo n st=nE n dV:=by
 unfold Bo cW
 rw [h]
 rfl
theorem F6 (n:Nat) (st:RS) {u:Nat} {dV:RS} (hu:u≠0) (h:Go.Proofs.YtmgemcffhbnpfaaGreatDoor.sb 1 st=(u,dV)):Bo n st=kM n dV:=by
 unfold Bo cW
 rw [h]
 show (if u=0 then nE n else kM n) dV=_
 rw [if_neg hu]
theorem EJ (n:Nat) (st:RS) {ls:List Nat} {dV:RS} (h:Bo n st=(ls,dV)):fP n st=(ls,if !CX ls then dV.bad (qw ls) else dV):=by
 show kg (Bo n st).1 (Bo n st).2=_
 rw [h]
 rfl
theorem BM (n:Nat) (st:RS) {two e first:Nat} {sec:Option Nat} {dV st2 st3 st4:RS} (h1:Go.Proofs.YtmgemcffhbnpfaaGreatDoor.sb 1 st=(two,dV)) (h2:Go.Proofs.YtmgemcffhbnpfaaGreatDoor.sb 1 dV=(e,st2)) (h3:Go.Proofs.YtmgemcffhbnpfaaGreatDoor.sb (1+7 * e) st2=(first,st3)) (h4:mw two first st3=(sec,st4)) :
  kM n st=(gd n first sec,if ((gd (max n 256) first sec).drop n).any (0<·) then st4.fail else st4):=by
 unfold kM cW
 rw [h1]
 simp only
 rw [h2]
 simp only
 rw [h3]
 simp only
 rw [h4]
 simp only
 rw [mA (Nat.le_max_left _ _)]
theorem zZ (first:Nat) (st:RS):mw 0 first st=(none,st):=rfl
theorem Bw {two:Nat} (first:Nat) (st:RS) {x:Nat} {dV:RS} (h:two≠0) (h1:Go.Proofs.YtmgemcffhbnpfaaGreatDoor.sb 8 st=(x,dV)):mw two first st=(some x,⟨dV.R,dV.f,dV.o || decide (x≤first)⟩):=by
 unfold mw
 rw [if_neg h]
 unfold cW
 rw [h1]
 rfl
def y9 (first:Nat) (sec:Option Nat) (j:Nat):Nat:=if j=first∨some j=sec then 1 else 0
theorem Fo (m first:Nat) (sec:Option Nat):bM .i64 (y9 first sec) m=nums .i64 (gd m first sec):=zk _ _ _
theorem GP {l:List Nat} {n i:Nat} (h:n+i<l.length):((l.drop n).take (i+1)).any (0<·)=(((l.drop n).take i).any (0<·) || decide (0<l[n+i])):=by
 rw [List.take_succ_eq_append_getElem (by rw [List.length_drop];omega),List.any_append]
 simp
theorem Fs (W:World) (rb sb so c n:Nat) (s:List Nat) (st:RS) (hr:(cy rb sb so c s st).pred W) (I:xo sb so s W) (hne:sb≠rb) (hn1:1≤n) (hn:n≤4096) :
  Calls Tryz.prog 63 #[pT rb,iT n] W fun e w' => ∃ mb,W.heap.size≤mb∧e=.returned (xz mb (fP n st).1)∧DA w' mb (dO (fP n st).1 (fP n st).1.length)∧(cy rb sb so c s (fP n st).2).pred w'∧cf [rb] W w':=by
 have H:St W [rb] [cy rb sb so c s st] W:=St.one hr (eM _ _ _ _ _ _) (by simp [cy])
 have hS:sb ∉ [rb]:=by simpa using hne
 obtain ⟨u,dV,e1⟩:∃ u dV,Go.Proofs.YtmgemcffhbnpfaaGreatDoor.sb 1 st=(u,dV):=⟨_,_,rfl⟩
 have hu:u<2:=by have:=fG 1 st;rw [e1] at this;exact this
 refine enter (m:=91) Tryz.func63 O Tryz.ntmps63 O (Cy (cE H tB O ?_))
 intro w b4 hn4 hb4 H
 refine Lt (Cy (bI O (Lt (Cs (Cy (bH O (dC H 1 1 (I.keep H.frm hS) hne O ω O O O ?_)))))))
 intro w _ H
 rw [e1] at H ⊢
 simp only [List.set] at H
 refine Lp (bR (b:=decide (u≠0)) O O (decide_eq_decide.2 ω)) (Lt ?_)
 refine aH (fun ρ w' => ∃ ls st2 lb cur cap,Bo n st=(ls,st2)∧wj n ls∧cur.take n=nums .i64 ls∧ρ 0=pT rb∧ρ 4=pT b4∧ρ 5=.slice (aT lb) n cap ∧
  St W [rb] [aa lb cur 3,aa b4 [.map none,.int .i64 0] 134,cy rb sb so c s st2] w') ?_ ?_
 case refine_1 =>
  by_cases hu0:u=0
  case pos =>
   subst hu0
   have hP:=Fe n st e1
   refine Cq O (Cr (bH O (ai O ?_)))
   refine aS O Kz (z9 _ rb sb so c n s dV (H.get (i:=1) O) (I.keep H.frm hS) hne hn1 hn) O fun e w' ⟨g,hg,he,hB,hP2,hf⟩ => ⟨_,he,?_⟩
   replace H:=H.growR (i:=1) (r':=cy rb sb so c s (nE n dV).2) (q:=aa g (nums .i64 (nE n dV).1) 3) rfl hf hP2 (eM _ _ _ _ _ _) rfl hB ⟨cw _ _ _,dW _ _ _⟩ (by simpa [aa] using hg)
   simp only [List.set] at H
   refine gS O (Lt ?_)
   have hL:=y5 n dV
   obtain ⟨ls,st2,eL⟩:∃ ls st2,nE n dV=(ls,st2):=⟨_,_,rfl⟩
   rw [eL] at hP hL H
   exact ⟨ls,st2,g,nums .i64 ls,n,hP,hL,List.take_of_length_le (by rw [BA];exact Nat.le_of_eq hL.1),O,O,O,H⟩
  have hP:=F6 n st hu0 e1
  have hb:decide (u≠0)=true:=decide_eq_true hu0
  obtain ⟨two,st2,e2⟩:∃ two st2,Go.Proofs.YtmgemcffhbnpfaaGreatDoor.sb 1 dV=(two,st2):=⟨_,_,rfl⟩
  have h2:two<2:=by have:=fG 1 dV;rw [e2] at this;exact this
  obtain ⟨ee,st3,e3⟩:∃ ee st3,Go.Proofs.YtmgemcffhbnpfaaGreatDoor.sb 1 st2=(ee,st3):=⟨_,_,rfl⟩
  have h3:ee<2:=by have:=fG 1 st2;rw [e3] at this;exact this
  obtain ⟨fs,st4,e4⟩:∃ fs st4,Go.Proofs.YtmgemcffhbnpfaaGreatDoor.sb (1+7 * ee) st3=(fs,st4):=⟨_,_,rfl⟩
  have h4:fs<256:=by
   have:=fG (1+7 * ee) st3
   rw [e4] at this
   rcases (by omega:ee=0∨ee=1) with rfl | rfl
   ·exact Nat.lt_of_lt_of_le this δ
   ·exact this
  obtain ⟨m,hm⟩:∃ m,m=max n 256:=⟨_,rfl⟩
  rw [hb]
  refine Cp O ?_
  refine Cy (ai O (Lp (xY (r:=(m:Int)) O O (by rw [hm];split <;> omega)) (iJ H mg m m O O O O (Nat.le_refl _) ω ω O ?_)))
  intro w lb hlb1 hlb H
  rw [dz,fK] at H
  refine gS O (Lt (Cy (bH O (dC H 2 1 (I.keep H.frm hS) hne O ω O O O ?_))))
  intro w _ H
  rw [e2] at H ⊢
  simp only [List.set] at H
  refine Lp (bR (b:=decide (two≠0)) O O (decide_eq_decide.2 ω)) (cU O (Lt (Cy (bH O (bH O (dC H 2 1 (I.keep H.frm hS) hne O ω O O O ?_))))))
  intro w _ H
  rw [e3] at H ⊢
  simp only [List.set] at H
  refine Lp (cX (r:=((7 * ee:Nat):Int)) O O (pK (a:=7) ω)) (ao (r:=((1+7 * ee:Nat):Int)) O O (ck (a:=1) ω) (dC H 2 (1+7 * ee) (I.keep H.frm hS) hne O ω O O O ?_))
  intro w _ H
  rw [e4] at H ⊢
  refine az O (Lt (Cy (bU O (ai O (Lp (bO fs bh O O O ω) (aP (v:=1) H 0 k_ O O O ω ?_))))))
  intro w H
  simp only [List.set] at H
  refine Lt (Cs (Cy (dh O (Lt ?_))))
  refine aH (fun ρ w' => ∃ sec st5,mw two fs st4=(sec,st5)∧ρ 0=pT rb∧ρ 1=iT n∧ρ 4=pT b4∧ρ 5=.slice (aT lb) m m ∧
   St W [rb] [aa lb (bM .i64 (y9 fs sec) m) 3,aa b4 [.map none,.int .i64 0] 134,cy rb sb so c s st5] w') ?_ ?_
  case refine_1 =>
   by_cases h20:two=0
   case pos =>
    subst h20
    refine Cq O (Ck (tn ?_))
    refine ⟨none,st4,zZ _ _,O,O,O,O,?_⟩
    have:bM .i64 (y9 fs none) m=bM .i64 (fun j => if j=fs then 1 else 0) m:=aW fun j _ => by simp [y9]
    rw [this]
    exact H
   obtain ⟨x,st5,e5⟩:∃ x st5,Go.Proofs.YtmgemcffhbnpfaaGreatDoor.sb 8 st4=(x,st5):=⟨_,_,rfl⟩
   have hx:x<256:=by have:=fG 8 st4;rw [e5] at this;exact this
   have hsec:=Bw (two:=two) fs st4 h20 e5
   have hb2:decide (two≠0)=true:=decide_eq_true h20
   have hfin:bM .i64 (fun j => if j=x then 1 else if j=fs then 1 else 0) m=bM .i64 (y9 fs (some x)) m:=aW fun j _ => by
    unfold y9
    by_cases h1:j=x
    ·simp [h1]
    ·by_cases h2:j=fs
     ·simp [h2]
     ·simp [h1,h2]
   rw [hb2]
   refine Cp O ?_
   refine Cy (bH O (dC H 2 8 (I.keep H.frm hS) hne O ω O O O ?_))
   intro w _ H
   rw [e5] at H ⊢
   simp only [List.set] at H
   refine az O (Lt ?_)
   have hco:=H.rdO 2 rfl
   cases ho:st5.o with
   | true =>
    rw [ho] at hco hsec
    refine Cy (bH O (bH O (aK O (aU gC O (aC jz O hco (dh O (Lk (Lk (Lk (ay O O (aK O (aU gC O (kw H 2 lU O O O ?_)))))))))))))
    intro w H
    refine Lt (Cr (bU O (ai O (Lp (bO x bh O O O ω) (aP (v:=1) H 0 k_ O O O ω ?_)))))
    intro w H
    simp only [List.set] at H
    refine Lt ?_
    rw [hfin] at H
    exact ⟨some x,_,hsec,O,O,O,O,H⟩
   | false =>
    rw [ho] at hco hsec
    refine Cy (bH O (bH O (aK O (aU gC O (aC jz O hco (dh O (Lg (YI O) (Lg (YI O) (Lg (uz (b:=decide (x≤fs)) O O (decide_eq_decide.2 ω)) (ay O O (aK O (aU gC O (kw H 2 lU O O O ?_)))))))))))))
    intro w H
    refine Lt (Cr (bU O (ai O (Lp (bO x bh O O O ω) (aP (v:=1) H 0 k_ O O O ω ?_)))))
    intro w H
    simp only [List.set] at H
    refine Lt ?_
    rw [hfin] at H
    exact ⟨some x,_,hsec,O,O,O,O,H⟩
  case refine_2 =>
  clear H
  rintro ρ w6 ⟨sec,st5,e5,r0,r1,r4,r5,H⟩
  rw [BM n dV e2 e3 e4 e5,← hm] at hP
  obtain ⟨L,hL⟩:∃ L,L=gd m fs sec:=⟨_,rfl⟩
  have hLl:L.length=m:=by rw [hL];exact js _ _ _
  rw [← hL] at hP
  rw [Fo,← hL] at H
  refine Cs (Cy (bU r5 (ai r1 (Lp (zf n bh O O O ω) (bG bh O (ai O (Lt ?_)))))))
  refine aH (fun ρ w' => ρ 0=pT rb∧ρ 1=iT n∧ρ 4=pT b4∧ρ 5=.slice (aT lb) m m ∧
   St W [rb] [aa lb (nums .i64 L) 3,aa b4 [.map none,.int .i64 0] 134,cy rb sb so c s (if (L.drop n).any (0<·) then st5.fail else st5)] w') ?_ ?_
  case refine_1 =>
   refine Cb ?_
   refine Cl (fun mm ρ w' => ∃ i,i≤m - n∧mm=m - n - i∧ρ 0=pT rb∧ρ 1=iT n∧ρ 4=pT b4∧ρ 5=.slice (aT lb) m m ∧
    ρ 51=.slice (some ⟨lb,if m=n then 0 else 0+n * 1,none⟩) (m - n) (m - n)∧ρ 52=iT (m - n)∧ρ 53=iT i ∧
    St W [rb] [aa lb (nums .i64 L) 3,aa b4 [.map none,.int .i64 0] 134,cy rb sb so c s (if ((L.drop n).take i).any (0<·) then st5.fail else st5)] w') (m - n)
    ⟨0,Nat.zero_le _,rfl,r0,r1,r4,r5,rfl,rfl,rfl,H⟩ ?_
   clear H r0 r1 r4 r5
   rintro mm ρ w7 ⟨i,hi,hmm,r0,r1,r4,r5,r51,r52,r53,H⟩
   refine Cy (bP η η (Lt ?_))
   by_cases hy:i=m - n
   case pos =>
    subst hy
    refine Cs (CF O ω (Cx (ax (ax (br (tn ?_))))))
    rw [List.take_of_length_le (by rw [List.length_drop,hLl];exact Nat.le_refl _)] at H
    exact ⟨r0,r1,r4,r5,H⟩
   have hlt:i<m - n:=ω
   have hmn:¬ m=n:=ω
   have hcell:(nums .i64 L)[0+n * 1+i]?=some (iT (L[n+i])):=by
    rw [show 0+n * 1+i=n+i by omega]
    simp [nums,show n+i<L.length by omega]
   have hsn:=GP (l:=L) (n:=n) (i:=i) ω
   rw [if_neg hmn] at r51
   refine Cs (CT O ω (Ck (tn (Cs (Cb (Cy (Lp (ci i bh r51 r53 O hlt) (aC a_ O (H.cell 0 O hcell) (az O (Lt ?_))))))))))
   by_cases h0:L[n+i]=0
   case pos =>
    refine Cy (ai O (Lp (bE (b:=false) O O (decide_eq_false ω)) (Lt (Cq O (Ck (aF (tn (Cr (ao (r:=((i+1:Nat):Int)) r53 O (ck (b:=1) ω) (ai O (Lt ?_)))))))))))
    rw [show decide (0<L[n+i])=false from decide_eq_false ω,Bool.or_false] at hsn
    rw [← hsn] at H
    exact ⟨m - n - (i+1),ω,i+1,ω,O,r0,r1,r4,r5,by rw [if_neg hmn];exact r51,r52,O,H⟩
   refine Cy (ai O (Lp (bE (b:=true) O O (decide_eq_true ω)) (Lt ?_)))
   refine Cp O ?_
   refine Cr (bH η (aK O (aU dL O (g_ H 2 lU O O O ?_))))
   intro w H
   simp only [List.set] at H
   refine Ln (aF (tn (Cr (ao (r:=((i+1:Nat):Int)) r53 O (ck (b:=1) ω) (ai O (Lt ?_))))))
   rw [show decide (0<L[n+i])=true from decide_eq_true ω,Bool.or_true] at hsn
   refine ⟨m - n - (i+1),ω,i+1,ω,O,r0,r1,r4,r5,by rw [if_neg hmn];exact r51,r52,O,?_⟩
   rw [hsn,if_pos rfl]
   have:(⟨(if ((L.drop n).take i).any (0<·) then st5.fail else st5).R,true,(if ((L.drop n).take i).any (0<·) then st5.fail else st5).o⟩:RS)=st5.fail:=by split <;> rfl
   rw [this] at H
   exact H
  case refine_2 =>
  clear H r0 r1 r4 r5
  rintro ρ w7 ⟨r0,r1,r4,r5,H⟩
  refine Cr (bU r5 (ai r1 (Lp (ll n bh O O O ω) (gS O (Lt ?_)))))
  exact ⟨_,_,lb,_,m,hP,⟨js _ _ _,fun y hy => by have:=rk _ _ _ y hy;omega⟩,by rw [hL];unfold nums;rw [← List.map_take,mA ω],r0,r4,O,H⟩
 case refine_2 =>
 clear H
 rintro ρ w5 ⟨ls,st2,lb,cur,cap,hP,hL,hcur,r0,r4,r5,H⟩
 rw [← hL.1] at r5 hcur
 rw [EJ n st hP]
 obtain ⟨st3,e3⟩:∃ st3,(if !CX ls then st2.bad (qw ls) else st2)=st3:=⟨_,rfl⟩
 rw [e3]
 have hrow:l7 w5 .i64 lb 0 ls:=By (H.blk (i:=0) rfl) hcur
 have hsz5:=H.frm.size
 refine Cy (bU r5 (xL H hrow hL.2 (by rw [hL.1];exact hn) O O ?_))
 intro w mb hmb hfw H
 refine gr O (av O O (av O O (cE H tB O ?_)))
 intro w b11 hn11 hb11 H
 refine dG (vs:=[.map (some mb),.int .i64 (iG ls)]) H 0 qM O O O O O (by simp [Value.oneCell']) ?_
 intro w H
 simp only [List.set] at H
 refine cU O (Lt (Cs (Cy (dh O (Lp (fT O) (Lt ?_))))))
 refine aH (fun ρ w' => ρ 4=pT b4∧ρ 11=pT b11 ∧
  St W [rb] [aa b11 [.map (some mb),.int .i64 (iG ls)] 134,f_ mb (dO ls ls.length),aa b4 [.map none,.int .i64 0] 134,cy rb sb so c s st3] w') ?_ ?_
 case refine_1 =>
  cases hk:CX ls with
  | true =>
   rw [hk] at e3
   refine Cq O (Ck (tn ?_))
   simp only [Bool.not_true,Bool.false_eq_true,if_false] at e3
   rw [e3] at H
   exact ⟨r4,O,H.sub [0,1,3,4] O (by simp)⟩
  | false =>
   rw [hk] at e3
   simp only [Bool.not_false,if_true,RS.bad] at e3
   have hco:=H.rdO 4 rfl
   have hr2:l7 w .i64 lb 0 ls:=By (H.blk (i:=2) rfl) hcur
   refine Cp O ?_
   cases ho:st2.o with
   | true =>
    rw [ho] at hco e3
    refine Cr (bH η (bH η (bH η (aK O (aU gC O (aC jz O hco (dh O (Lk (Lk (ay O O (aK O (aU dL O (g_ H 4 lU O O O ?_)))))))))))))
    intro w H
    refine aK O (aU gC O (kw H 4 lU O O O ?_))
    intro w H
    simp only [List.set] at H
    refine Lt ?_
    simp only [Bool.true_or] at e3
    rw [e3] at H
    exact ⟨r4,O,H.sub [0,1,3,4] O (by simp)⟩
   | false =>
    rw [ho] at hco e3
    refine Cr (bH η (bH η (bH η (aK O (aU gC O (aC jz O hco (dh O (Lg (YS r5) (Bf H hr2 hL.2 (by rw [hL.1];exact hn) O O O O O ?_)))))))))
    intro w hfo H
    refine ay O O (aK O (aU dL O (g_ H 4 lU O O O ?_)))
    intro w H
    refine aK O (aU gC O (kw H 4 lU O O O ?_))
    intro w H
    simp only [List.set] at H
    refine Lt ?_
    simp only [Bool.false_or] at e3
    rw [e3] at H
    exact ⟨r4,O,H.sub [0,1,3,4] O (by simp)⟩
 case refine_2 =>
 clear H r0 r4 r5
 rintro ρ w6 ⟨r4,r11,H⟩
 refine Cy (Lp (fH (cs:=[.map (some mb),.int .i64 (iG ls)]) j6 r11 O (fun j hj => by rw [Nat.zero_add];exact (H.blk (i:=0) O).cell j)) (dG (vs:=[.map (some mb),.int .i64 (iG ls)]) H 2 qM r4 O O O O (by simp [Value.oneCell']) ?_))
 intro w H
 simp only [List.set] at H
 refine Lt (Ct ?_)
 refine lB (cs:=[.map (some mb),.int .i64 (iG ls)]) O j6 r4 O (fun j hj => by rw [Nat.zero_add];exact (H.blk (i:=2) O).cell j) ⟨mb,ω,O,H.get (i:=1) rfl,H.get (i:=3) rfl,H.frm⟩
end Go.Proofs.YtmgemcffhbnpfaaGreatDoor
