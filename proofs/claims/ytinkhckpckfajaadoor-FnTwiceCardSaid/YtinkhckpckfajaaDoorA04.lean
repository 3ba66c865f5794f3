/-
  A picture is written and read: part 4 of 13 (Model, Nat, Auto, HT, Lz, Groups, PixL, Err).
-/
import Derived.Test.YtinkhckpckfajaaDoorA03
set_option linter.unusedVariables false
set_option linter.unusedSimpArgs false
set_option maxRecDepth 100000
namespace Go.Proofs.YtinkhckpckfajaaDoor
def argb (a r g b:Nat):Nat:=((a * 256+r) * 256+g) * 256+b
def pA (p:Nat):Nat:=p / 16777216 % 256
def pR (p:Nat):Nat:=p / 65536 % 256
def pG (p:Nat):Nat:=p / 256 % 256
def pB (p:Nat):Nat:=p % 256
def chan (p:Nat) (k:Nat):Nat:=if k=0 then pR p else if k=1 then pG p else if k=2 then pB p else pA p
def byteAt (l:List Nat) (j:Nat):Nat:=chan (l.getD (j / 4) 0) (j % 4)
def tilesN (n b:Nat):Nat:=(n+2 ^ b - 1) / 2 ^ b
def lz (s:Nat):Par Nat:=if s<4 then ret (s+1) else pb (rd ((s - 2) / 2)) fun n => ret ((2+s % 2) * 2 ^ ((s - 2) / 2)+n+1)
def dcode (i:Nat):Nat:=tab_distanceMapTable.getD i 0
def distOf (w c:Nat):Nat:=if 120<c then c - 120 else if dcode (c - 1) / 16 * w+8<dcode (c - 1) % 16+1 then 1 else dcode (c - 1) / 16 * w+8 - dcode (c - 1) % 16
def hashOf (cc p:Nat):Nat:=p * 506832829 % 4294967296 / 2 ^ (32 - cc)
def cached (cc:Nat) (acc:List Nat) (i:Nat):Nat:=acc.foldl (fun v p => if hashOf cc p=i then p else v) 0
def copyPx (d:Nat):Nat→List Nat→List Nat
 | 0,acc => acc
 | n+1,acc => copyPx d n (acc++[acc.getD (acc.length - d) 0])
def token (w n cc:Nat) (g:Nat→T) (acc:List Nat):Par (List Nat) :=
 pb (g 0).walk fun s =>
  if s<256 then pb (g 1).walk fun r => pb (g 2).walk fun b => pb (g 3).walk fun a => ret (acc++[argb a r s b])
  else if s<280 then pb (lz (s - 256)) fun len => pb (g 4).walk fun ds => pb (lz ds) fun dc =>
   if acc.length<distOf w dc∨n<acc.length+len then no else ret (copyPx (distOf w dc) len acc)
  else if cc=0∨2 ^ cc≤s - 280 then no else ret (acc++[cached cc acc (s - 280)])
def pixLoop (w n cc:Nat) (grp:Nat→Nat→T):Nat→List Nat→Par (List Nat)
 | 0,acc => ret acc
 | k+1,acc => if n≤acc.length then ret acc else pb (token w n cc (grp acc.length) acc) (pixLoop w n cc grp k)
def ccBits:Par Nat:=pb (rd 1) fun u => if u=0 then ret 0 else pb (rd 4) fun c => if c<1∨11<c then no else ret c
def alph (cc j:Nat):Nat:=if j=0 then 280+(if cc=0 then 0 else 2 ^ cc) else if j=4 then 40 else 256
def decTrees (cc:Nat):Nat→Nat→Par (List T)
 | 0,i => ret []
 | k+1,i => pb (decHT (alph cc (i % 5))) fun t => pb (decTrees cc k (i+1)) fun ts => ret (t :: ts)
def maxGroup (px:List Nat):Nat:=px.foldl (fun m p => max m (p / 256 % 65536)) 0
def groupAt (hb tpr:Nat) (hpx:List Nat) (w at_:Nat):Nat:=if hb=0 then 0 else hpx.getD (tpr * (at_ / w / 2 ^ hb)+at_ % w / 2 ^ hb) 0 / 256 % 65536
def decGroups (mt:Par (Nat × List Nat)) (cc:Nat):Par ((Nat × List Nat) × List T):=pb mt fun m => pb (decTrees cc (5 * (maxGroup m.2+1)) 0) fun ts => ret (m,ts)
def grpOf (w:Nat) (q:(Nat × List Nat) × List T) (at_ j:Nat):T:=q.2.getD (5 * groupAt q.1.1 (tilesN w q.1.1) q.1.2 w at_+j) (.leaf 0)
def decPixB (mt:Par (Nat × List Nat)) (w h:Nat):Par (List Nat):=pb ccBits fun cc => pb (decGroups mt cc) fun q => pixLoop w (w * h) cc (grpOf w q) (w * h) []
def decSub (w h:Nat):Par (List Nat):=decPixB (ret (0,[])) w h
def decMeta (w h:Nat):Par (Nat × List Nat):=pb (rd 1) fun u => if u=0 then ret (0,[]) else pb (rd 3) fun b => pb (decSub (tilesN w (b+2)) (tilesN h (b+2))) fun px => ret (b+2,px)
def mtOf (top:Bool) (w h:Nat):Par (Nat × List Nat):=if top then decMeta w h else ret (0,[])
def decPix (top:Bool) (w h:Nat):Par (List Nat):=decPixB (mtOf top w h) w h
structure Tr where
 kind:Nat
 wd:Nat
 bits:Nat
 px:List Nat
def addPx (p q:Nat):Nat:=argb ((pA p+pA q) % 256) ((pR p+pR q) % 256) ((pG p+pG q) % 256) ((pB p+pB q) % 256)
def scan (f:List Nat→Nat→Nat):List Nat→List Nat→List Nat
 | acc,[] => acc
 | acc,p :: l => scan f (acc++[f acc p]) l
def sums (l:List Nat):List Nat:=scan (fun acc p => if acc.length=0 then p else addPx p (acc.getD (acc.length - 1) 0)) [] l
def shorterN (n:Nat):Nat:=if n≤2 then 3 else if n≤4 then 2 else if n≤16 then 1 else 0
def decTr (w h:Nat):Par (Tr × Nat):=pb (rd 2) fun k =>
 if k≤1 then pb (rd 3) fun b => pb (decSub (tilesN w (b+2)) (tilesN h (b+2))) fun px => ret (⟨k,w,b+2,px⟩,w)
 else if k=2 then ret (⟨2,w,0,[]⟩,w)
 else pb (rd 8) fun n => pb (decSub (n+1) 1) fun px => ret (⟨3,w,shorterN (n+1),sums px⟩,tilesN w (shorterN (n+1)))
def decTrs (h:Nat):Nat→Nat→List Tr→Par (List Tr × Nat)
 | 0,w,l => no
 | k+1,w,l => pb (rd 1) fun u => if u=0 then ret (l,w) else pb (decTr w h) fun t => if l.any (·.kind=t.1.kind) then no else decTrs h k t.2 (l++[t.1])
def header:Par (Nat × Nat):=pb (rd 8) fun m => if m≠47 then no else pb (rd 14) fun w => pb (rd 14) fun h => pb (rd 1) fun _ => pb (rd 3) fun v => if v≠0 then no else ret (w+1,h+1)
structure Raw0 where
 w:Nat
 h:Nat
 trs:List Tr
 px:List Nat
def decRaw:Par Raw0:=pb header fun q => pb (decTrs q.2 5 q.1 []) fun t => pb (decPix true t.2 q.2) fun px => ret ⟨q.1,q.2,t.1,px⟩
theorem lz_mono (s:Nat):Mono (lz s):=Mono.ite (Mono.ret _) ((rd_mono _).pb fun _ => Mono.ret _)
theorem token_mono (w n cc:Nat) (g:Nat→T) (acc:List Nat):Mono (token w n cc g acc) :=
 (walk_mono _).pb fun s => Mono.ite ((walk_mono _).pb fun r => (walk_mono _).pb fun b => (walk_mono _).pb fun a => Mono.ret _)
  (Mono.ite ((lz_mono _).pb fun len => (walk_mono _).pb fun ds => (lz_mono _).pb fun dc => Mono.ite Mono.no (Mono.ret _)) (Mono.ite Mono.no (Mono.ret _)))
theorem pixLoop_mono (w n cc:Nat) (grp:Nat→Nat→T):∀ (k:Nat) (acc:List Nat),Mono (pixLoop w n cc grp k acc)
 | 0,acc => Mono.ret _
 | k+1,acc => Mono.ite (Mono.ret _) ((token_mono _ _ _ _ _).pb fun l => pixLoop_mono w n cc grp k l)
theorem ccBits_mono:Mono ccBits:=(rd_mono 1).pb fun u => Mono.ite (Mono.ret _) ((rd_mono 4).pb fun c => Mono.ite Mono.no (Mono.ret _))
theorem decTrees_mono (cc:Nat):∀ (k i:Nat),Mono (decTrees cc k i)
 | 0,i => Mono.ret _
 | k+1,i => (decHT_mono _).pb fun t => (decTrees_mono cc k (i+1)).pb fun ts => Mono.ret _
theorem decPixB_mono {mt:Par (Nat × List Nat)} (hm:Mono mt) (w h:Nat):Mono (decPixB mt w h) :=
 ccBits_mono.pb fun cc => (hm.pb fun m => (decTrees_mono _ _ _).pb fun ts => Mono.ret _).pb fun q => pixLoop_mono _ _ _ _ _ _
theorem decSub_mono (w h:Nat):Mono (decSub w h):=decPixB_mono (Mono.ret _) w h
theorem mtOf_mono (top:Bool) (w h:Nat):Mono (mtOf top w h) :=
 Mono.ite ((rd_mono 1).pb fun u => Mono.ite (Mono.ret _) ((rd_mono 3).pb fun b => (decSub_mono _ _).pb fun px => Mono.ret _)) (Mono.ret _)
theorem decPix_mono (top:Bool) (w h:Nat):Mono (decPix top w h):=decPixB_mono (mtOf_mono top w h) w h
theorem decTr_mono (w h:Nat):Mono (decTr w h) :=
 (rd_mono 2).pb fun k => Mono.ite ((rd_mono 3).pb fun b => (decSub_mono _ _).pb fun px => Mono.ret _) (Mono.ite (Mono.ret _) ((rd_mono 8).pb fun n => (decSub_mono _ _).pb fun px => Mono.ret _))
theorem decTrs_mono (h:Nat):∀ (k w:Nat) (l:List Tr),Mono (decTrs h k w l)
 | 0,w,l => Mono.no
 | k+1,w,l => (rd_mono 1).pb fun u => Mono.ite (Mono.ret _) ((decTr_mono w h).pb fun t => Mono.ite Mono.no (decTrs_mono h k _ _))
theorem header_mono:Mono header:=(rd_mono 8).pb fun m => Mono.ite Mono.no ((rd_mono 14).pb fun w => (rd_mono 14).pb fun h => (rd_mono 1).pb fun _ => (rd_mono 3).pb fun v => Mono.ite Mono.no (Mono.ret _))
theorem pb_some {α β:Type} {p:Par α} {f:α→Par β} {R R':Bits} {u:β} (h:pb p f R=some (u,R')):∃ v R1,p R=some (v,R1)∧f v R1=some (u,R'):=by
 cases hp:p R with
 | none => rw [pb_no hp] at h;cases h
 | some q => obtain ⟨v,R1⟩:=q;rw [pb_ok hp] at h;exact ⟨v,R1,rfl,h⟩
theorem ret_some {α:Type} {v u:α} {R R':Bits} (h:ret v R=some (u,R')):v=u∧R=R':=by simpa [ret] using h
theorem optR_some {α:Type} {o:Option α} {u:α} {R R':Bits} (h:optR o R=some (u,R')):o=some u∧R=R':=by
 cases o with
 | none => cases h
 | some v => obtain ⟨rfl,rfl⟩:=ret_some h;exact ⟨rfl,rfl⟩
theorem T.symLt.mono {n m:Nat} (h:n≤m):∀ {t:T},t.symLt n→t.symLt m
 | .leaf s,hs => Nat.lt_of_lt_of_le hs h
 | .node a b,hs => ⟨T.symLt.mono h hs.1,T.symLt.mono h hs.2⟩
theorem simpleT_below {n s0 s1 A:Nat} {u:T} (h:simpleT n s0 s1 A=some u):u.symLt A:=by
 unfold simpleT at h
 split at h
 ·split at h
  ·simp only [Option.some.injEq] at h;subst h;assumption
  ·cases h
 ·split at h
  ·rename_i hs
   simp only [Option.some.injEq] at h;subst h;exact hs
  ·cases h
theorem decCL_good {n:Nat} {ccl:List Nat} {R:Bits} {ls:List Nat} {R':Bits} (hc:ccl.length=19) (h:decCL n ccl R=some (ls,R')):ls.length=n∧∀ x ∈ ls,x<16:=by
 rw [decCL_eq] at h
 cases hb:buildT ccl with
 | none => rw [hb] at h;cases h
 | some t =>
  rw [hb] at h
  have ht:=buildT_below hb
  rw [hc] at ht
  simp only at h
  obtain ⟨ms,R1,_,h⟩:=pb_some h
  exact clLoop_good ht n [] ms 8 R1 ls R' (by simp) (by simp) (by simp) (by omega) h
theorem decHT_below {A:Nat} {R R':Bits} {u:T} (h:decHT A R=some (u,R')):u.symLt A:=by
 obtain ⟨c,R1,_,h⟩:=pb_some h
 split at h
 ·obtain ⟨nc,R2,_,h⟩:=pb_some h
  split at h
  ·cases h
  ·obtain ⟨f,R3,_,h⟩:=pb_some h
   obtain ⟨ls,R4,h4,h⟩:=pb_some h
   obtain ⟨hl,_⟩:=decCL_good (by simp) h4
   have:=buildT_below (optR_some h).1
   rwa [hl] at this
 ·obtain ⟨ns,R2,_,h⟩:=pb_some h
  obtain ⟨f,R3,_,h⟩:=pb_some h
  obtain ⟨s0,R4,_,h⟩:=pb_some h
  split at h
  ·obtain ⟨s1,R5,_,h⟩:=pb_some h
   exact simpleT_below (optR_some h).1
  ·exact simpleT_below (optR_some h).1
theorem decTrees_good {cc:Nat}:∀ (k i:Nat) {R R':Bits} {ts:List T},decTrees cc k i R=some (ts,R')→ts.length=k∧∀ j,j<k→(ts.getD j (.leaf 0)).symLt (alph cc ((i+j) % 5))
 | 0,i,R,R',ts,h => by
  obtain ⟨rfl,_⟩:=ret_some h
  exact ⟨rfl,fun j hj => by omega⟩
 | k+1,i,R,R',ts,h => by
  obtain ⟨t,R1,ht,h⟩:=pb_some h
  obtain ⟨ts',R2,hts,h⟩:=pb_some h
  obtain ⟨rfl,_⟩:=ret_some h
  obtain ⟨h1,h2⟩:=decTrees_good k (i+1) hts
  refine ⟨by simp [h1],fun j hj => ?_⟩
  cases j with
  | zero => exact decHT_below ht
  | succ j => have:=h2 j (by omega);rw [show i+1+j=i+(j+1) by omega] at this;simpa using this
theorem copyPx_length (d:Nat):∀ (n:Nat) (acc:List Nat),(copyPx d n acc).length=acc.length+n
 | 0,acc => rfl
 | n+1,acc => by rw [copyPx,copyPx_length d n];simp;omega
end Go.Proofs.YtinkhckpckfajaaDoor
namespace Go.Proofs.YtinkhckpckfajaaDoor
open Go
section
variable {a b:Nat}
theorem n64 (h:a+b≤9223372036854775807):IntKind.i64.wrap ((a:Int)+(b:Int))=((a+b:Nat):Int):=by rw [w64 (by omega)];omega
theorem n32 (h:a+b≤2147483647):IntKind.i32.wrap ((a:Int)+(b:Int))=((a+b:Nat):Int):=by rw [w32 (by omega)];omega
theorem nu32 (h:a+b≤4294967295):IntKind.u32.wrap ((a:Int)+(b:Int))=((a+b:Nat):Int):=by rw [wu32 (by omega)];omega
theorem nu8:IntKind.u8.wrap ((a:Int)+(b:Int))=(((a+b) % 256:Nat):Int):=by rw [wu8m];omega
theorem s64 (h:b≤a∧a≤9223372036854775807):IntKind.i64.wrap ((a:Int) - (b:Int))=((a - b:Nat):Int):=by rw [w64 (by omega)];omega
theorem s32 (h:b≤a∧a≤2147483647):IntKind.i32.wrap ((a:Int) - (b:Int))=((a - b:Nat):Int):=by rw [w32 (by omega)];omega
theorem su32 (h:b≤a∧a≤4294967295):IntKind.u32.wrap ((a:Int) - (b:Int))=((a - b:Nat):Int):=by rw [wu32 (by omega)];omega
theorem mul_cast:(a:Int) * (b:Int)=((a * b:Nat):Int):=(Int.natCast_mul a b).symm
theorem m64 (h:a * b≤9223372036854775807):IntKind.i64.wrap ((a:Int) * (b:Int))=((a * b:Nat):Int):=by rw [mul_cast,w64 (by omega)]
theorem m32 (h:a * b≤2147483647):IntKind.i32.wrap ((a:Int) * (b:Int))=((a * b:Nat):Int):=by rw [mul_cast,w32 (by omega)]
theorem mu32 (h:a * b≤4294967295):IntKind.u32.wrap ((a:Int) * (b:Int))=((a * b:Nat):Int):=by rw [mul_cast,wu32 (by omega)]
theorem q64 (h:a≤9223372036854775807):IntKind.i64.wrap ((a:Int).tdiv (b:Int))=((a / b:Nat):Int):=by
 have:(a:Int).tdiv (b:Int)=((a / b:Nat):Int):=rfl
 have h2:=Nat.div_le_self a b
 rw [this]
 generalize a / b=q at *
 rw [w64 (by omega)]
theorem q32 (h:a≤2147483647):IntKind.i32.wrap ((a:Int).tdiv (b:Int))=((a / b:Nat):Int):=by
 have:(a:Int).tdiv (b:Int)=((a / b:Nat):Int):=rfl
 have h2:=Nat.div_le_self a b
 rw [this]
 generalize a / b=q at *
 rw [w32 (by omega)]
theorem rN:(a:Int).tmod (b:Int)=((a % b:Nat):Int):=rfl
theorem shlK {k:IntKind} (hb:b≤k.bits) (hw:k.wrap ((a * 2 ^ b:Nat):Int)=((a * 2 ^ b:Nat):Int)):k.wrap ((a:Int) * 2 ^ min (b:Int).toNat k.bits)=((a * 2 ^ b:Nat):Int):=by
 rw [Int.toNat_natCast,Nat.min_eq_left hb]
 refine Eq.trans ?_ hw
 congr 1
theorem l64 (h:b≤64∧a * 2 ^ b≤9223372036854775807):IntKind.i64.wrap ((a:Int) * 2 ^ min (b:Int).toNat IntKind.i64.bits)=((a * 2 ^ b:Nat):Int):=shlK h.1 (w64 (by omega))
theorem l32 (h:b≤32∧a * 2 ^ b≤2147483647):IntKind.i32.wrap ((a:Int) * 2 ^ min (b:Int).toNat IntKind.i32.bits)=((a * 2 ^ b:Nat):Int):=shlK h.1 (w32 (by omega))
theorem lu32 (h:b≤32∧a * 2 ^ b≤4294967295):IntKind.u32.wrap ((a:Int) * 2 ^ min (b:Int).toNat IntKind.u32.bits)=((a * 2 ^ b:Nat):Int):=shlK h.1 (wu32 (by omega))
theorem shrK {k:IntKind} (hb:b≤k.bits):(a:Int).fdiv (2 ^ min (b:Int).toNat k.bits)=((a / 2 ^ b:Nat):Int):=by
 rw [Int.toNat_natCast,Nat.min_eq_left hb,show ((2:Int) ^ b)=((2 ^ b:Nat):Int) by simp,Int.fdiv_eq_ediv_of_nonneg _ (Int.natCast_nonneg _)]
 exact (Int.natCast_ediv a (2 ^ b)).symm
theorem bv_and {B:Nat} (ha:a<2 ^ B) (hb:b<2 ^ B):(BitVec.ofInt B (a:Int) &&& BitVec.ofInt B (b:Int)).toNat=a &&& b:=by
 rw [BitVec.toNat_and,BitVec.ofInt_natCast,BitVec.ofInt_natCast,BitVec.toNat_ofNat,BitVec.toNat_ofNat,Nat.mod_eq_of_lt ha,Nat.mod_eq_of_lt hb]
theorem bv_or {B:Nat} (ha:a<2 ^ B) (hb:b<2 ^ B):(BitVec.ofInt B (a:Int) ||| BitVec.ofInt B (b:Int)).toNat=a ||| b:=by
 rw [BitVec.toNat_or,BitVec.ofInt_natCast,BitVec.ofInt_natCast,BitVec.toNat_ofNat,BitVec.toNat_ofNat,Nat.mod_eq_of_lt ha,Nat.mod_eq_of_lt hb]
theorem bv_xor {B:Nat} (ha:a<2 ^ B) (hb:b<2 ^ B):(BitVec.ofInt B (a:Int) ^^^ BitVec.ofInt B (b:Int)).toNat=a ^^^ b:=by
 rw [BitVec.toNat_xor,BitVec.ofInt_natCast,BitVec.ofInt_natCast,BitVec.toNat_ofNat,BitVec.toNat_ofNat,Nat.mod_eq_of_lt ha,Nat.mod_eq_of_lt hb]
theorem a64 (h:a<2 ^ 63∧b<2 ^ 63):andI .i64 (a:Int) (b:Int)=((a &&& b:Nat):Int):=by
 have h2:a &&& b<2 ^ 63:=Nat.and_lt_two_pow _ h.2
 show IntKind.i64.wrap ((BitVec.ofInt 64 _ &&& BitVec.ofInt 64 _).toNat:Int)=_
 rw [bv_and (by omega) (by omega),w64 (by omega)]
theorem a32 (h:a<2 ^ 31∧b<2 ^ 31):andI .i32 (a:Int) (b:Int)=((a &&& b:Nat):Int):=by
 have h2:a &&& b<2 ^ 31:=Nat.and_lt_two_pow _ h.2
 show IntKind.i32.wrap ((BitVec.ofInt 32 _ &&& BitVec.ofInt 32 _).toNat:Int)=_
 rw [bv_and (by omega) (by omega),w32 (by omega)]
theorem au32 (h:a<2 ^ 32∧b<2 ^ 32):andI .u32 (a:Int) (b:Int)=((a &&& b:Nat):Int):=by
 have h2:a &&& b<2 ^ 32:=Nat.and_lt_two_pow _ h.2
 show IntKind.u32.wrap ((BitVec.ofInt 32 _ &&& BitVec.ofInt 32 _).toNat:Int)=_
 rw [bv_and (by omega) (by omega),wu32 (by omega)]
theorem au8 (h:a<2 ^ 8∧b<2 ^ 8):andI .u8 (a:Int) (b:Int)=((a &&& b:Nat):Int):=by
 have h2:a &&& b<2 ^ 8:=Nat.and_lt_two_pow _ h.2
 show IntKind.u8.wrap ((BitVec.ofInt 8 _ &&& BitVec.ofInt 8 _).toNat:Int)=_
 rw [bv_and (by omega) (by omega),wu8 (by omega)]
theorem o64 (h:a<2 ^ 63∧b<2 ^ 63):orI .i64 (a:Int) (b:Int)=((a ||| b:Nat):Int):=by
 have h2:a ||| b<2 ^ 63:=Nat.or_lt_two_pow h.1 h.2
 show IntKind.i64.wrap ((BitVec.ofInt 64 _ ||| BitVec.ofInt 64 _).toNat:Int)=_
 rw [bv_or (by omega) (by omega),w64 (by omega)]
theorem ou32 (h:a<2 ^ 32∧b<2 ^ 32):orI .u32 (a:Int) (b:Int)=((a ||| b:Nat):Int):=by
 have h2:a ||| b<2 ^ 32:=Nat.or_lt_two_pow h.1 h.2
 show IntKind.u32.wrap ((BitVec.ofInt 32 _ ||| BitVec.ofInt 32 _).toNat:Int)=_
 rw [bv_or (by omega) (by omega),wu32 (by omega)]
theorem ou8 (h:a<2 ^ 8∧b<2 ^ 8):orI .u8 (a:Int) (b:Int)=((a ||| b:Nat):Int):=by
 have h2:a ||| b<2 ^ 8:=Nat.or_lt_two_pow h.1 h.2
 show IntKind.u8.wrap ((BitVec.ofInt 8 _ ||| BitVec.ofInt 8 _).toNat:Int)=_
 rw [bv_or (by omega) (by omega),wu8 (by omega)]
theorem x32 (h:a<2 ^ 32∧b<2 ^ 32):xorI .u32 (a:Int) (b:Int)=((a ^^^ b:Nat):Int):=by
 have h2:a ^^^ b<2 ^ 32:=Nat.xor_lt_two_pow h.1 h.2
 show IntKind.u32.wrap ((BitVec.ofInt 32 _ ^^^ BitVec.ofInt 32 _).toNat:Int)=_
 rw [bv_xor (by omega) (by omega),wu32 (by omega)]
theorem c64 (h:a≤9223372036854775807):IntKind.i64.wrap (a:Int)=(a:Int):=w64 (by omega)
theorem c32 (h:a≤2147483647):IntKind.i32.wrap (a:Int)=(a:Int):=w32 (by omega)
theorem cu32:IntKind.u32.wrap (a:Int)=((a % 4294967296:Nat):Int):=by rw [wu32m];omega
theorem cu8:IntKind.u8.wrap (a:Int)=((a % 256:Nat):Int):=by rw [wu8m];omega
end
section
variable {P:Program} {e:Operand→Value} {d:Option Tmp} {ty:TypeId} {pos:String} {after:Array Edge} {g:Option (Nat × Bool)} {w:World}
variable {t:TypeId} {x y:Operand} {k:IntKind} {m:Int}
theorem Y.ixS0 {el b l c:Nat} (j:Nat) (F:SL P t el 1) (hx:e x=.slice (some ⟨b,0,none⟩) l c) (hy:e y=.int k m) (hj:m=(j:Int)) (hl:j<l) :
  Yld P e ⟨d,.indexAddr t x y,ty,pos,after,g⟩ w (.pointer (some ⟨b,j,none⟩)) w:=by
 have:=Y.ixS1 (ty:=ty) (pos:=pos) (after:=after) (g:=g) (d:=d) (w:=w) j F hx hy hj hl
 rwa [Nat.zero_add] at this
theorem Y.ixA0 {el len b:Nat} (j:Nat) (F:AR P t len el 1) (hx:e x=.pointer (some ⟨b,0,none⟩)) (hy:e y=.int k m) (hj:m=(j:Int)) (hl:j<len) :
  Yld P e ⟨d,.indexAddr t x y,ty,pos,after,g⟩ w (.pointer (some ⟨b,j,none⟩)) w:=by
 have:=Y.ixA1 (ty:=ty) (pos:=pos) (after:=after) (g:=g) (d:=d) (w:=w) j F hx hy hj hl
 rwa [Nat.zero_add] at this
end
section
variable {w0 w:World} {S:List Nat} {l:List Res} {P:Program} {n:Nat} {ops:Array Oper} {Q:Post} {rest:List Oper} {ρ:Env} {ty:TypeId} {pos:String} {after:Array Edge} {t tt:TypeId} {x y:Operand} {b off nn:Nat}
theorem VL.putR {k:IntKind} {f:Nat→Nat} {v:Nat} (H:St w0 S l w) (i:Nat) (F:ST1 P t) (hx:ev ρ x=.pointer (some ⟨b,off,none⟩)) (hi:l[i]?=some (blkR b (rowK k f nn) tt)) (hy:ev ρ y=.int k (v:Nat)) (ho:off<nn)
  (h:∀ w',St w0 S (l.set i (blkR b (rowK k (fun j => if j=off then v else f j) nn) tt)) w'→VL P n ops Q rest ρ w'):VL P n ops Q (⟨none,.store t x y,ty,pos,after,none⟩ :: rest) ρ w :=
 VL.putI H i F hx hi hy (rowK_get ho) fun w' H' => h w' (by rwa [rowK_set (g:=fun j => if j=off then v else f j) (if_pos rfl) (fun j _ hne => if_neg hne)] at H')
theorem VH.putR {fuel:Nat} {listed:Array Bool} {lo:List Oper} {k:IntKind} {f:Nat→Nat} {v:Nat} (i:Nat) (hio:lo[i]?=some ⟨none,.store t x y,ty,pos,after,none⟩) (hr:Region.ready .any lo.toArray listed=[i]) (H:St w0 S l w) (j:Nat) (F:ST1 P t) (hx:ev ρ x=.pointer (some ⟨b,off,none⟩)) (hi:l[j]?=some (blkR b (rowK k f nn) tt)) (hy:ev ρ y=.int k (v:Nat)) (ho:off<nn)
  (h:∀ w',St w0 S (l.set j (blkR b (rowK k (fun j => if j=off then v else f j) nn) tt)) w'→VH P n lo.toArray Q (Frm S w0) fuel (listed.setIfInBounds i true) ρ w'):VH P n lo.toArray Q (Frm S w0) (fuel+1) listed ρ w :=
 VH.putI i hio hr H j F hx hi hy (rowK_get ho) fun w' H' => h w' (by rwa [rowK_set (g:=fun j => if j=off then v else f j) (if_pos rfl) (fun j _ hne => if_neg hne)] at H')
theorem VL.callP {f:FuncId} {xs:Array Operand} {ts:Array TypeId} {d:Nat} {vs:List Value} {v:Value}
  (hd:Nat.blt d n=true) (he:Ent P f) (hc:Calls P f vs.toArray w fun e w' => e=.returned v∧w'=w) (hx:xs.toList.map (ev ρ)=vs)
  (h:VL P n ops Q rest (upd ρ d v) w) :
  VL P n ops Q (⟨some d,.call ⟨.value (.func f),xs,ts⟩,ty,pos,after,none⟩ :: rest) ρ w :=
 VL.call hd he hc hx fun e w' hR => ⟨v,hR.1,hR.2 ▸ h⟩
end
theorem rowK_row {w:World} {k:IntKind} {b:Nat} {f:Nat→Nat} {n:Nat} {t:TypeId} (h:Blk w b (rowK k f n) t):Row w k b 0 ((List.range n).map f):=fun j hj => by
 simp only [List.length_map,List.length_range] at hj
 rw [Nat.zero_add]
 refine h.cellv ?_
 rw [rowK_get hj]
 simp
theorem rowK_list {w:World} {k:IntKind} {b:Nat} {ls:List Nat} {t:TypeId} {n:Nat} (hn:ls.length=n) (h:Blk w b (rowK k (fun j => ls.getD j 0) n) t):Row w k b 0 ls:=fun j hj => by
 rw [Nat.zero_add]
 refine h.cellv ?_
 rw [rowK_get (by omega)]
 simp [hj]
def HTPost (σ:Src) (bg off:Nat) (cs:List Value) (tG:TypeId) (r:Option (T × Bits)) (w:World) (e:Ending) (w':World):Prop :=
 (∃ u R' cs',r=some (u,R')∧e=.returned .nilIface∧(decR σ R').pred w'∧Blk w' bg cs' tG∧SameOut cs cs' off∧TreeC w.heap.size w' cs' off u∧Frm [σ.d,σ.rd,bg] w w') ∨
 (r=none∧(∃ a,e=.returned (.iface 132 (.pointer (some a))))∧Frm [σ.d,σ.rd,bg] w w')
theorem decHT_any (σ:Src) (R:Bits) (W:World) (bg off A:Nat) (cs:List Value) (tG:TypeId) (D:(decR σ R).pred W) (ro:RO σ W) (hbg:Blk W bg cs tG) (hraw:Raw cs off)
  (hS:OkS σ [σ.d,σ.rd,bg]) (hne:bg≠σ.d∧bg≠σ.rd) (hg1:nG≤bg) (hA:A≤30000) :
  Calls Tryd.prog 70 #[.pointer (some ⟨σ.d,0,none⟩),.pointer (some ⟨bg,off,none⟩),.int .u32 (A:Nat)] W (HTPost σ bg off cs tG (decHT A R) W):=by
 have H:St W [σ.d,σ.rd,bg] [decR σ R,blkR bg cs tG] W:=by
  refine St.cons (St.one hbg ⟨blkR_local _ _ _,blkR_in _ _ _⟩ (by simp [blkR])) D (decR_local σ R) (by simp [decR]) ?_
  intro r hr x hx hx2
  simp only [List.mem_singleton] at hr
  subst hr
  simp only [blkR,List.mem_singleton] at hx2
  subst hx2
  simp only [decR,List.mem_cons,List.not_mem_nil,or_false] at hx
  rcases hx with rfl | rfl
  ·exact hne.1 O
  ·exact hne.2 O
 obtain ⟨ae,hae⟩:=ro.gl.badTree
 have hdec:decHT A R=pb (rd 1) (fun u => if u=0 then decNormal A else decSimple A) R:=rfl
 refine enter (m:=118) Tryd.func70 O Tryd.ntmps70 O (Cy (Lo O (Y.asg O) (Lt ?_)))
 by_cases hR_:1≤R.length
 case neg =>
  rw [pb_no (rd_no (by omega))] at hdec
  refine Cy (Lo O (YP O) (VL.readNoS (k:=1) H 0 O ro hS (by omega) (by omega) O O O ?_))
  intro w a H
  refine Lo O (Y.movT O) (Lo O (Y.ext O O) (Lo O (Y.ext O O) (Lo O (AI O) (Lo O (Y.asg O) (Lt (Cs (Cy (Lo O (Y.mov O) (Lo O (Y.neqNilT ifc_47 O O) (Lt ?_))))))))))
  refine CB O (fun _ => ?_) (fun h => nomatch h)
  refine Cy (Lo O (Y.mov O) (Lo O (Y.asg O) (Lt (Ct (thn_r ?_)))))
  have hF:=H.frm
  exact Done.ret1 O O (.inr ⟨hdec,⟨_,rfl⟩,hF⟩)
 case pos =>
 rw [pb_ok (rd_ok hR_)] at hdec
 have hu:val (R.take (1))<2 ^ (1):=val_take_lt R (1)
 refine Cy (Lo O (YP O) (VL.readOk (k:=1) H 0 O ro hS (by omega) hR_ O O O ?_))
 intro w H
 simp only [List.set] at H
 refine Lo O (Y.movT O) (Lo O (Y.ext O O) (Lo O (Y.ext O O) (Lo O (AI O) (Lo O (Y.asg O) (Lt ?_)))))
 generalize val (R.take (1))=u at *
 generalize R.drop (1)=R1 at *
 clear hR_
 refine Cs (Cy (Lo O (Y.mov O) (Lo O (Y.neqNilF ifc_47 O O) (Lt (CB O (fun h => nomatch h) (fun _ => (Ck (tn (Cs (Cy (Lo O (YI O) (Lo O (Y.neq O O) (Lt ?_)))))))))))))
 by_cases hu:u=0
 case neg =>
  rw [if_neg hu,decSimple] at hdec
  refine CT O (by omega) ?_
  by_cases hR_:1≤R1.length
  case neg =>
   rw [pb_no (rd_no (by omega))] at hdec
   refine Cy (Lo O (YP O) (VL.readNoS (k:=1) H 0 O ro hS (by omega) (by omega) O O O ?_))
   intro w a H
   refine Lo O (Y.movT O) (Lo O (Y.ext O O) (Lo O (Y.ext O O) (Lo O (AI O) (Lo O (Y.asg O) (Lt (Cs (Cy (Lo O (Y.mov O) (Lo O (Y.neqNilT ifc_47 O O) (Lt ?_))))))))))
   refine CB O (fun _ => ?_) (fun h => nomatch h)
   refine Cy (Lo O (Y.mov O) (Lo O (Y.asg O) (Lt (Ct (thn_r (thn_r ?_))))))
   have hF:=H.frm
   exact Done.ret1 O O (.inr ⟨hdec,⟨_,rfl⟩,hF⟩)
  case pos =>
  rw [pb_ok (rd_ok hR_)] at hdec
  have hns:val (R1.take (1))<2 ^ (1):=val_take_lt R1 (1)
  refine Cy (Lo O (YP O) (VL.readOk (k:=1) H 0 O ro hS (by omega) hR_ O O O ?_))
  intro w H
  simp only [List.set] at H
  refine Lo O (Y.movT O) (Lo O (Y.ext O O) (Lo O (Y.ext O O) (Lo O (AI O) (Lo O (Y.asg O) (Lt ?_)))))
  generalize val (R1.take (1))=ns at *
  generalize R1.drop (1)=R2 at *
  clear hR_
  refine Cs (Cy (Lo O (Y.mov O) (Lo O (Y.neqNilF ifc_47 O O) (Lt (CB O (fun h => nomatch h) (fun _ => (Ck (tn (Cy (Lo O (YI O) (Lo O (Y.add O O (nu32 (b:=1) (by omega))) (Lo O (AI O) (Lt ?_)))))))))))))
  by_cases hR_:1≤R2.length
  case neg =>
   rw [pb_no (rd_no (by omega))] at hdec
   refine Cy (Lo O (YP O) (VL.readNoS (k:=1) H 0 O ro hS (by omega) (by omega) O O O ?_))
   intro w a H
   refine Lo O (Y.movT O) (Lo O (Y.ext O O) (Lo O (Y.ext O O) (Lo O (AI O) (Lo O (Y.asg O) (Lt (Cs (Cy (Lo O (Y.mov O) (Lo O (Y.neqNilT ifc_47 O O) (Lt ?_))))))))))
   refine CB O (fun _ => ?_) (fun h => nomatch h)
   refine Cy (Lo O (Y.mov O) (Lo O (Y.asg O) (Lt (Ct (thn_r (thn_r ?_))))))
   have hF:=H.frm
   exact Done.ret1 O O (.inr ⟨hdec,⟨_,rfl⟩,hF⟩)
  case pos =>
  rw [pb_ok (rd_ok hR_)] at hdec
  have hf:val (R2.take (1))<2 ^ (1):=val_take_lt R2 (1)
  refine Cy (Lo O (YP O) (VL.readOk (k:=1) H 0 O ro hS (by omega) hR_ O O O ?_))
  intro w H
  simp only [List.set] at H
  refine Lo O (Y.movT O) (Lo O (Y.ext O O) (Lo O (Y.ext O O) (Lo O (AI O) (Lo O (Y.asg O) (Lt ?_)))))
  generalize val (R2.take (1))=f at *
  generalize R2.drop (1)=R3 at *
  clear hR_
  refine Cs (Cy (Lo O (Y.mov O) (Lo O (Y.neqNilF ifc_47 O O) (Lt (CB O (fun h => nomatch h) (fun _ => (Ck (tn (Cy (Lo O (YI O) (Lo O (Y.mul O O (mu32 (a:=7) (by omega))) (Lo O (Y.add O O (nu32 (b:=1) (by omega))) (Lo O (AI O) (Lt (Cy (VL.alloc H zer_168 O ?_))))))))))))))))
  intro w b12 hn12 hb12 H
  refine Lt ?_
  by_cases hR_:7 * f+1≤R3.length
  case neg =>
   rw [pb_no (rd_no (by omega))] at hdec
   refine Cy (Lo O (YP O) (Lo O (YI O) (VL.readNoS (k:=7 * f+1) H 1 O ro hS (by omega) (by omega) O O O ?_)))
   intro w a H
   refine Lo O (Y.movT O) (Lo O (Y.ext O O) (Lo O (Y.ext O O) (Lo O (Y.ixA0 0 ar_168 O O O (by omega)) (VL.putI H 0 st_36 O O O O ?_))))
   intro w H
   try simp only [List.set,List.eraseIdx] at H
   refine Lo O (Y.asg O) (Lt (Cs (Cy (Lo O (Y.mov O) (Lo O (Y.neqNilT ifc_47 O O) (Lt ?_))))))
   refine CB O (fun _ => ?_) (fun h => nomatch h)
   refine Cy (Lo O (Y.mov O) (Lo O (Y.asg O) (Lt (Ct (thn_r (thn_r ?_))))))
   have hF:=H.frm
   exact Done.ret1 O O (.inr ⟨hdec,⟨_,rfl⟩,hF⟩)
  case pos =>
  rw [pb_ok (rd_ok hR_)] at hdec
  have hs0:val (R3.take (7 * f+1))<2 ^ (7 * f+1):=val_take_lt R3 (7 * f+1)
  refine Cy (Lo O (YP O) (Lo O (YI O) (VL.readOk (k:=7 * f+1) H 1 O ro hS (by omega) hR_ O O O ?_)))
  intro w H
  simp only [List.set] at H
  refine Lo O (Y.movT O) (Lo O (Y.ext O O) (Lo O (Y.ext O O) (Lo O (Y.ixA0 0 ar_168 O O O (by omega)) (VL.putI H 0 st_36 O O O O ?_))))
  intro w H
  try simp only [List.set,List.eraseIdx] at H
  refine Lo O (Y.asg O) (Lt ?_)
  generalize val (R3.take (7 * f+1))=s0 at *
  generalize R3.drop (7 * f+1)=R4 at *
  clear hR_
  refine Cs (Cy (Lo O (Y.mov O) (Lo O (Y.neqNilF ifc_47 O O) (Lt (CB O (fun h => nomatch h) (fun _ => (Ck (tn ?_))))))))
  have hs0':s0<256:=Nat.lt_of_lt_of_le hs0 (Nat.pow_le_pow_right (n:=2) (by omega) (by omega:7 * f+1≤8))
  refine Cs (Cy (Lo O (YI O) (Lo O (Y.eql O O) (Lt ?_))))
  refine VC.join (fun ρ w' => ∃ s1 R5,decHT A R=optR (simpleT (ns+1) s0 s1 A) R5∧s1<256∧ρ 0=.pointer (some ⟨σ.d,0,none⟩)∧ρ 1=.pointer (some ⟨bg,off,none⟩)∧ρ 2=.int .u32 (A:Nat)∧ρ 9=.int .u32 ((ns+1:Nat):Int)∧ρ 12=.pointer (some ⟨b12,0,none⟩) ∧
   St W [σ.d,σ.rd,bg] [blkR b12 [.int .u32 (s0:Nat),.int .u32 (s1:Nat)] 168,decR σ R5,blkR bg cs tG] w') ?_ ?_
  case refine_1 =>
   by_cases hn2:ns=1
   case pos =>
    subst hn2
    rw [if_pos rfl] at hdec
    refine CT O (by omega) ?_
    by_cases hR_:8≤R4.length
    case neg =>
     rw [pb_no (rd_no (by omega))] at hdec
     refine Cy (Lo O (YP O) (VL.readNoS (k:=8) H 1 O ro hS (by omega) (by omega) O O O ?_))
     intro w a H
     refine Lo O (Y.movT O) (Lo O (Y.ext O O) (Lo O (Y.ext O O) (Lo O (Y.ixA0 1 ar_168 O O O (by omega)) (VL.putI H 0 st_36 O O O O ?_))))
     intro w H
     try simp only [List.set,List.eraseIdx] at H
     refine Lo O (Y.asg O) (Lt (Cy (Lo O (Y.mov O) (Lo O (Y.neqNilT ifc_47 O O) (Lt ?_)))))
     refine CB O (fun _ => ?_) (fun h => nomatch h)
     refine Cy (Lo O (Y.mov O) (Lo O (Y.asg O) (Lt (Ct (thn_r (thn_r ?_))))))
     have hF:=H.frm
     exact Done.ret1 O O (.inr ⟨hdec,⟨_,rfl⟩,hF⟩)
    case pos =>
    rw [pb_ok (rd_ok hR_)] at hdec
    have hs1:val (R4.take (8))<2 ^ (8):=val_take_lt R4 (8)
    refine Cy (Lo O (YP O) (VL.readOk (k:=8) H 1 O ro hS (by omega) hR_ O O O ?_))
    intro w H
    simp only [List.set] at H
    refine Lo O (Y.movT O) (Lo O (Y.ext O O) (Lo O (Y.ext O O) (Lo O (Y.ixA0 1 ar_168 O O O (by omega)) (VL.putI H 0 st_36 O O O O ?_))))
    intro w H
    try simp only [List.set,List.eraseIdx] at H
    refine Lo O (Y.asg O) (Lt ?_)
    generalize val (R4.take (8))=s1 at *
    generalize R4.drop (8)=R5 at *
    clear hR_
    refine Cy (Lo O (Y.mov O) (Lo O (Y.neqNilF ifc_47 O O) (Lt (CB O (fun h => nomatch h) (fun _ => (Ck (tn ?_)))))))
    exact ⟨s1,R5,hdec,by omega,rfl,rfl,rfl,rfl,rfl,H⟩
   case neg =>
    rw [if_neg hn2] at hdec
    obtain rfl:ns=0:=by omega
    refine CF O (by omega) (Ck (tn ?_))
    exact ⟨0,R4,hdec,by omega,rfl,rfl,rfl,rfl,rfl,H⟩
  case refine_2 =>
  have hbW:bg<W.heap.size:=hbg.lt
  clear H hdec
  rintro ρ w3 ⟨s1,R5,hdec,hs1,h0,h1,h2,h9,h12,H⟩
  refine Cy (Lo O (YP (by assumption)) (Lo O (YI (by assumption)) (Lo O (Y.ldn (cs:=[.int .u32 (s0:Nat),.int .u32 (s1:Nat)]) ldn_168 h12 O (fun j hj => by rw [Nat.zero_add];exact (H.blk (i:=0) O).cell j)) (Lo O (YI (by assumption)) (VL.call O ent_78 (simple_any _ bg off cs tG (ns+1) s0 s1 A (ro.frm H hS).gl (H.blk (i:=2) O) hraw hg1 (by omega) (by omega) (by omega) (by omega)) O ?_)))))
  rintro e w2 hB
  have hB2:BuildPost bg off cs tG (simpleT (ns+1) s0 s1 A) w3 e w2:=hB
  clear hB
  obtain ⟨v,rfl⟩:∃ v,e=.returned v:=by rcases hB2 with ⟨u,cs',_,rfl,_⟩ | ⟨_,⟨a,rfl⟩,_⟩ <;> exact ⟨_,rfl⟩
  refine ⟨v,rfl,?_⟩
  refine Lo O (Y.asg O) (Lt (Ct (thn_r ?_)))
  rcases hB2 with ⟨u,cs',hT,he,hbg',hso,htc,hf⟩ | ⟨hT,⟨a,he⟩,hf⟩
  ·obtain rfl:=Ending.returned.inj he
   rw [hT] at hdec
   have hd:(decR σ R5).pred w2:=(decR_local σ R5).1 _ _ (fun b hb => hf.block b ((decR_local σ R5).2 _ (H.get (i:=1) rfl) b hb) (by
    simp only [decR,List.mem_cons,List.not_mem_nil,or_false] at hb
    simp only [List.mem_singleton]
    rintro rfl
    rcases hb with h | h
    ·exact hne.1 h
    ·exact hne.2 h)) (H.get (i:=1) O)
   exact Done.ret1 O O (.inl ⟨u,R5,cs',hdec,rfl,hd,hbg',hso,htc.low H.high,H.frm.then hf (by simp)⟩)
  ·obtain rfl:=Ending.returned.inj he
   rw [hT] at hdec
   exact Done.ret1 O O (.inr ⟨hdec,⟨_,rfl⟩,H.frm.then hf (by simp)⟩)
 case pos =>
 rw [if_pos hu,decNormal] at hdec
 refine CF O (by omega) (Ck (tn ?_))
 by_cases hR_:4≤R1.length
 case neg =>
  rw [pb_no (rd_no (by omega))] at hdec
  refine Cy (Lo O (YP O) (VL.readNoS (k:=4) H 0 O ro hS (by omega) (by omega) O O O ?_))
  intro w a H
  refine Lo O (Y.movT O) (Lo O (Y.ext O O) (Lo O (Y.ext O O) (Lo O (AI O) (Lo O (Y.asg O) (Lt (Cs (Cy (Lo O (Y.mov O) (Lo O (Y.neqNilT ifc_47 O O) (Lt ?_))))))))))
  refine CB O (fun _ => ?_) (fun h => nomatch h)
  refine Cy (Lo O (Y.mov O) (Lo O (Y.asg O) (Lt (Ct (thn_r ?_)))))
  have hF:=H.frm
  exact Done.ret1 O O (.inr ⟨hdec,⟨_,rfl⟩,hF⟩)
 case pos =>
 rw [pb_ok (rd_ok hR_)] at hdec
 have hnc:val (R1.take (4))<2 ^ (4):=val_take_lt R1 (4)
 refine Cy (Lo O (YP O) (VL.readOk (k:=4) H 0 O ro hS (by omega) hR_ O O O ?_))
 intro w H
 simp only [List.set] at H
 refine Lo O (Y.movT O) (Lo O (Y.ext O O) (Lo O (Y.ext O O) (Lo O (AI O) (Lo O (Y.asg O) (Lt ?_)))))
 generalize val (R1.take (4))=nc at *
 generalize R1.drop (4)=R2 at *
 clear hR_
 refine Cs (Cy (Lo O (Y.mov O) (Lo O (Y.neqNilF ifc_47 O O) (Lt (CB O (fun h => nomatch h) (fun _ => (Ck (tn (Cy (Lo O (YI O) (Lo O (Y.add O O (nu32 (b:=4) (by omega))) (Lo O (AI O) (Lt (Cs (Cy (Lo O (YI O) (Lo O (Y.cv int_36_3 O (w64 (by omega))) ?_)))))))))))))))))
 refine Lo O (Y.gtr O O) (Lt ?_)
 by_cases h19:19<nc+4
 case pos =>
  rw [if_pos h19] at hdec
  refine CT O (by omega) (Cy (Lo O (Y.ld ld_47 O (H.old hae (hS.1.g _ O))) (Lo O (Y.asg O) (Lt (Ct (thn_r ?_))))))
  exact Done.ret1 O O (.inr ⟨hdec,⟨_,rfl⟩,H.frm⟩)
 case neg =>
 rw [if_neg h19] at hdec
 refine CF O (by omega) (Ck (tn (Cy (Lo O (Y.zero ar_170.1 (by kernel_rfl) zer_170) (VL.alloc H zer_170 O ?_)))))
 intro w b14 hn14 hb14 H
 refine VL.putW H 0 stn_170 O O O O O (by decide) ?_
 intro w H
 refine Lt ?_
 rw [rowK_zero] at H
 refine Cs (Cy (Lo O (AI O) (Lt (Cb ?_))))
 refine Cl (fun m ρ w' => ∃ (i:Nat) (f:Nat→Nat) (Ri:Bits),m=nc+4 - i∧i≤nc+4∧(∀ j,f j<8)∧decHT A R=pb (cclLoop (nc+4 - i) i f) (fun f => pb (decCL A ((List.range 19).map f)) fun ls => optR (buildT ls)) Ri ∧
  ρ 0=.pointer (some ⟨σ.d,0,none⟩)∧ρ 1=.pointer (some ⟨bg,off,none⟩)∧ρ 2=.int .u32 (A:Nat)∧ρ 13=.int .u32 ((nc+4:Nat):Int)∧ρ 14=.pointer (some ⟨b14,0,none⟩)∧ρ 15=.int .u32 (i:Nat) ∧
  St W [σ.d,σ.rd,bg] [blkR b14 (rowK .u32 f 19) 170,decR σ Ri,blkR bg cs tG] w') (nc+4)
  ⟨0,fun _ => 0,R2,rfl,by omega,by simp,hdec,rfl,rfl,rfl,rfl,rfl,rfl,H⟩ ?_
 have hb14W:W.heap.size≤b14:=hb14
 clear H hdec
 rintro m ρ w3 ⟨i,f,Ri,rfl,hi,hf8,hdec,h0,h1,h2,h13,h14,h15,H⟩
 refine Cs (Cy (Lo O (YI (by assumption)) (Lo O (YI (by assumption)) (Lo O (Y.lss O O) (Lt ?_)))))
 by_cases hlt:i<nc+4
 case pos =>
  have ho:=ro.gl.order i (by show i<19;omega)
  rw [← ord_eq,Nat.zero_add] at ho
  have hol:=ord_lt i (by omega)
  rw [show nc+4 - i=(nc+4 - (i+1))+1 by omega,cclLoop,pb_assoc] at hdec
  generalize ord i=oi at *
  refine CT O (by omega) (Ck (tn (Cs (Cb ?_))))
  by_cases hR_:3≤Ri.length
  case neg =>
   rw [pb_no (rd_no (by omega))] at hdec
   refine Cs ?_
   refine VC.held (Frm [σ.d,σ.rd,bg] W) mixedP (by with_reducible repeat (first | refine NoP.thn ?_ | refine NoP.blk ?_ | refine NoP.jmp ?_ | refine NoP.nojmp ?_ | exact NoP.done)) ?_
   intro w hsame
   replace H:=H.same hsame
   refine Ht 3 O (by kernel_rfl) (by kernel_rfl) (by kernel_rfl) O H.frm (fun w hI => YP h0) (Ht 0 O (by kernel_rfl) (by kernel_rfl) (by kernel_rfl) O H.frm (fun w hI => YI h15) (Ht 1 O (by kernel_rfl) (by kernel_rfl) (by kernel_rfl) O H.frm (fun w hI => Y.ixA0 i ar_171 O O O (by omega)) (Ht 2 O (by kernel_rfl) (by kernel_rfl) (by kernel_rfl) O H.frm (fun w hI => Y.ld ld_5 O (hI.cell ho (hS.1.g _ O))) (VH.readNo (k:=3) 4 O (by kernel_rfl) H 1 O ro hS (by omega) (by omega) O O O ?_))))
   intro w a H
   refine Ht 5 O (by kernel_rfl) (by kernel_rfl) (by kernel_rfl) O H.frm (fun w hI => Y.movT O) (Ht 6 O (by kernel_rfl) (by kernel_rfl) (by kernel_rfl) O H.frm (fun w hI => Y.ext O O) (Ht 7 O (by kernel_rfl) (by kernel_rfl) (by kernel_rfl) O H.frm (fun w hI => Y.ext O O) (Ht 8 O (by kernel_rfl) (by kernel_rfl) (by kernel_rfl) O H.frm (fun w hI => Y.ixA0 oi ar_170 h14 O O (by omega)) (VH.putI 9 O (by kernel_rfl) H 0 st_36 O O O (rowK_get (by omega)) ?_))))
   intro w H
   refine Ht 10 O (by kernel_rfl) (by kernel_rfl) (by kernel_rfl) O H.frm (fun w hI => Y.asg O) (VH.nil (by kernel_rfl) (tn (Cy (Lo O (Y.mov O) (Lo O (Y.neqNilT ifc_47 O O) (Lt ?_))))))
   refine CB O (fun _ => ?_) (fun h => nomatch h)
   refine Cy (Lo O (Y.mov O) (Lo O (Y.asg O) (Lt (Ct (blk_r (thn_r (thn_r (blk_r (thn_r ?_)))))))))
   exact Done.ret1 O O (.inr ⟨hdec,⟨_,rfl⟩,H.frm⟩)
  case pos =>
  rw [pb_ok (rd_ok hR_)] at hdec
  have hv:val (Ri.take 3)<2 ^ 3:=val_take_lt Ri 3
  refine Cs ?_
  refine VC.held (Frm [σ.d,σ.rd,bg] W) mixedP (by with_reducible repeat (first | refine NoP.thn ?_ | refine NoP.blk ?_ | refine NoP.jmp ?_ | refine NoP.nojmp ?_ | exact NoP.done)) ?_
  intro w hsame
  replace H:=H.same hsame
  refine Ht 3 O (by kernel_rfl) (by kernel_rfl) (by kernel_rfl) O H.frm (fun w hI => YP h0) (Ht 0 O (by kernel_rfl) (by kernel_rfl) (by kernel_rfl) O H.frm (fun w hI => YI h15) (Ht 1 O (by kernel_rfl) (by kernel_rfl) (by kernel_rfl) O H.frm (fun w hI => Y.ixA0 i ar_171 O O O (by omega)) (Ht 2 O (by kernel_rfl) (by kernel_rfl) (by kernel_rfl) O H.frm (fun w hI => Y.ld ld_5 O (hI.cell ho (hS.1.g _ O))) (VH.readOk (k:=3) 4 O (by kernel_rfl) H 1 O ro hS (by omega) hR_ O O O ?_))))
  intro w H
  refine Ht 5 O (by kernel_rfl) (by kernel_rfl) (by kernel_rfl) O H.frm (fun w hI => Y.movT O) (Ht 6 O (by kernel_rfl) (by kernel_rfl) (by kernel_rfl) O H.frm (fun w hI => Y.ext O O) (Ht 7 O (by kernel_rfl) (by kernel_rfl) (by kernel_rfl) O H.frm (fun w hI => Y.ext O O) (Ht 8 O (by kernel_rfl) (by kernel_rfl) (by kernel_rfl) O H.frm (fun w hI => Y.ixA0 oi ar_170 h14 O O (by omega)) (VH.putR 9 O (by kernel_rfl) H 0 st_36 O O O hol ?_))))
  intro w H
  refine Ht 10 O (by kernel_rfl) (by kernel_rfl) (by kernel_rfl) O H.frm (fun w hI => Y.asg O) (VH.nil (by kernel_rfl) (tn ?_))
  simp only [List.set] at H
  generalize val (Ri.take 3)=v at *
  generalize Ri.drop 3=Rj at *
  refine Cy (Lo O (Y.mov O) (Lo O (Y.neqNilF ifc_47 O O) (Lt (CB O (fun h => nomatch h) (fun _ => (Ck (blk_n (tn (Cr (Lo O (YI (by assumption)) (Lo O (Y.add O O (nu32 (b:=1) (by omega))) (Lo O (AI O) (Lt ?_)))))))))))))
  exact ⟨nc+4 - (i+1),by omega,i+1,_,Rj,rfl,by omega,fun j => by have:=hf8 j;split <;> omega,hdec,h0,h1,h2,h13,h14,rfl,H⟩
 case neg =>
 obtain rfl:i=nc+4:=by omega
 rw [Nat.sub_self,cclLoop,pb_ok (show ret f Ri=some (f,Ri) from rfl)] at hdec
 have hgl:=ro.gl
 have hb14l:b14<w3.heap.size:=(H.blk (i:=0) rfl).lt
 refine CF O (by omega) (Cx (thn_x (thn_x (blk_x (tn (Cy (Lo O (YI (by assumption)) (VL.make H mk_22 A A O O O O (Nat.le_refl _) (by omega) (by omega) O ?_))))))))
 intro w b16 hn16 hb16 H
 refine Lo O (AS O) (Lt ?_)
 rw [mkCells_one,rowK_zero] at H
 have hbW:bg<W.heap.size:=hbg.lt
 have hdW:σ.d<W.heap.size∧σ.rd<W.heap.size:=by
  obtain ⟨i,nb,pr,g1,g2,g3,g4⟩:=D
  exact ⟨g1.lt,g2.lt⟩
 have hsb:=ro.sbl
 have hS2:OkS σ [σ.d,σ.rd,b16]:=by
  refine ⟨fun b hb => ?_,?_⟩
  ·simp only [List.mem_cons,List.not_mem_nil,or_false] at hb
   rcases hb with rfl | rfl | rfl
   ·exact ro.ne.2.1
   ·exact ro.ne.2.2.1
   ·exact Nat.le_trans ro.gl.high hb16
  ·simp only [List.mem_cons,List.not_mem_nil,or_false,not_or]
   exact ⟨ro.ne.2.2.2.1,ro.ne.2.2.2.2,by omega⟩
 have hb14n:b14 ∉ [σ.d,σ.rd,b16]:=by
  simp only [List.mem_cons,List.not_mem_nil,or_false,not_or]
  omega
 have hcl:((List.range 19).map f).length=19:=by simp
 have hrow:Row w .u32 b14 0 ((List.range 19).map f):=rowK_row (H.blk (i:=1) rfl)
 have hbnd:∀ x ∈ (List.range 19).map f,x<2 ^ 32:=fun x hx => by
  obtain ⟨j,_,rfl⟩:=List.mem_map.1 hx
  have:=hf8 j
  omega
 have hgood:=@decCL_good A ((List.range 19).map f) Ri
 cases hcl2:decCL A ((List.range 19).map f) Ri with
 | none =>
  rw [pb_no hcl2] at hdec
  refine Cs (Cy (Lo O (YP (by assumption)) (Lo O (YS O) (Lo O (Y.sliceA ar_170 h14) (VL.call O ent_79 (decCL_any σ Ri w b16 A b14 0 19 _ (H.get (i:=2) O) (ro.frm H hS) (H.blk (i:=0) O) hrow hS2 hb14n (by omega) hcl hbnd hA) O ?_)))))
  rintro e w2 hC
  rcases hC with ⟨ls,R',hn,_⟩ | ⟨_,⟨a,rfl⟩,hf⟩
  ·rw [hcl2] at hn;cases hn
  refine ⟨_,rfl,?_⟩
  refine Lo O (Y.asg O) (Lt (Cy (Lo O (Y.mov O) (Lo O (Y.neqNilT ifc_47 O O) (Lt ?_)))))
  refine CB O (fun _ => ?_) (fun h => nomatch h)
  refine Cy (Lo O (Y.mov O) (Lo O (Y.asg O) (Lt (Ct (thn_r ?_)))))
  exact Done.ret1 O O (.inr ⟨hdec,⟨_,rfl⟩,H.frm.then hf (by simp [hb16])⟩)
 | some q =>
 obtain ⟨ls,Rk⟩:=q
 obtain ⟨hlsn,hls16⟩:=hgood hcl hcl2
 rw [pb_ok hcl2] at hdec
 refine Cs (Cy (Lo O (YP (by assumption)) (Lo O (YS O) (Lo O (Y.sliceA ar_170 h14) (VL.call O ent_79 (decCL_any σ Ri w b16 A b14 0 19 _ (H.get (i:=2) O) (ro.frm H hS) (H.blk (i:=0) O) hrow hS2 hb14n (by omega) hcl hbnd hA) O ?_)))))
 rintro e w2 hC
 rcases hC with ⟨ls2,R2',hn,rfl,hd2,hb2,hf⟩ | ⟨hn,_⟩
 rotate_left
 ·rw [hcl2] at hn;cases hn
 rw [hcl2] at hn
 obtain ⟨rfl,rfl⟩:=Prod.mk.inj (Option.some.inj hn)
 have hbg2:Blk w2 bg cs tG:=hf.blk (H.blk (i:=3) rfl) (by simp only [List.mem_cons,List.not_mem_nil,or_false,not_or];omega)
 replace H:=H.re (l':=[blkR b16 (rowK .u32 (fun j => ls.getD j 0) A) 36,blkR b14 (rowK .u32 f 19) 170,decR σ Rk,blkR bg cs tG]) hf (by simp [hb16]) rfl (by
  intro r hr
  simp only [List.mem_cons,List.not_mem_nil,or_false] at hr
  rcases hr with rfl | rfl | rfl | rfl
  ·exact hb2
  ·exact hf.blk (H.blk (i:=1) O) hb14n
  ·exact hd2
  ·exact hbg2) (by
  intro r hr
  simp only [List.mem_cons,List.not_mem_nil,or_false] at hr
  rcases hr with rfl | rfl | rfl | rfl
  ·exact ⟨blkR_local _ _ _,blkR_in _ _ _⟩
  ·exact ⟨blkR_local _ _ _,blkR_in _ _ _⟩
  ·exact decR_local _ _
  ·exact ⟨blkR_local _ _ _,blkR_in _ _ _⟩)
 refine ⟨_,rfl,?_⟩
 refine Lo O (Y.asg O) (Lt (Cy (Lo O (Y.mov O) (Lo O (Y.neqNilF ifc_47 O O) (Lt (CB O (fun h => nomatch h) (fun _ => (Ck (tn ?_)))))))))
 have hrow2:Row w2 .u32 b16 0 ls:=rowK_list hlsn hb2
 rw [← hlsn] at h2
 refine Cy (Lo O (YP (by assumption)) (Lo O (YS (show _=Value.slice (some ⟨b16,0,none⟩) ls.length A by rw [hlsn];rfl)) (VL.call O ent_80 (build_any _ bg off cs tG b16 0 A ls (ro.frm H hS).gl (H.blk (i:=3) O) hraw hrow2 (by omega) hg1 (fun x hx => by have:=hls16 x hx;omega) (by omega)) O ?_)))
 rintro e w3 hB
 have hB2:BuildPost bg off cs tG (buildT ls) w2 e w3:=hB
 clear hB
 obtain ⟨v,rfl⟩:∃ v,e=.returned v:=by rcases hB2 with ⟨u,cs',_,rfl,_⟩ | ⟨_,⟨a,rfl⟩,_⟩ <;> exact ⟨_,rfl⟩
 refine ⟨v,rfl,?_⟩
 refine Lo O (Y.asg O) (Lt (Ct ?_))
 rcases hB2 with ⟨u,cs',hT,he,hbg',hso,htc,hf⟩ | ⟨hT,⟨a,he⟩,hf⟩
 ·obtain rfl:=Ending.returned.inj he
  rw [hT] at hdec
  have hd:(decR σ Rk).pred w3:=(decR_local σ Rk).1 _ _ (fun b hb => hf.block b ((decR_local σ Rk).2 _ (H.get (i:=2) rfl) b hb) (by
   simp only [decR,List.mem_cons,List.not_mem_nil,or_false] at hb
   simp only [List.mem_singleton]
   rintro rfl
   rcases hb with h | h
   ·exact hne.1 h
   ·exact hne.2 h)) (H.get (i:=2) O)
  exact Done.ret1 O O (.inl ⟨u,Rk,cs',hdec,rfl,hd,hbg',hso,htc.low H.high,H.frm.then hf (by simp)⟩)
 ·obtain rfl:=Ending.returned.inj he
  rw [hT] at hdec
  exact Done.ret1 O O (.inr ⟨hdec,⟨_,rfl⟩,H.frm.then hf (by simp)⟩)
theorem nTiles_any (W:World) (n b:Nat) (h0:1≤n) (hn:n≤1000000) (hb:b≤9) :
  Calls Tryd.prog 55 #[.int .i32 (n:Nat),.int .u32 (b:Nat)] W fun e w' => e=.returned (.int .i32 (tilesN n b:Nat))∧w'=W:=by
 have hp:2 ^ b≤2 ^ 9:=Nat.pow_le_pow_right (by omega) hb
 have hp1:=Nat.two_pow_pos b
 refine enter (m:=12) Tryd.func55 O Tryd.ntmps55 O (Cy (Lo O (AI O) (Lt (Cy (Lo O (YI O) (Lo O (YI O) (Lo O (Y.shl O O (by omega) (l32 (a:=1) (by omega))) (Lo O (Y.add (r:=((n+2 ^ b:Nat):Int)) O O (by rw [w32 (by omega)];omega)) (Lo O (Y.sub (r:=((n+2 ^ b - 1:Nat):Int)) O O (by rw [w32 (by omega)];omega)) (Lo O (YI O) (Lo O (Y.shr O O (by omega) (shrK (k:=.i32) (by show _≤(32:Nat);omega))) (Lo O (AI O) (Lt (Ct ?_))))))))))))))
 exact Done.ret1 O O ⟨rfl,rfl⟩
theorem tilesN_le {n b:Nat} (h0:1≤n):1≤tilesN n b∧tilesN n b≤n:=by
 have hp1:=Nat.two_pow_pos b
 unfold tilesN
 refine ⟨(Nat.le_div_iff_mul_le hp1).2 (by omega),?_⟩
 refine Nat.div_le_of_le_mul ?_
 have:n+2 ^ b≤2 ^ b * n+1:=by
  obtain ⟨k,rfl⟩:∃ k,n=k+1:=⟨n - 1,by omega⟩
  have h2:k≤2 ^ b * k:=Nat.le_mul_of_pos_left _ hp1
  rw [Nat.mul_add,Nat.mul_one]
  omega
 omega
def LzPost (σ:Src) (r:Option (Nat × Bits)) (w:World) (e:Ending) (w':World):Prop :=
 (∃ v R',r=some (v,R')∧e=.returned (.tuple #[.int .u32 (v:Nat),.nilIface])∧(decR σ R').pred w'∧Frm [σ.d,σ.rd] w w') ∨
 (r=none∧(∃ a,e=.returned (.tuple #[.int .u32 0,.iface 132 (.pointer (some a))]))∧Frm [σ.d,σ.rd] w w')
theorem lz_any (σ:Src) (R:Bits) (s:Nat) (W:World) (D:(decR σ R).pred W) (ro:RO σ W) (hs:s<40) :
  Calls Tryd.prog 58 #[.pointer (some ⟨σ.d,0,none⟩),.int .u32 (s:Nat)] W (LzPost σ (lz s R) W):=by
 have hS:=ro.okS
 have H:St W [σ.d,σ.rd] [decR σ R] W:=St.one D (decR_local σ R) (by simp [decR])
 have hdec:lz s R=(if s<4 then ret (s+1) else pb (rd ((s - 2) / 2)) fun n => ret ((2+s % 2) * 2 ^ ((s - 2) / 2)+n+1)) R:=rfl
 refine enter (m:=35) Tryd.func58 O Tryd.ntmps58 O (Cy (Lo O (AI O) (Lo O (Y.asg O) (Lt (Cs (Cy (Lo O (YI O) (Lo O (Y.lss O O) (Lt ?_)))))))))
 by_cases h4:s<4
 case pos =>
  rw [if_pos h4] at hdec
  refine CT O (by omega) (Cy (Lo O (YI O) (Lo O (Y.add O O (nu32 (b:=1) (by omega))) (Lo O (AI O) (Lo O (Y.asg O) (Lt (Ct (thn_r ?_))))))))
  exact Done.ret2 O O O (.inl ⟨s+1,R,hdec,rfl,D,H.frm⟩)
 case neg =>
 rw [if_neg h4] at hdec
 refine CF O (by omega) (Ck (tn (Cy (Lo O (YI O) (Lo O (Y.sub O O (su32 (b:=2) (by omega))) (Lo O (Y.shr (r:=(((s - 2) / 2:Nat):Int)) O O (by omega) (shrK (k:=.u32) (b:=1) (by decide))) (Lo O (AI O) (Lt ?_))))))))
 obtain ⟨x,hx⟩:∃ x,x=(s - 2) / 2:=⟨_,rfl⟩
 rw [← hx] at hdec ⊢
 have hx18:x≤18:=by omega
 have hp:2 ^ x≤2 ^ 18:=Nat.pow_le_pow_right (by omega) hx18
 have ha:s &&& 1=s % 2:=Nat.and_one_is_mod s
 have hm:(2+s % 2) * 2 ^ x≤3 * 2 ^ 18:=Nat.mul_le_mul (by omega) hp
 refine Cy (Lo O (YI O) (Lo O (Y.and O O (show andI .u32 (s:Int) 1=((s % 2:Nat):Int) by rw [← ha];exact au32 (b:=1) (by omega))) (Lo O (Y.add (r:=((2+s % 2:Nat):Int)) O O (by rw [wu32 (by omega)];omega)) (Lo O (YI O) (Lo O (Y.shl O O (by omega) (lu32 (a:=2+s % 2) (b:=x) (by omega))) (Lo O (AI O) (Lt ?_)))))))
 generalize (2+s % 2) * 2 ^ x=o at *
 by_cases hR_:x≤R.length
 case neg =>
  rw [pb_no (rd_no (by omega))] at hdec
  refine Cy (Lo O (YP O) (Lo O (YI O) (VL.readNoS (k:=x) H 0 O ro hS (by omega) (by omega) O O O ?_)))
  intro w a H
  refine Lo O (Y.movT O) (Lo O (Y.ext O O) (Lo O (Y.ext O O) (Lo O (AI O) (Lo O (Y.asg O) (Lt (Cs (Cy (Lo O (Y.mov O) (Lo O (Y.neqNilT ifc_47 O O) (Lt ?_))))))))))
  refine CB O (fun _ => ?_) (fun h => nomatch h)
  refine Cy (Lo O (Y.mov O) (Lo O (AI O) (Lo O (Y.asg O) (Lt (Ct (thn_r ?_))))))
  have hF:=H.frm
  exact Done.ret2 O O O (.inr ⟨hdec,⟨_,rfl⟩,hF⟩)
 case pos =>
 rw [pb_ok (rd_ok hR_)] at hdec
 have hv:val (R.take (x))<2 ^ (x):=val_take_lt R (x)
 refine Cy (Lo O (YP O) (Lo O (YI O) (VL.readOk (k:=x) H 0 O ro hS (by omega) hR_ O O O ?_)))
 intro w H
 simp only [List.set] at H
 refine Lo O (Y.movT O) (Lo O (Y.ext O O) (Lo O (Y.ext O O) (Lo O (AI O) (Lo O (Y.asg O) (Lt ?_)))))
 generalize val (R.take (x))=v at *
 generalize R.drop (x)=R1 at *
 clear hR_
 refine Cs (Cy (Lo O (Y.mov O) (Lo O (Y.neqNilF ifc_47 O O) (Lt (CB O (fun h => nomatch h) (fun _ => (Ck (tn ?_))))))))
 have hv2:v<2 ^ 18:=Nat.lt_of_lt_of_le hv hp
 refine Cy (Lo O (YI O) (Lo O (YI O) (Lo O (Y.add O O (nu32 (by omega))) (Lo O (Y.add O O (nu32 (b:=1) (by omega))) (Lo O (AI O) (Lo O (Y.asg O) (Lt (Ct ?_))))))))
 exact Done.ret2 O O O (.inl ⟨o+v+1,R1,hdec,rfl,H.get (i:=0) rfl,H.frm⟩)
theorem lz_le {s:Nat} {R R':Bits} {v:Nat} (hs:s<40) (h:lz s R=some (v,R')):1≤v∧v≤1048576∧(s<24→v≤4096):=by
 unfold lz at h
 split at h
 ·simp only [ret,Option.some.injEq,Prod.mk.injEq] at h
  omega
 ·rename_i h4
  by_cases hR:(s - 2) / 2≤R.length
  ·rw [pb_ok (rd_ok hR)] at h
   simp only [ret,Option.some.injEq,Prod.mk.injEq] at h
   have h1:=val_take_lt R ((s - 2) / 2)
   obtain ⟨x,hx⟩:∃ x,x=(s - 2) / 2:=⟨_,rfl⟩
   rw [← hx] at h h1
   have hp:2 ^ x≤2 ^ 18:=Nat.pow_le_pow_right (by omega) (by omega)
   have hm:(2+s % 2) * 2 ^ x≤3 * 2 ^ x:=Nat.mul_le_mul_right _ (by omega)
   refine ⟨by omega,by omega,fun h24 => ?_⟩
   have hp:2 ^ x≤2 ^ 10:=Nat.pow_le_pow_right (by omega) (by omega)
   omega
  ·rw [pb_no (rd_no (by omega))] at h
   cases h
theorem dcode_le:∀ i,i<120→dcode i / 16≤7∧dcode i % 16≤15∧dcode i<256:=by decide
theorem dcode_eq (i:Nat):dcode i=tab_distanceMapTable.getD i 0:=rfl
theorem dist_any (W:World) (gl:Gl W) (n c:Nat) (hn:n≤1000000) (hc:1≤c∧c≤1048576) :
  Calls Tryd.prog 59 #[.int .i32 (n:Nat),.int .u32 (c:Nat)] W fun e w' => e=.returned (.int .i32 (distOf n c:Nat))∧w'=W:=by
 have H:St W [] [] W:=St.nil W []
 refine enter (m:=33) Tryd.func59 O Tryd.ntmps59 O (Cy (Lo O (AI O) (Lt (Cs (Cy (Lo O (YI O) (Lo O (Y.cv int_36_21 O (w32 (by omega))) (Lo O (Y.gtr O O) (Lt ?_)))))))))
 by_cases h:120<c
 case pos =>
  have hd:distOf n c=c - 120:=by unfold distOf;rw [if_pos h]
  refine CT O (by omega) (Cy (Lo O (YI O) (Lo O (Y.cv int_36_21 O (w32 (by omega))) (Lo O (Y.sub O O (s32 (b:=120) (by omega))) (Lo O (AI O) (Lt (Ct (thn_r ?_))))))))
  exact Done.ret1 O O ⟨by rw [hd];rfl,rfl⟩
 case neg =>
 have ht:=gl.dist (c - 1) (by show c - 1<120;omega)
 rw [← dcode_eq,Nat.zero_add] at ht
 have hd:distOf n c=if dcode (c - 1) / 16 * n+8<dcode (c - 1) % 16+1 then 1 else dcode (c - 1) / 16 * n+8 - dcode (c - 1) % 16:=by unfold distOf;rw [if_neg h]
 obtain ⟨hl1,hl2,hl3⟩:=dcode_le (c - 1) (by omega)
 generalize dcode (c - 1)=q at *
 have hq:q &&& 15=q % 16:=by rw [show 15=2 ^ 4 - 1 by rfl,Nat.and_two_pow_sub_one_eq_mod]
 obtain ⟨y,hy⟩:∃ y,y=q / 16:=⟨_,rfl⟩
 obtain ⟨x,hx⟩:∃ x,x=q % 16:=⟨_,rfl⟩
 rw [← hy,← hx] at hd
 rw [← hx] at hq
 have hm:y * n≤7 * 1000000:=Nat.mul_le_mul (by omega) hn
 refine CF O (by omega) (Ck (tn (Cy (Lo O (YI O) (Lo O (Y.sub O O (su32 (b:=1) (by omega))) (Lo O (Y.ixA0 (c - 1) ar_158 O O O (by omega)) (Lo O (Y.ld ld_5 O ht) (Lo O (Y.cv int_5_21 O (w32 (by omega))) (Lo O (AI O) (Lt (Cy (Lo O (YI O) (Lo O (Y.shr (r:=(y:Int)) O O (by omega) (by rw [hy];exact shrK (k:=.i32) (b:=4) (by decide))) (Lo O (AI O) (Lt ?_)))))))))))))))
 refine Cy (Lo O (YI O) (Lo O (Y.and (r:=(x:Int)) O O (by rw [← hq];exact a32 (b:=15) (by omega))) (Lo O (Y.sub (r:=8 - (x:Int)) O O (w32 (by omega))) (Lo O (AI O) (Lt (Cs (Cy (Lo O (YI O) (Lo O (YI O) (Lo O (Y.mul O O (m32 (by omega))) (Lo O (YI O) (Lo O (Y.add (r:=((y * n:Nat):Int)+(8 - (x:Int))) O O (w32 (by omega))) (Lo O (AI O) (Lt (Cy ?_)))))))))))))))
 refine Lo O (YI O) (Lo O (Y.geq O O) (Lt ?_))
 generalize y * n=z at *
 by_cases h1:z+8<x+1
 case pos =>
  rw [if_pos h1] at hd
  refine CF O (by omega) (Ck (tn (Cy (Lo O (AI O) (Lt (Ct ?_))))))
  exact Done.ret1 O O ⟨by rw [hd];rfl,rfl⟩
 case neg =>
  rw [if_neg h1] at hd
  refine CT O (by omega) (Cy (Lo O (YI O) (Lo O (AI O) (Lt (Ct (thn_r ?_))))))
  exact Done.ret1 O O ⟨by rw [hd,show ((z+8 - x:Nat):Int)=(z:Int)+(8 - (x:Int)) by omega];rfl,rfl⟩
def PixPost (σ:Src) (n mc:Nat) (r:Option (List Nat × Bits)) (w:World) (e:Ending) (w':World):Prop :=
 (∃ px R' b,r=some (px,R')∧e=.returned (.tuple #[.slice (some ⟨b,0,none⟩) (4 * n) (max mc (4 * n)),.nilIface])∧px.length=n∧(∀ p ∈ px,p<2 ^ 32)∧(decR σ R').pred w'∧w.heap.size≤b ∧
  Blk w' b (rowK .u8 (byteAt px) (max mc (4 * n))) 5∧Frm [σ.d,σ.rd] w w') ∨
 (r=none∧(∃ a,e=.returned (.tuple #[.slice none 0 0,.iface 132 (.pointer (some a))]))∧Frm [σ.d,σ.rd] w w')
def PixOK (top:Bool):Prop:=∀ (σ:Src) (R:Bits) (W:World) (w h mc:Nat),(decR σ R).pred W→RO σ W→1≤w→w≤16384→1≤h→h≤16384→mc≤1024 →
 Calls Tryd.prog 40 #[.pointer (some ⟨σ.d,0,none⟩),.int .i32 (w:Nat),.int .i32 (h:Nat),.int .i32 (mc:Nat),.bool top] W (PixPost σ (w * h) mc (decPix top w h R) W)
def HPix (B w h:Nat) (wo:World) (hb:Nat) (hpx:List Nat) (hv:Value):Prop :=
 (hb=0∧hpx=[]∧hv=.slice none 0 0) ∨
 (2≤hb∧hb≤9∧hpx.length=tilesN w hb * tilesN h hb∧∃ bp cap,hv=.slice (some ⟨bp,0,none⟩) (4 * hpx.length) cap∧4 * hpx.length≤cap∧B≤bp∧Blk wo bp (rowK .u8 (byteAt hpx) cap) 5)
theorem HPix.keep {B w h:Nat} {wo wo':World} {hb:Nat} {hpx:List Nat} {hv:Value} {S:List Nat} (H:HPix B w h wo hb hpx hv) (hf:Frm S wo wo') (hS:∀ s ∈ S,s<B):HPix B w h wo' hb hpx hv:=by
 rcases H with H | ⟨h1,h2,h3,bp,cap,h4,h5,h6,h7⟩
 ·exact .inl H
 ·exact .inr ⟨h1,h2,h3,bp,cap,h4,h5,h6,hf.blk h7 fun hm => by have:=hS _ hm;omega⟩
def GrPost (σ:Src) (wd ht:Nat) (r:Option (((Nat × List Nat) × List T) × Bits)) (w:World) (e:Ending) (w':World):Prop :=
 (∃ hb hpx ts R' bg cs hv,r=some (((hb,hpx),ts),R')∧e=.returned (.tuple #[.slice (some ⟨bg,0,none⟩) (maxGroup hpx+1) (maxGroup hpx+1),hv,.int .u32 (hb:Nat),.nilIface])∧(decR σ R').pred w'∧w.heap.size≤bg∧Blk w' bg cs 144 ∧
  (∀ k,k<5 * (maxGroup hpx+1)→TreeC (bg+1) w' cs (129 * k) (ts.getD k (.leaf 0)))∧HPix w.heap.size wd ht w' hb hpx hv∧Frm [σ.d,σ.rd] w w') ∨
 (r=none∧(∃ a,e=.returned (.tuple #[.slice none 0 0,.slice none 0 0,.int .u32 0,.iface 132 (.pointer (some a))]))∧Frm [σ.d,σ.rd] w w')
theorem mkCells_get {zs:List Value} (hz:0<zs.length):∀ (c i:Nat),i<c * zs.length→(mkCells c zs)[i]?=zs[i % zs.length]?
 | 0,i,h => by simp at h
 | c+1,i,h => by
  rw [mkCells_succ]
  by_cases h1:i<c * zs.length
  ·rw [List.getElem?_append_left (by rw [mkCells_length];exact h1),mkCells_get hz c i h1]
  ·have h2:i=(i - c * zs.length)+c * zs.length:=by omega
   rw [List.getElem?_append_right (by rw [mkCells_length];omega),mkCells_length]
   rw [Nat.succ_mul] at h
   have h3:i % zs.length=i - c * zs.length:=by
    conv => lhs;rw [h2]
    rw [Nat.add_mul_mod_self_right,Nat.mod_eq_of_lt (by omega)]
   rw [h3]
def zTree:List Value:=.slice none 0 0 :: List.replicate 128 (.int .u32 0)
theorem zTree_raw (m k:Nat) (hk:k<m):Raw (mkCells m zTree) (129 * k):=by
 have hz:zTree.length=129:=by simp [zTree]
 have key:∀ y,y<129→(mkCells m zTree)[129 * k+y]?=zTree[y]?:=fun y hy => by
  rw [mkCells_get (by omega) m _ (by rw [hz];omega),hz,show (129 * k+y) % 129=y by omega]
 refine ⟨⟨_,by have:=key 0 (by omega);rw [Nat.add_zero] at this;rw [this];rfl⟩,fun x hx => ?_⟩
 rw [Nat.add_assoc,key (1+x) (by omega),Nat.add_comm 1 x,zTree,List.getElem?_cons_succ,List.getElem?_replicate,if_pos hx]
theorem mkCells_mul (a b:Nat) (zs:List Value):mkCells a (mkCells b zs)=mkCells (a * b) zs:=by
 induction a with
 | zero => simp [mkCells]
 | succ a ih =>
  rw [mkCells_succ,ih,Nat.succ_mul]
  unfold mkCells
  rw [← List.flatten_append,List.replicate_append_replicate]
theorem decTrees_step {β:Type} (cc k n:Nat) (c:List T→Par β) (R:Bits):pb (decTrees cc (k+1) n) c R=pb (decHT (alph cc (n % 5))) (fun t => pb (decTrees cc k (n+1)) fun ts => c (t :: ts)) R:=by
 rw [decTrees,pb_assoc]
 congr 1
 funext t R1
 rw [pb_assoc]
 rfl
theorem maxGroup_le (px:List Nat):maxGroup px≤65535:=by
 have key:∀ (px:List Nat) (m:Nat),m≤65535→px.foldl (fun m p => max m (p / 256 % 65536)) m≤65535:=by
  intro px
  induction px with
  | nil => intro m h;exact h
  | cons p l ih => intro m h;exact ih _ (Nat.max_le.2 ⟨h,by omega⟩)
 exact key px 0 (by omega)
theorem maxGroup_take {px:List Nat} {k:Nat} (hk:k<px.length):maxGroup (px.take (k+1))=max (maxGroup (px.take k)) (px.getD k 0 / 256 % 65536):=by
 unfold maxGroup
 rw [List.take_succ_eq_append_getElem hk,List.foldl_append,List.foldl_cons,List.foldl_nil]
 simp [hk]
theorem byteAt_lt (l:List Nat) (j:Nat):byteAt l j<256:=by
 unfold byteAt chan pR pG pB pA
 split
 ·exact Nat.mod_lt _ (by omega)
 ·split
  ·exact Nat.mod_lt _ (by omega)
  ·split <;> exact Nat.mod_lt _ (by omega)
theorem byteAt_RG (l:List Nat) (k:Nat):byteAt l (4 * k) * 2 ^ 8+byteAt l (4 * k+1)=l.getD k 0 / 256 % 65536:=by
 unfold byteAt
 rw [show 4 * k / 4=k by omega,show 4 * k % 4=0 by omega,show (4 * k+1) / 4=k by omega,show (4 * k+1) % 4=1 by omega]
 simp only [chan,pR,pG,if_true,if_neg (show ¬ (1:Nat)=0 by omega)]
 omega
theorem or_high {a b n:Nat} (h:b<2 ^ n):a * 2 ^ n ||| b=a * 2 ^ n+b:=by
 rw [← Nat.shiftLeft_eq,Nat.shiftLeft_add_eq_or_of_lt h]
def alSz (j:Nat):Nat:=tab_alphabetSizes.getD j 0
theorem alSz_eq (j:Nat):alSz j=tab_alphabetSizes.getD j 0:=rfl
theorem alSz_alph:∀ j,j<5→alph 0 j=alSz j∧alSz j≤280∧∀ cc,alph cc j=if j=0∧0<cc then alSz j+2 ^ cc else alSz j:=by
 intro j hj
 have:j=0∨j=1∨j=2∨j=3∨j=4:=by omega
 rcases this with rfl | rfl | rfl | rfl | rfl <;> refine ⟨rfl,by decide,fun cc => ?_⟩
 ·show 280+(if cc=0 then 0 else 2 ^ cc)=if 0=0∧0<cc then 280+2 ^ cc else 280
  by_cases h:cc=0
  ·subst h;rfl
  ·rw [if_neg h,if_pos ⟨rfl,by omega⟩]
 all_goals rfl
attribute [irreducible] alSz
theorem groups_any (top:Bool) (OK:top=true→PixOK false) (σ:Src) (R:Bits) (W:World) (wd ht cc:Nat) (D:(decR σ R).pred W) (ro:RO σ W) (hw:1≤wd) (hw2:wd≤16384) (hh:1≤ht) (hh2:ht≤16384) (hcc:cc≤11) :
  Calls Tryd.prog 56 #[.pointer (some ⟨σ.d,0,none⟩),.int .i32 (wd:Nat),.int .i32 (ht:Nat),.bool top,.int .u32 (cc:Nat)] W (GrPost σ wd ht (decGroups (mtOf top wd ht) cc R) W):=by
 have hS:=ro.okS
 have H:St W [σ.d,σ.rd] [decR σ R] W:=St.one D (decR_local σ R) (by simp [decR])
 have hdW:∀ s ∈ [σ.d,σ.rd],s<W.heap.size:=fun s hs => (decR_local σ R).2 W D s hs
 have hdec:decGroups (mtOf top wd ht) cc R=pb (mtOf top wd ht) (fun m => pb (decTrees cc (5 * (maxGroup m.2+1)) 0) fun ts => ret (m,ts)) R:=rfl
 refine enter (m:=120) Tryd.func56 O Tryd.ntmps56 O (Cy (Lo O (Y.asg O) (Lo O (Y.asg O) (Lo O (AI O) (Lo O (Y.asg O) (Lt (Cy (Lo O (AI O) (Lt (Cs (Cy (Lo O (Y.movB O) (Lt ?_)))))))))))))
 refine VC.join (fun ρ w' => ∃ hb hpx hv R1,decGroups (mtOf top wd ht) cc R=pb (decTrees cc (5 * (maxGroup hpx+1)) 0) (fun ts => ret ((hb,hpx),ts)) R1∧ρ 0=.pointer (some ⟨σ.d,0,none⟩)∧ρ 4=.int .u32 (cc:Nat)∧ρ 11=hv∧ρ 12=.int .u32 (hb:Nat)∧ρ 14=.int .i64 (maxGroup hpx:Nat) ∧
  HPix W.heap.size wd ht w' hb hpx hv∧St W [σ.d,σ.rd] [decR σ R1] w') ?_ ?_
 case refine_1 =>
  cases top with
  | false =>
   refine CB O (fun h => nomatch h) (fun _ => (Ck (tn ?_)))
   exact ⟨0,[],_,R,hdec,rfl,rfl,rfl,rfl,rfl,.inl ⟨rfl,rfl,rfl⟩,H⟩
  | true =>
  rw [show mtOf true wd ht=pb (rd 1) (fun u => if u=0 then ret (0,[]) else pb (rd 3) fun b => pb (decSub (tilesN wd (b+2)) (tilesN ht (b+2))) fun px => ret (b+2,px)) from rfl,pb_assoc] at hdec
  refine CB O (fun _ => ?_) (fun h => nomatch h)
  by_cases hR_:1≤R.length
  case neg =>
   rw [pb_no (rd_no (by omega))] at hdec
   refine Cy (Lo O (YP O) (VL.readNoS (k:=1) H 0 O ro hS (by omega) (by omega) O O O ?_))
   intro w a H
   refine Lo O (Y.movT O) (Lo O (Y.ext O O) (Lo O (Y.ext O O) (Lo O (AI O) (Lo O (Y.asg O) (Lt (Cs (Cy (Lo O (Y.mov O) (Lo O (Y.neqNilT ifc_47 O O) (Lt ?_))))))))))
   refine CB O (fun _ => ?_) (fun h => nomatch h)
   refine Cy (Lo O (Y.mov O) (Lo O (Y.asg O) (Lo O (Y.asg O) (Lo O (AI O) (Lo O (Y.asg O) (Lt (Ct (thn_r (thn_r ?_)))))))))
   have hF:=H.frm
   exact Done.ret4 O O O O O (.inr ⟨hdec,⟨_,rfl⟩,hF⟩)
  case pos =>
  rw [pb_ok (rd_ok hR_)] at hdec
  have hu:val (R.take (1))<2 ^ (1):=val_take_lt R (1)
  refine Cy (Lo O (YP O) (VL.readOk (k:=1) H 0 O ro hS (by omega) hR_ O O O ?_))
  intro w H
  simp only [List.set] at H
  refine Lo O (Y.movT O) (Lo O (Y.ext O O) (Lo O (Y.ext O O) (Lo O (AI O) (Lo O (Y.asg O) (Lt ?_)))))
  generalize val (R.take (1))=u at *
  generalize R.drop (1)=R1 at *
  clear hR_
  refine Cs (Cy (Lo O (Y.mov O) (Lo O (Y.neqNilF ifc_47 O O) (Lt (CB O (fun h => nomatch h) (fun _ => (Ck (tn (Cy (Lo O (YI O) (Lo O (Y.neq O O) (Lt ?_))))))))))))
  by_cases hu0:u=0
  case pos =>
   rw [if_pos hu0,pb_ok (show ret (0,[]) R1=some ((0,[]),R1) from rfl)] at hdec
   refine CF O (by omega) (Ck (tn ?_))
   exact ⟨0,[],_,R1,hdec,rfl,rfl,rfl,rfl,rfl,.inl ⟨rfl,rfl,rfl⟩,H⟩
  case neg =>
  rw [if_neg hu0,pb_assoc] at hdec
  refine CT O (by omega) ?_
  by_cases hR_:3≤R1.length
  case neg =>
   rw [pb_no (rd_no (by omega))] at hdec
   refine Cy (Lo O (YP O) (VL.readNoS (k:=3) H 0 O ro hS (by omega) (by omega) O O O ?_))
   intro w a H
   refine Lo O (Y.movT O) (Lo O (Y.ext O O) (Lo O (Y.ext O O) (Lo O (AI O) (Lo O (Y.asg O) (Lt (Cs (Cy (Lo O (Y.mov O) (Lo O (Y.neqNilT ifc_47 O O) (Lt ?_))))))))))
   refine CB O (fun _ => ?_) (fun h => nomatch h)
   refine Cy (Lo O (Y.mov O) (Lo O (Y.asg O) (Lo O (Y.asg O) (Lo O (AI O) (Lo O (Y.asg O) (Lt (Ct (thn_r (thn_r ?_)))))))))
   have hF:=H.frm
   exact Done.ret4 O O O O O (.inr ⟨hdec,⟨_,rfl⟩,hF⟩)
  case pos =>
  rw [pb_ok (rd_ok hR_)] at hdec
  have hb:val (R1.take (3))<2 ^ (3):=val_take_lt R1 (3)
  refine Cy (Lo O (YP O) (VL.readOk (k:=3) H 0 O ro hS (by omega) hR_ O O O ?_))
  intro w H
  simp only [List.set] at H
  refine Lo O (Y.movT O) (Lo O (Y.ext O O) (Lo O (Y.ext O O) (Lo O (AI O) (Lo O (Y.asg O) (Lt ?_)))))
  generalize val (R1.take (3))=b at *
  generalize R1.drop (3)=R2 at *
  clear hR_
  refine Cs (Cy (Lo O (Y.mov O) (Lo O (Y.neqNilF ifc_47 O O) (Lt (CB O (fun h => nomatch h) (fun _ => (Ck (tn ?_))))))))
  rw [pb_assoc] at hdec
  refine Cy (Lo O (YI O) (Lo O (Y.add O O (nu32 (b:=2) (by omega))) (Lo O (AI O) (Lt ?_))))
  have hb7:b≤7:=by omega
  obtain ⟨hw1,hw3⟩:=tilesN_le (b:=b+2) hw
  obtain ⟨hh1,hh3⟩:=tilesN_le (b:=b+2) hh
  have hP:=OK rfl σ R2 w (tilesN wd (b+2)) (tilesN ht (b+2)) 0 (H.get (i:=0) rfl) (ro.frm H hS) hw1 (by omega) hh1 (by omega) (by omega)
  rw [show decPix false (tilesN wd (b+2)) (tilesN ht (b+2))=decSub (tilesN wd (b+2)) (tilesN ht (b+2)) from rfl] at hP
  refine Cy (Lo O (YP O) (Lo O (YI O) (Lo O (YI O) (VL.callP O ent_55 (nTiles_any _ wd (b+2) hw (by omega) (by omega)) O (Lo O (YI O) (Lo O (YI O) (VL.callP O ent_55 (nTiles_any _ ht (b+2) hh (by omega) (by omega)) O (VL.call O ent_40 hP O ?_))))))))
  intro e w2 hP2
  clear hP
  obtain ⟨a1,m1,c1,v2,rfl⟩:∃ a1 m1 c1 v2,e=.returned (.tuple #[.slice a1 m1 c1,v2]):=by rcases hP2 with ⟨_,_,_,_,rfl,_⟩ | ⟨_,⟨_,rfl⟩,_⟩ <;> exact ⟨_,_,_,_,rfl⟩
  refine ⟨_,rfl,?_⟩
  refine Lo O (Y.movT O) (Lo O (Y.ext O O) (Lo O (Y.ext O O) (Lo O (AS O) (Lo O (Y.asg O) (Lt ?_)))))
  rcases hP2 with ⟨px,R3,bp,hr,he,hlen,hp32,hd2,hnew,hbp,hf⟩ | ⟨hr,⟨a,he⟩,hf⟩
  case inr =>
   simp only [Ending.returned.injEq,Value.tuple.injEq,Array.mk.injEq,List.cons.injEq,Value.slice.injEq,and_true] at he
   obtain ⟨⟨rfl,rfl,rfl⟩,rfl⟩:=he
   rw [pb_no hr] at hdec
   refine Cs (Cy (Lo O (Y.mov O) (Lo O (Y.neqNilT ifc_47 O O) (Lt ?_))))
   refine CB O (fun _ => ?_) (fun h => nomatch h)
   refine Cy (Lo O (Y.mov O) (Lo O (Y.asg O) (Lo O (Y.asg O) (Lo O (AI O) (Lo O (Y.asg O) (Lt (Ct (thn_r (thn_r ?_)))))))))
   exact Done.ret4 O O O O O (.inr ⟨hdec,⟨_,rfl⟩,H.frm.then hf (by simp)⟩)
  case inl =>
  simp only [Ending.returned.injEq,Value.tuple.injEq,Array.mk.injEq,List.cons.injEq,Value.slice.injEq,and_true] at he
  obtain ⟨⟨rfl,rfl,rfl⟩,rfl⟩:=he
  rw [pb_ok hr] at hdec
  replace hdec:decGroups (mtOf true wd ht) cc R=pb (decTrees cc (5 * (maxGroup px+1)) 0) (fun ts => ret ((b+2,px),ts)) R3:=hdec
  have hnewW:W.heap.size≤bp:=Nat.le_trans H.high hnew
  replace H:=H.grow (i:=0) rfl hf hd2 (decR_local σ R3) rfl hbp hnew
  rw [← hlen,Nat.zero_max] at H
  rw [← hlen,Nat.zero_max]
  simp only [List.set] at H
  refine Cs (Cy (Lo O (Y.mov O) (Lo O (Y.neqNilF ifc_47 O O) (Lt (CB O (fun h => nomatch h) (fun _ => (Ck (tn (Cy (Lo O (AI O) (Lt ?_)))))))))))
  have hpl:px.length≤268435456:=by rw [hlen];exact Nat.mul_le_mul (show _≤16384 by omega) (show _≤16384 by omega)
  have hb8:∀ j,byteAt px j<256:=byteAt_lt px
  refine Cb ?_
  refine Cl (fun m ρ w' => ∃ k,m=px.length - k∧k≤px.length∧ρ 0=.pointer (some ⟨σ.d,0,none⟩)∧ρ 4=.int .u32 (cc:Nat)∧ρ 11=.slice (some ⟨bp,0,none⟩) (4 * px.length) (4 * px.length)∧ρ 12=.int .u32 ((b+2:Nat):Int)∧ρ 14=.int .i64 (maxGroup (px.take k):Nat)∧ρ 17=.int .i64 ((4 * k:Nat):Int) ∧
   St W [σ.d,σ.rd] [blkR bp (rowK .u8 (byteAt px) (4 * px.length)) 5,decR σ R3] w') px.length
   ⟨0,rfl,by omega,rfl,rfl,rfl,rfl,rfl,rfl,H⟩ ?_
  clear H
  rintro m ρ w3 ⟨k,rfl,hk,h0,h4,h11,h12,h14,h17,H⟩
  refine Cs (Cy (Lo O (YI (by assumption)) (Lo O (YS (by assumption)) (Lo O (Y.len sl_24 O) (Lo O (Y.lss O O) (Lt ?_))))))
  by_cases hlt:k<px.length
  case pos =>
   have hx0:=hb8 (4 * k)
   have hx1:=hb8 (4 * k+1)
   have hRG:=byteAt_RG px k
   have hmx:=maxGroup_take hlt
   have hor:=or_high (a:=byteAt px (4 * k)) (b:=byteAt px (4 * k+1)) (n:=8) hx1
   have hg16:px.getD k 0 / 256 % 65536<65536:=Nat.mod_lt _ (by omega)
   rw [hRG] at hor
   generalize px.getD k 0 / 256 % 65536=gk at *
   have hm16:=maxGroup_le (px.take k)
   refine CT O (by omega) (Ck (tn (Cs (Cb (Cs (Cd mixedP (by kernel_rfl) ?_))))))
   intro w hsame
   replace H:=H.same hsame
   refine So O (YS (by assumption)) (So O (YI (by assumption)) (So O (Y.ixS0 _ sl_24 O O O (by omega)) (So O (Y.ld ld_5 O (H.cell 0 O (rowK_get (by omega)))) (So O (Y.cv int_5_3 O (w64 (by omega))) (So O (Y.shl O O (by omega) (l64 (b:=8) (by omega))) (So O (YS (by assumption)) (So O (YI (by assumption)) (So O (Y.add O O (n64 (b:=1) (by omega))) (So O (Y.ixS0 _ sl_24 O O O (by omega)) (So O (Y.ld ld_5 O (H.cell 0 O (rowK_get (by omega)))) (So O (Y.cv int_5_3 O (w64 (by omega))) (So O (Y.or (r:=(gk:Int)) O O (by rw [← hor];exact o64 (by omega))) (So O (AI O) (Sn (tn (Cy (Lo O (YI (by assumption)) (Lo O (YI O) ?_))))))))))))))))))
   refine Lo O (Y.lss O O) (Lt ?_)
   by_cases hg:maxGroup (px.take k)<gk
   case pos =>
    refine CT O (by omega) (Cr (Lo O (YI O) (Lo O (AI O) (Ln (blk_n (tn (Cr (Lo O (YI (by assumption)) (Lo O (Y.add O O (n64 (b:=4) (by omega))) (Lo O (AI O) (Lt ?_)))))))))))
    exact ⟨px.length - (k+1),by omega,k+1,rfl,by omega,h0,h4,h11,h12,by rw [hmx,Nat.max_eq_right (by omega)];rfl,rfl,H⟩
   case neg =>
    refine CF O (by omega) (Ck (blk_n (tn (Cr (Lo O (YI (by assumption)) (Lo O (Y.add O O (n64 (b:=4) (by omega))) (Lo O (AI O) (Lt ?_))))))))
    exact ⟨px.length - (k+1),by omega,k+1,rfl,by omega,h0,h4,h11,h12,by rw [hmx,Nat.max_eq_left (by omega)];exact h14,rfl,H⟩
  case neg =>
  obtain rfl:k=px.length:=by omega
  rw [List.take_length] at h14
  refine CF O (by omega) (Cx (thn_x (thn_x (blk_x (tn ?_)))))
  exact ⟨b+2,px,_,R3,hdec,h0,h4,h11,h12,h14,.inr ⟨by omega,by omega,hlen,bp,_,rfl,Nat.le_refl _,hnewW,H.blk (i:=0) rfl⟩,H.sub [1] O (by simp)⟩
 case refine_2 =>
 clear H hdec
 rintro ρ w2 ⟨hb,hpx,hv,R1,hdec,h0,h4,h11,h12,h14,hHP,H0⟩
 have H:=H0.base [σ.d,σ.rd] (by simp [decR])
 have hF0:=H0.frm
 have hW2:=H0.high
 clear H0
 have ro2:RO σ w2:=ro.keep hF0 hS
 have hm16:=maxGroup_le hpx
 obtain ⟨m,hm⟩:∃ m,m=maxGroup hpx+1:=⟨_,rfl⟩
 obtain ⟨m1,hm1⟩:∃ m1,m1=maxGroup hpx:=⟨_,rfl⟩
 rw [← hm1] at h14
 rw [← hm] at hdec
 have hmm:m=m1+1:=by omega
 refine Cy (Lo O (YI (by assumption)) (Lo O (Y.add O O (n64 (b:=1) (by omega))) (VL.make H mk_135 m m O O (by omega) (by omega) (Nat.le_refl _) (by omega) (by omega) O ?_)))
 intro w bg hn hb2 H
 refine Lo O (AS O) (Lt ?_)
 have hz:([.slice none 0 0]++List.replicate 128 (.int .u32 0)++[.slice none 0 0]++List.replicate 128 (.int .u32 0)++[.slice none 0 0]++List.replicate 128 (.int .u32 0)++[.slice none 0 0]++List.replicate 128 (.int .u32 0)++[.slice none 0 0]++List.replicate 128 (.int .u32 0):List Value)=mkCells 5 zTree:=by rfl
 rw [hz,mkCells_mul] at H
 have hraw:∀ k,0≤k→k<m * 5→Raw (mkCells (m * 5) zTree) (129 * k):=fun k _ hk => zTree_raw _ _ hk
 have hbgn:nG≤bg:=Nat.le_trans ro2.gl.high hb2
 have hdW2:σ.d<bg∧σ.rd<bg:=by
  have h1:=hdW σ.d (by simp)
  have h2:=hdW σ.rd (by simp)
  omega
 have hsb:=ro2.sbl
 have hne:=ro.ne
 have hS2:OkS σ [σ.d,σ.rd,bg]:=by
  refine ⟨fun b hb => ?_,?_⟩
  ·simp only [List.mem_cons,List.not_mem_nil,or_false] at hb
   rcases hb with rfl | rfl | rfl
   ·exact hne.2.1
   ·exact hne.2.2.1
   ·exact hbgn
  ·simp only [List.mem_cons,List.not_mem_nil,or_false,not_or]
   exact ⟨hne.2.2.2.1,hne.2.2.2.2,by omega⟩
 replace H:St w2 [σ.d,σ.rd] [blkR bg (mkCells (m * 5) zTree) 144,decR σ R1] w:=H
 generalize mkCells (m * 5) zTree=cs0 at *
 refine Cs (Cy (Lo O (YS O) (Lo O (Y.len sl_135 O) (Lo O (YI O) (Lt (Cb ?_))))))
 refine Cl (fun mm ρ w' => ∃ (i:Nat) (ts:List T) (cs:List Value) (Ri:Bits),mm=m - i∧i≤m∧ts.length=5 * i∧decGroups (mtOf top wd ht) cc R=pb (decTrees cc (5 * m - 5 * i) (5 * i)) (fun ts' => ret ((hb,hpx),ts++ts')) Ri ∧
  ρ 0=.pointer (some ⟨σ.d,0,none⟩)∧ρ 4=.int .u32 (cc:Nat)∧ρ 10=.slice (some ⟨bg,0,none⟩) m m∧ρ 11=hv∧ρ 12=.int .u32 (hb:Nat)∧ρ 85=.int .i64 (m:Nat)∧ρ 86=.int .i64 (i:Nat) ∧
  (∀ k,k<5 * i→TreeC (bg+1) w' cs (129 * k) (ts.getD k (.leaf 0)))∧(∀ k,5 * i≤k→k<m * 5→Raw cs (129 * k))∧St w2 [σ.d,σ.rd] [blkR bg cs 144,decR σ Ri] w') m
  ⟨0,[],cs0,R1,rfl,by omega,rfl,by rw [hdec,Nat.mul_zero];rfl,h0,h4,rfl,h11,h12,rfl,rfl,fun k hk => by omega,hraw,H⟩ ?_
 clear H hdec hraw h0 h4 h11 h12 h14
 clear ρ
 rintro mm ρ w3 ⟨i,ts,cs,Ri,rfl,hi,htl,hdec,h0,h4,h10,h11,h12,h85,h86,hT,hraw,H⟩
 refine Cy (Lo O (Y.lss (by assumption) (by assumption)) (Lt ?_))
 by_cases hlt:i<m
 case neg =>
  obtain rfl:i=m:=by omega
  rw [Nat.sub_self,decTrees,pb_ok (show ret [] Ri=some ([],Ri) from rfl),List.append_nil] at hdec
  refine Cs (CF O (by omega) (Cx (thn_x (thn_x (blk_x (tn (Cy (Lo O (YS (by assumption)) (Lo O (Y.mov h11) (Lo O (YI (by assumption)) (Lo O (AS O) (Lo O (Y.asg O) (Lo O (AI O) (Lo O (Y.asg O) (Lt (Ct ?_))))))))))))))))
  exact Done.ret4 O O O O O (.inl ⟨hb,hpx,ts,Ri,bg,cs,hv,hdec,by rw [← hm];rfl,H.get (i:=1) rfl,by omega,H.blk (i:=0) rfl,by rw [← hm];exact hT,hHP.keep H.frm hdW,hF0.trans H.frm⟩)
 case pos =>
 refine Cs (CT O (by omega) (Ck (tn (Cs (Cb (Cy (Lo O (YI (by assumption)) (Lo O (AI O) (Lt ?_)))))))))
 have hal:∀ j,j<5→w3.cell? ⟨3,0+j,none⟩=(tab_alphabetSizes.map fun v => Value.int .u32 (v:Nat))[j]?:=fun j hj => by
  rw [H.old (ro2.gl.alpha j hj) (hS.1.g _ rfl)]
  have:j<tab_alphabetSizes.length:=hj
  simp [List.getElem?_map,List.getD_eq_getElem?_getD,this]
 refine Cy (Lo O (Y.ldn ldn_153 O O hal) (Lo O (YI O) (Lt ?_)))
 clear hal
 refine Cb ?_
 refine Cl (fun mm ρ w' => ∃ (j:Nat) (ts:List T) (cs:List Value) (Ri:Bits),mm=5 - j∧j≤5∧ts.length=5 * i+j∧decGroups (mtOf top wd ht) cc R=pb (decTrees cc (5 * m - (5 * i+j)) (5 * i+j)) (fun ts' => ret ((hb,hpx),ts++ts')) Ri ∧
  ρ 0=.pointer (some ⟨σ.d,0,none⟩)∧ρ 4=.int .u32 (cc:Nat)∧ρ 10=.slice (some ⟨bg,0,none⟩) m m∧ρ 11=hv∧ρ 12=.int .u32 (hb:Nat)∧ρ 85=.int .i64 (m:Nat)∧ρ 86=.int .i64 (i:Nat)∧ρ 19=.int .i64 (i:Nat)∧ρ 90=.int .i64 (j:Nat) ∧
  ρ 89=.agg (tab_alphabetSizes.map fun v => Value.int .u32 (v:Nat)).toArray ∧
  (∀ k,k<5 * i+j→TreeC (bg+1) w' cs (129 * k) (ts.getD k (.leaf 0)))∧(∀ k,5 * i+j≤k→k<m * 5→Raw cs (129 * k))∧St w2 [σ.d,σ.rd] [blkR bg cs 144,decR σ Ri] w') 5
  ⟨0,ts,cs,Ri,rfl,by omega,htl,hdec,h0,h4,h10,h11,h12,h85,h86,rfl,rfl,rfl,hT,hraw,H⟩ ?_
 clear H hdec hraw hT htl h0 h4 h10 h11 h12 h85 h86 ts cs Ri
 clear ρ
 rintro mm ρ w4 ⟨j,ts,cs,Ri,rfl,hj,htl,hdec,h0,h4,h10,h11,h12,h85,h86,h19,h90,h89,hT,hraw,H⟩
 refine Cy (Lo O (Y.lss (by assumption) O) (Lt ?_))
 by_cases hj5:j<5
 case neg =>
  obtain rfl:j=5:=by omega
  refine Cs (CF O (by omega) (Cx (thn_x (thn_x (blk_x (blk_n (tn (Cr (Lo O (Y.add (by assumption) O (n64 (b:=1) (by omega))) (Lo O (YI O) (Lt ?_)))))))))))
  exact ⟨m - (i+1),by omega,i+1,ts,cs,Ri,rfl,by omega,by omega,by rw [show 5 * (i+1)=5 * i+5 by omega];exact hdec,h0,h4,h10,h11,h12,h85,rfl,by rw [show 5 * (i+1)=5 * i+5 by omega];exact hT,by rw [show 5 * (i+1)=5 * i+5 by omega];exact hraw,H⟩
 case pos =>
 obtain ⟨_,hal1,hal2⟩:=alSz_alph j hj5
 have haj:=hal2 cc
 have hidx:(tab_alphabetSizes.map fun v => Value.int .u32 (v:Nat)).toArray[j]?=some (.int .u32 (alSz j:Nat)):=by
  have:j<tab_alphabetSizes.length:=hj5
  rw [alSz_eq]
  simp [List.getElem?_map,this]
 generalize alSz j=aj at *
 refine Cs (CT O (by omega) (Ck (tn (Cs (Cb (Cy (Lo O (YI (by assumption)) (Lo O (Y.idx j idx_153 h89 h90 O hj5 hidx) (Lo O (AI O) (Lo O (AI O) (Lt (Cs (Cs ?_)))))))))))))
 refine VC.join (fun ρ w' => ρ 0=.pointer (some ⟨σ.d,0,none⟩)∧ρ 4=.int .u32 (cc:Nat)∧ρ 10=.slice (some ⟨bg,0,none⟩) m m∧ρ 11=hv∧ρ 12=.int .u32 (hb:Nat)∧ρ 85=.int .i64 (m:Nat)∧ρ 86=.int .i64 (i:Nat)∧ρ 19=.int .i64 (i:Nat)∧ρ 90=.int .i64 (j:Nat) ∧
  ρ 89=.agg (tab_alphabetSizes.map fun v => Value.int .u32 (v:Nat)).toArray∧ρ 20=.int .i64 (j:Nat)∧ρ 21=.int .u32 (aj:Nat)∧ρ 99=.bool (decide (j=0∧0<cc))∧w4.heap=w'.heap∧w4=w') ?_ ?_
 case refine_1 =>
  by_cases hj0:j=0
  case neg =>
   refine Cr (Lo O (YI O) (Lo O (Y.eqlD O O (decide_eq_false (by omega))) (Lo O (Y.movB O) (VL.skipG O O O O O (VL.skipG O O O O O (Lo O (Y.pick O O) (Lt ?_)))))))
   exact ⟨h0,h4,h10,h11,h12,h85,h86,h19,h90,h89,rfl,rfl,by rw [show decide (j=0∧0<cc)=false from decide_eq_false (by omega)];rfl,rfl,rfl⟩
  case pos =>
  by_cases hc0:0<cc
  case neg =>
   refine Cr (Lo O (YI O) (Lo O (Y.eqlD O O (decide_eq_true (by omega))) (Lo O (Y.movB O) (LG O O O O (YI h4) (LG O O O O (Y.gtrD O O (decide_eq_false (by omega))) (Lo O (Y.pick O O) (Lt ?_)))))))
   exact ⟨h0,h4,h10,h11,h12,h85,h86,h19,h90,h89,rfl,rfl,by rw [show decide (j=0∧0<cc)=false from decide_eq_false (by omega)];rfl,rfl,rfl⟩
  case pos =>
   refine Cr (Lo O (YI O) (Lo O (Y.eqlD O O (decide_eq_true (by omega))) (Lo O (Y.movB O) (LG O O O O (YI h4) (LG O O O O (Y.gtrD O O (decide_eq_true (by omega))) (Lo O (Y.pick O O) (Lt ?_)))))))
   exact ⟨h0,h4,h10,h11,h12,h85,h86,h19,h90,h89,rfl,rfl,by rw [show decide (j=0∧0<cc)=true from decide_eq_true (by omega)];rfl,rfl,rfl⟩
 case refine_2 =>
 clear h0 h4 h10 h11 h12 h85 h86 h19 h90 h89
 clear ρ
 rintro ρ w' ⟨h0,h4,h10,h11,h12,h85,h86,h19,h90,h89,h20,h21,h99,_,rfl⟩
 refine VC.join (fun ρ w' => ρ 0=.pointer (some ⟨σ.d,0,none⟩)∧ρ 4=.int .u32 (cc:Nat)∧ρ 10=.slice (some ⟨bg,0,none⟩) m m∧ρ 11=hv∧ρ 12=.int .u32 (hb:Nat)∧ρ 85=.int .i64 (m:Nat)∧ρ 86=.int .i64 (i:Nat)∧ρ 19=.int .i64 (i:Nat)∧ρ 90=.int .i64 (j:Nat) ∧
  ρ 89=.agg (tab_alphabetSizes.map fun v => Value.int .u32 (v:Nat)).toArray∧ρ 20=.int .i64 (j:Nat)∧ρ 21=.int .u32 (alph cc j:Nat)∧w4.heap=w'.heap∧w4=w') ?_ ?_
 case refine_1 =>
  by_cases hc:j=0∧0<cc
  case neg =>
   rw [if_neg hc] at haj
   refine CF h99 hc (Ck (tn ?_))
   exact ⟨h0,h4,h10,h11,h12,h85,h86,h19,h90,h89,h20,by rw [haj];exact h21,rfl,rfl⟩
  case pos =>
   rw [if_pos hc] at haj
   have hp:2 ^ cc≤2 ^ 11:=Nat.pow_le_pow_right (by omega) hcc
   refine CT h99 hc (Cr (Lo O (YI (by assumption)) (Lo O (YI (by assumption)) (Lo O (Y.shl (r:=((2 ^ cc:Nat):Int)) O O (by omega) (by rw [← Nat.one_mul (2 ^ cc)];exact lu32 (a:=1) (by omega))) (Lo O (Y.add O O (nu32 (by omega))) (Lo O (AI O) (Lt ?_)))))))
   exact ⟨h0,h4,h10,h11,h12,h85,h86,h19,h90,h89,h20,by rw [haj];rfl,rfl,rfl⟩
 case refine_2 =>
 clear h0 h4 h10 h11 h12 h85 h86 h19 h90 h89 h20 h21 h99
 clear ρ
 rintro ρ w' ⟨h0,h4,h10,h11,h12,h85,h86,h19,h90,h89,h20,h21,_,rfl⟩
 have hA:alph cc j≤2328:=by
  rw [haj]
  have:2 ^ cc≤2 ^ 11:=Nat.pow_le_pow_right (by omega) hcc
  split <;> omega
 have hA2:alph cc ((5 * i+j) % 5)=alph cc j:=by rw [show (5 * i+j) % 5=j by omega]
 obtain ⟨K,hK⟩:∃ K,5 * m - (5 * i+j)=K+1:=⟨5 * m - (5 * i+j) - 1,by omega⟩
 rw [hK,decTrees_step,hA2] at hdec
 generalize alph cc j=A at *
 have hHT:=decHT_any σ Ri w4 bg (129 * (5 * i+j)) A cs 144 (H.get (i:=1) rfl) (ro2.frm H hS) (H.blk (i:=0) rfl) (hraw _ (Nat.le_refl _) (by omega)) hS2 (by omega) hbgn (by omega)
 have hoff:bg=bg∧0+i * 645+j * 129=129 * (5 * i+j):=⟨rfl,by omega⟩
 refine Cy (Lo O (YP (by assumption)) (Lo O (YS (by assumption)) (Lo O (YI (by assumption)) (Lo O (YI (by assumption)) (Lo O (Y.ixS i sl_135 O O O hlt) (Lo O (Y.ixA j ar_144 O O O hj5) (Lo O (YI (by assumption)) ?_)))))))
 rw [hoff.2]
 refine VL.call O ent_70 hHT O ?_
 intro e w5 hP
 clear hHT
 obtain ⟨v,rfl⟩:∃ v,e=.returned v:=by rcases hP with ⟨_,_,_,_,rfl,_⟩ | ⟨_,⟨_,rfl⟩,_⟩ <;> exact ⟨_,rfl⟩
 refine ⟨_,rfl,?_⟩
 refine Lo O (Y.asg O) (Lt ?_)
 rcases hP with ⟨u,Rj,cs',hu,he,hd5,hbg5,hso,htc,hf⟩ | ⟨hu,⟨a,he⟩,hf⟩
 case inr =>
  obtain rfl:=Ending.returned.inj he
  rw [pb_no hu] at hdec
  refine Cy (Lo O (Y.mov O) (Lo O (Y.neqNilT ifc_47 O O) (Lt ?_)))
  refine CB O (fun _ => ?_) (fun h => nomatch h)
  refine Cy (Lo O (Y.mov O) (Lo O (Y.asg O) (Lo O (Y.asg O) (Lo O (AI O) (Lo O (Y.asg O) (Lt (Ct (blk_r (thn_r (thn_r (blk_r (blk_r (thn_r (thn_r (blk_r (thn_r ?_))))))))))))))))
  exact Done.ret4 O O O O O (.inr ⟨hdec,⟨_,rfl⟩,hF0.trans (H.frm.then hf (by simp [hb2]))⟩)
 case inl =>
 obtain rfl:=Ending.returned.inj he
 rw [pb_ok hu] at hdec
 have hlow:∀ s ∈ [σ.d,σ.rd,bg],s<bg+1:=by simp;omega
 have hT2:∀ k,k<5 * i+(j+1)→TreeC (bg+1) w5 cs' (129 * k) ((ts++[u]).getD k (.leaf 0)):=fun k hk => by
  by_cases hk2:k<5 * i+j
  ·have h1:=((hT k hk2).keep hf hlow).same hso (by omega)
   rw [List.getD_eq_getElem?_getD,List.getElem?_append_left (by omega),← List.getD_eq_getElem?_getD]
   exact h1
  ·obtain rfl:k=5 * i+j:=by omega
   have h1:=htc.low (B':=bg+1) (by have:=(H.blk (i:=0) rfl).lt;omega)
   rw [List.getD_eq_getElem?_getD,List.getElem?_append_right (by omega),htl,Nat.sub_self]
   exact h1
 have hraw2:∀ k,5 * i+(j+1)≤k→k<m * 5→Raw cs' (129 * k):=fun k h1 h2 => (hraw k (by omega) h2).same hso (by omega)
 replace H:=H.re (l':=[blkR bg cs' 144,decR σ Rj]) hf (by simp [hb2]) rfl (by
  intro r hr
  simp only [List.mem_cons,List.not_mem_nil,or_false] at hr
  rcases hr with rfl | rfl
  ·exact hbg5
  ·exact hd5) (by
  intro r hr
  simp only [List.mem_cons,List.not_mem_nil,or_false] at hr
  rcases hr with rfl | rfl
  ·exact ⟨blkR_local _ _ _,blkR_in _ _ _⟩
  ·exact decR_local _ _)
 refine Cy (Lo O (Y.mov O) (Lo O (Y.neqNilF ifc_47 O O) (Lt (CB O (fun h => nomatch h) (fun _ => (Ck (blk_n (tn (Cr (Lo O (Y.add (by assumption) O (n64 (b:=1) (by omega))) (Lo O (YI O) (Lt ?_))))))))))))
 exact ⟨5 - (j+1),by omega,j+1,ts++[u],cs',Rj,rfl,by omega,by simp [htl];omega,by
  rw [hdec,show 5 * m - (5 * i+(j+1))=K by omega]
  congr 1
  funext ts'
  rw [List.append_assoc]
  rfl,h0,h4,h10,h11,h12,h85,h86,h19,rfl,h89,hT2,hraw2,H⟩
end Go.Proofs.YtinkhckpckfajaaDoor
namespace Go.Proofs.YtinkhckpckfajaaDoor
theorem argb_parts {a r g b:Nat} (ha:a<256) (hr:r<256) (hg:g<256) (hb:b<256):pA (argb a r g b)=a∧pR (argb a r g b)=r∧pG (argb a r g b)=g∧pB (argb a r g b)=b∧argb a r g b<2 ^ 32:=by
 unfold pA pR pG pB argb
 omega
theorem argb_self {p:Nat} (h:p<2 ^ 32):argb (pA p) (pR p) (pG p) (pB p)=p:=by
 unfold pA pR pG pB argb
 omega
theorem byteAt_append_lt {l m:List Nat} {j:Nat} (h:j<4 * l.length):byteAt (l++m) j=byteAt l j:=by
 unfold byteAt
 rw [List.getD_eq_getElem?_getD,List.getElem?_append_left (by omega),← List.getD_eq_getElem?_getD]
theorem byteAt_out {l:List Nat} {j:Nat} (h:4 * l.length≤j):byteAt l j=0:=by
 unfold byteAt
 rw [List.getD_eq_getElem?_getD,List.getElem?_eq_none (by omega)]
 show chan 0 _=0
 unfold chan pA pR pG pB
 split
 ·rfl
 ·split
  ·rfl
  ·split <;> rfl
theorem byteAt_new (l:List Nat) (p j:Nat):byteAt (l++[p]) j=if j=4 * l.length+3 then pA p else if j=4 * l.length+2 then pB p else if j=4 * l.length+1 then pG p else if j=4 * l.length+0 then pR p else byteAt l j:=by
 by_cases h1:j<4 * l.length
 ·rw [byteAt_append_lt h1,if_neg (by omega),if_neg (by omega),if_neg (by omega),if_neg (by omega)]
 ·by_cases h2:4 * l.length+4≤j
  ·rw [byteAt_out (by simp;omega),if_neg (by omega),if_neg (by omega),if_neg (by omega),if_neg (by omega),byteAt_out (by omega)]
  ·have hd:j / 4=l.length:=by omega
   have e:byteAt (l++[p]) j=chan p (j % 4):=by
    unfold byteAt
    rw [hd,List.getD_eq_getElem?_getD,List.getElem?_append_right (Nat.le_refl _),Nat.sub_self]
    rfl
   rw [e]
   have:j=4 * l.length+0∨j=4 * l.length+1∨j=4 * l.length+2∨j=4 * l.length+3:=by omega
   rcases this with h | h | h | h
   ·rw [if_neg (by omega),if_neg (by omega),if_neg (by omega),if_pos h,show j % 4=0 by omega];rfl
   ·rw [if_neg (by omega),if_neg (by omega),if_pos h,show j % 4=1 by omega];rfl
   ·rw [if_neg (by omega),if_pos h,show j % 4=2 by omega];rfl
   ·rw [if_pos h,show j % 4=3 by omega];rfl
theorem getD_snoc_lt {l:List Nat} {p i:Nat} (h:i<l.length):(l++[p]).getD i 0=l.getD i 0:=by
 rw [List.getD_eq_getElem?_getD,List.getElem?_append_left h,← List.getD_eq_getElem?_getD]
theorem getD_snoc_eq (l:List Nat) (p:Nat):(l++[p]).getD l.length 0=p:=by
 rw [List.getD_eq_getElem?_getD,List.getElem?_append_right (Nat.le_refl _),Nat.sub_self];rfl
theorem copyPx_get {d:Nat} (hd:1≤d):∀ (n:Nat) (acc:List Nat),d≤acc.length →
  (∀ i,i<acc.length→(copyPx d n acc).getD i 0=acc.getD i 0)∧∀ i,acc.length≤i→i<acc.length+n→(copyPx d n acc).getD i 0=(copyPx d n acc).getD (i - d) 0
 | 0,acc,h => ⟨fun i _ => rfl,fun i h1 h2 => by omega⟩
 | n+1,acc,h => by
  obtain ⟨h1,h2⟩:=copyPx_get hd n (acc++[acc.getD (acc.length - d) 0]) (by simp;omega)
  rw [List.length_append,List.length_singleton] at h1 h2
  rw [copyPx]
  have h3:∀ i,i<acc.length→(copyPx d n (acc++[acc.getD (acc.length - d) 0])).getD i 0=acc.getD i 0:=fun i hi => by
   rw [h1 i (by omega),getD_snoc_lt hi]
  refine ⟨h3,fun i hi hi2 => ?_⟩
  by_cases he:i=acc.length
  ·subst he
   rw [h1 _ (by omega),getD_snoc_eq,h3 _ (by omega)]
  ·exact h2 i (by omega) (by omega)
theorem copyPx_prefix (d:Nat):∀ (n:Nat) (acc:List Nat),∃ r,copyPx d n acc=acc++r
 | 0,acc => ⟨[],by simp [copyPx]⟩
 | n+1,acc => by
  obtain ⟨r,hr⟩:=copyPx_prefix d n (acc++[acc.getD (acc.length - d) 0])
  exact ⟨_ :: r,by rw [copyPx,hr,List.append_assoc];rfl⟩
theorem copyPx_lt {d:Nat} (hd:1≤d):∀ (n:Nat) (acc:List Nat),d≤acc.length→(∀ p ∈ acc,p<2 ^ 32)→∀ p ∈ copyPx d n acc,p<2 ^ 32
 | 0,acc,h,ha,p,hp => ha p hp
 | n+1,acc,h,ha,p,hp => by
  refine copyPx_lt hd n _ (by simp;omega) (fun q hq => ?_) p hp
  rw [List.mem_append,List.mem_singleton] at hq
  rcases hq with hq | rfl
  ·exact ha q hq
  ·have:acc.length - d<acc.length:=by omega
   rw [List.getD_eq_getElem?_getD,List.getElem?_eq_getElem this]
   exact ha _ (List.getElem_mem this)
theorem copy_byte {d n k:Nat} {acc:List Nat} (hd:1≤d) (hdl:d≤acc.length) (hk:k<4 * n):byteAt (copyPx d n acc) (4 * acc.length+k)=byteAt (copyPx d n acc) (4 * acc.length+k - 4 * d):=by
 unfold byteAt
 rw [(copyPx_get hd n acc hdl).2 ((4 * acc.length+k) / 4) (by omega) (by omega),show (4 * acc.length+k - 4 * d) / 4=(4 * acc.length+k) / 4 - d by omega,show (4 * acc.length+k - 4 * d) % 4=(4 * acc.length+k) % 4 by omega]
theorem copy_byte_lt {d n j:Nat} {acc:List Nat} (hd:1≤d) (hdl:d≤acc.length) (hj:j<4 * acc.length):byteAt (copyPx d n acc) j=byteAt acc j:=by
 unfold byteAt
 rw [(copyPx_get hd n acc hdl).1 (j / 4) (by omega)]
theorem dist_pos (w c:Nat):1≤distOf w c:=by
 unfold distOf
 split
 ·omega
 ·split <;> omega
theorem distOf_le {w c:Nat} (hw:w≤1000000) (hc:c≤1048576):distOf w c≤300000000:=by
 unfold distOf
 have h1:dcode (c - 1)<256∨120<c∨dcode (c - 1)=0:=by
  unfold dcode
  by_cases h:c - 1<120
  ·left
   have:∀ i,i<120→tab_distanceMapTable.getD i 0<256:=by decide
   exact this _ h
  ·right;left;omega
 split
 ·omega
 ·have h2:dcode (c - 1) / 16 * w≤16 * 1000000:=Nat.mul_le_mul (by omega) hw
  split <;> omega
theorem divmod {w x y L:Nat} (h:y * w+x=L) (hx:x<w):L / w=y∧L % w=x:=by
 subst h
 rw [Nat.add_comm,Nat.add_mul_div_right _ _ (by omega),Nat.add_mul_mod_self_right,Nat.div_eq_of_lt hx,Nat.mod_eq_of_lt hx]
 omega
theorem groupAt_same {hb tpr:Nat} {hpx:List Nat} {w x y L:Nat} (h:y * w+x=L) (hx:x+1<w) (hm:hb=0∨(x+1) % 2 ^ hb≠0):groupAt hb tpr hpx w (L+1)=groupAt hb tpr hpx w L:=by
 unfold groupAt
 by_cases h0:hb=0
 ·rw [if_pos h0,if_pos h0]
 ·rw [if_neg h0,if_neg h0]
  obtain ⟨h1,h2⟩:=divmod h (by omega)
  obtain ⟨h3,h4⟩:=divmod (show y * w+(x+1)=L+1 by omega) hx
  rw [h1,h2,h3,h4]
  have h5:(x+1) / 2 ^ hb=x / 2 ^ hb:=by
   rcases hm with hm | hm
   ·exact absurd hm h0
   ·have hp:=Nat.two_pow_pos hb
    generalize 2 ^ hb=t at *
    have e1:=Nat.div_add_mod x t
    have e2:=Nat.div_add_mod (x+1) t
    have l1:=Nat.mod_lt x hp
    have l2:=Nat.mod_lt (x+1) hp
    generalize x / t=q at *
    generalize x % t=r at *
    generalize (x+1) / t=q' at *
    generalize (x+1) % t=r' at *
    rcases Nat.lt_trichotomy q q' with h | h | h
    ·have:t * (q+1)≤t * q':=Nat.mul_le_mul_left _ h
     rw [Nat.mul_add] at this
     omega
    ·exact h.symm
    ·have:t * (q'+1)≤t * q:=Nat.mul_le_mul_left _ h
     rw [Nat.mul_add] at this
     omega
  rw [h5]
theorem tile_lt {n b x:Nat} (hx:x<n):x / 2 ^ b<tilesN n b:=by
 have hp:=Nat.two_pow_pos b
 unfold tilesN
 refine (Nat.lt_iff_add_one_le).2 ((Nat.le_div_iff_mul_le hp).2 ?_)
 rw [Nat.add_mul,Nat.one_mul]
 have:=Nat.div_mul_le_self x (2 ^ b)
 omega
theorem tile_index {w h b x y:Nat} (hx:x<w) (hy:y<h):tilesN w b * (y / 2 ^ b)+x / 2 ^ b<tilesN w b * tilesN h b:=by
 have h1:=tile_lt (b:=b) hx
 have h2:=tile_lt (b:=b) hy
 have h3:tilesN w b * (y / 2 ^ b+1)≤tilesN w b * tilesN h b:=Nat.mul_le_mul_left _ h2
 rw [Nat.mul_add,Nat.mul_one] at h3
 omega
theorem maxGroup_ge {px:List Nat} {i:Nat} (hi:i<px.length):px.getD i 0 / 256 % 65536≤maxGroup px:=by
 have mono:∀ (px:List Nat) (m:Nat),m≤px.foldl (fun m p => max m (p / 256 % 65536)) m:=by
  intro px
  induction px with
  | nil => intro m;exact Nat.le_refl _
  | cons p l ih => intro m;exact Nat.le_trans (Nat.le_max_left _ _) (ih _)
 have key:∀ (px:List Nat) (m i:Nat),i<px.length→px.getD i 0 / 256 % 65536≤px.foldl (fun m p => max m (p / 256 % 65536)) m:=by
  intro px
  induction px with
  | nil => intro m i h;simp at h
  | cons p l ih =>
   intro m i h
   cases i with
   | zero => exact Nat.le_trans (Nat.le_max_right _ _) (mono l _)
   | succ i => have:=ih (max m (p / 256 % 65536)) i (by simpa using h);simpa using this
 exact key px 0 i hi
theorem cached_snoc (cc:Nat) (acc:List Nat) (p i:Nat):cached cc (acc++[p]) i=if i=hashOf cc p then p else cached cc acc i:=by
 unfold cached
 rw [List.foldl_append,List.foldl_cons,List.foldl_nil]
 by_cases h:i=hashOf cc p
 ·rw [if_pos h,if_pos h.symm]
 ·rw [if_neg h,if_neg (Ne.symm h)]
theorem cached_take {cc:Nat} {acc:List Nat} {k:Nat} (h:k<acc.length) (i:Nat):cached cc (acc.take (k+1)) i=if i=hashOf cc (acc.getD k 0) then acc.getD k 0 else cached cc (acc.take k) i:=by
 rw [List.take_succ_eq_append_getElem h,cached_snoc]
 simp [h]
theorem hashOf_lt {cc p:Nat} (h1:1≤cc) (h:cc≤11):hashOf cc p<2 ^ cc:=by
 unfold hashOf
 refine Nat.div_lt_of_lt_mul ?_
 rw [← Nat.pow_add,show 32 - cc+cc=32 by omega]
 exact Nat.mod_lt _ (by omega)
theorem cached_lt {cc:Nat}:∀ (acc:List Nat),(∀ p ∈ acc,p<2 ^ 32)→∀ i,cached cc acc i<2 ^ 32:=by
 intro acc h i
 have key:∀ (l:List Nat) (v:Nat),(∀ p ∈ l,p<2 ^ 32)→v<2 ^ 32→l.foldl (fun v p => if hashOf cc p=i then p else v) v<2 ^ 32:=by
  intro l
  induction l with
  | nil => intro v _ hv;exact hv
  | cons p l ih =>
   intro v hp hv
   refine ih _ (fun q hq => hp q (List.mem_cons_of_mem _ hq)) ?_
   show (if hashOf cc p=i then p else v)<2 ^ 32
   split
   ·exact hp p (by simp)
   ·exact hv
 exact key acc 0 h (by omega)
theorem or_argb {p:Nat} (h:p<2 ^ 32):((pR p * 2 ^ 16 ||| pG p * 2 ^ 8) ||| pB p * 2 ^ 0) ||| pA p * 2 ^ 24=p:=by
 have e:=argb_self h
 have h1:pA p<256:=Nat.mod_lt _ (by omega)
 have h2:pR p<256:=Nat.mod_lt _ (by omega)
 have h3:pG p<256:=Nat.mod_lt _ (by omega)
 have h4:pB p<256:=Nat.mod_lt _ (by omega)
 generalize pA p=a at *
 generalize pR p=r at *
 generalize pG p=g at *
 generalize pB p=b at *
 have oh:∀ {a b n:Nat},b<2 ^ n→a * 2 ^ n ||| b=a * 2 ^ n+b:=fun {a b n} h => by rw [← Nat.shiftLeft_eq,Nat.shiftLeft_add_eq_or_of_lt h]
 rw [oh (a:=r) (b:=g * 2 ^ 8) (n:=16) (by omega),show r * 2 ^ 16+g * 2 ^ 8=(r * 256+g) * 2 ^ 8 by omega,oh (a:=r * 256+g) (b:=b * 2 ^ 0) (n:=8) (by omega),Nat.or_comm,oh (a:=a) (n:=24) (by omega)]
 unfold argb at e
 omega
end Go.Proofs.YtinkhckpckfajaaDoor
namespace Go.Proofs.YtinkhckpckfajaaDoor
open Go
theorem errNew_any (W:World) (s:ByteArray) :
  Calls Tryd.prog 39 #[.string s] W fun e w' => (∃ a,e=.returned (.iface 132 (.pointer (some a))))∧Frm [] W w':=by
 have H:St W [] [] W:=St.nil W []
 refine enter (m:=7) Tryd.func39 O Tryd.ntmps39 O (Cy (Lo O (Y.asg O) (Lt (Cy (Lo O (Y.mov O) (Lo O (Y.bld [.string s] O (by kernel_rfl)) (VL.box H (cs:=[.string s]) O O O ?_)))))))
 intro w b hb1 hb2 H
 refine Lo O (Y.mki mki_132 O) (Lo O (Y.asg O) (Lt (Ct ?_)))
 exact Done.ret1 O O ⟨⟨_,rfl⟩,H.frm⟩
section
variable {w0 w:World} {S:List Nat} {l:List Res} {σ:Src} {R:Bits}
variable {n:Nat} {ops:Array Oper} {Q:Post} {rest:List Oper} {ρ:Env} {ty:TypeId} {pos:String} {after:Array Edge} {x y:Operand} {d k:Nat} {ts:Array TypeId}
theorem VL.errNew (H:St w0 S l w) {s:ByteArray} (hd:Nat.blt d n=true) (hx:ev ρ x=.string s)
  (h:∀ w' a,St w0 S l w'→VL Tryd.prog n ops Q rest (upd ρ d (.iface 132 (.pointer (some a)))) w') :
  VL Tryd.prog n ops Q (⟨some d,.call ⟨.value (.func 39),#[x],ts⟩,ty,pos,after,none⟩ :: rest) ρ w :=
 VL.call hd ent_39 (errNew_any w s) (by simp [hx]) fun e w' ⟨⟨a,he⟩,hf⟩ => ⟨_,he,h _ a (H.quiet hf)⟩
theorem VL.lzOk {s v:Nat} {R':Bits} (H:St w0 S l w) (i:Nat) (hi:l[i]?=some (decR σ R)) (ro:RO σ w0) (hS:OkS σ S) (hs:s<40) (hr:lz s R=some (v,R')) (hd:Nat.blt d n=true) (hx:ev ρ x=.pointer (some ⟨σ.d,0,none⟩)) (hy:ev ρ y=.int .u32 (s:Nat))
  (h:∀ w',St w0 S (l.set i (decR σ R')) w'→VL Tryd.prog n ops Q rest (upd ρ d (.tuple #[.int .u32 (v:Nat),.nilIface])) w') :
  VL Tryd.prog n ops Q (⟨some d,.call ⟨.value (.func 58),#[x,y],ts⟩,ty,pos,after,none⟩ :: rest) ρ w :=
 VL.call hd ent_58 (lz_any σ R s w (H.get hi) (ro.frm H hS) hs) (by simp [hx,hy]) fun e w' hP => by
  rcases hP with ⟨v2,R2,h1,h2,h3,h4⟩ | ⟨h1,_⟩
  ·rw [hr] at h1
   obtain ⟨rfl,rfl⟩:=Prod.mk.inj (Option.some.inj h1)
   exact ⟨_,h2,h _ (H.dec i hi h4 h3)⟩
  ·rw [hr] at h1;cases h1
theorem VL.lzNo {s:Nat} (H:St w0 S l w) (i:Nat) (hi:l[i]?=some (decR σ R)) (ro:RO σ w0) (hS:OkS σ S) (hs:s<40) (hr:lz s R=none) (hd:Nat.blt d n=true) (hx:ev ρ x=.pointer (some ⟨σ.d,0,none⟩)) (hy:ev ρ y=.int .u32 (s:Nat))
  (h:∀ w' a,Frm S w0 w'→VL Tryd.prog n ops Q rest (upd ρ d (.tuple #[.int .u32 0,.iface 132 (.pointer (some a))])) w') :
  VL Tryd.prog n ops Q (⟨some d,.call ⟨.value (.func 58),#[x,y],ts⟩,ty,pos,after,none⟩ :: rest) ρ w :=
 VL.call hd ent_58 (lz_any σ R s w (H.get hi) (ro.frm H hS) hs) (by simp [hx,hy]) fun e w' hP => by
  rcases hP with ⟨v2,R2,h1,_⟩ | ⟨_,⟨a,h2⟩,h4⟩
  ·rw [hr] at h1;cases h1
  ·exact ⟨_,h2,h _ a (H.decFrm hi h4)⟩
end
end Go.Proofs.YtinkhckpckfajaaDoor
