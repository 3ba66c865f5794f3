/-
  FnBackCardSaid is proved, the given statement with its card: any picture that is written by the format, with any transforms, caches, groups of codes and codes, is read as it was:
  a call of laws.FnBack with any arguments of its types ends, returns true, and turns nothing that lay in memory before.
  Conditions: those of the given statement alone (the arguments are of their types and lie in memory as the row says;
  the package variables that the row lists are as the program lays them). No others.
-/
import Derived.Test.YtinkhckpckfajaaDoorA13
import Derived.Test.YtinkhckpckfajaaDoorTie
import Derived.Test.YtinkhckpckfajaaDoorCards
import Derived.SevenTiedAt
set_option linter.unusedVariables false
set_option linter.unusedSimpArgs false
set_option maxRecDepth 100000
set_option maxHeartbeats 1000000
namespace Go.Proofs.YtinkhckpckfajaaDoor
open Go Go.ChangeShapes Go.WideShapes Go.ChangeAt Go.RowKit
theorem back_lifted (os:Os) (started:os.Started) (H:Type) (enc:TypeId × Value→H) :
  ReturnsInHanded {} Tryd.checked os 4 .any (fun w args => (Rows.fnBackSpec.pre enc Tryd.prog Tryd.f4 [] false w args∧laidMetH Tryd.prog laidS w)∧sizedMet enc Tryd.prog Tryd.f4 (OpenSpec.ofChange Rows.fnBackSpec) false w args)
   (Rows.fnBackSpec.post enc Tryd.prog Tryd.f4 false true false false):=by
 refine returnsInHanded_of_change_and (C:=Tryd.checked) (X:=fun w _ => laidMetH Tryd.prog laidS w) (fun _ _ _ hh h => h.of_heap hh) own started (by kernel_rfl) Tryd.func4
  (ChangeSpec.witness_shaped (enc:=enc) (C:=Tryd.checked) (os:=os) (X:=fun w _ => laidMetH Tryd.prog laidS w) false (World.doorLaid Tryd.prog 2000 os) #[.int .i64 0,.int .i64 0,.slice none 0 0,.slice none 0 0] 8 rfl (World.shaped_of_RefB (by kernel_rfl) (by kernel_rfl)) (by kernel_rfl) (by kernel_rfl) (by kernel_rfl) (door_met os _)) ?_
 intro W base args ds gs before hval0 hW _ _ hL _
 have hval:∀ (j:Nat) t v,Tryd.f4.params[j]?=some t→args[j]?=some v→Value.okWide Tryd.prog W .any base t v:=hval0
 have hW':=hW
 obtain ⟨p,q,hA0,hV,rfl,hfz,hnd⟩:=hW
 have hA:DataW.TrodAll enc Tryd.prog W 0 (fun _ => true) true Tryd.f4.params.toList args.toList ds p:=hA0
 obtain ⟨rfl,rfl⟩:=trodVars_none hV
 have hpar:Tryd.f4.params.toList=[3,3,22,23]:=by rw [Tryd.params4]
 rw [hpar] at hA
 obtain ⟨v0,_,d0,_,p0,_,e0,rfl,_,t0,hA⟩:=trodAll_cons hA
 obtain ⟨v1,_,d1,_,p1,_,rfl,rfl,_,t1,hA⟩:=trodAll_cons hA
 obtain ⟨v2,_,d2,_,p2,_,rfl,rfl,_,t2,hA⟩:=trodAll_cons hA
 obtain ⟨v3,_,d3,_,p3,_,rfl,rfl,_,t3,hA⟩:=trodAll_cons hA
 obtain ⟨rfl,rfl,_⟩:=trodAll_nil hA
 obtain rfl:args=#[v0,v1,v2,v3]:=Array.ext' e0
 rw [Tryd.params4] at hval
 obtain ⟨x0,rfl,rfl,_,_⟩:=open_int Tryd.underlying3 (hval 0 _ _ rfl rfl) t0
 obtain ⟨x1,rfl,rfl,_,_⟩:=open_int Tryd.underlying3 (hval 1 _ _ rfl rfl) t1
 obtain ⟨n2,L2⟩:=l_in (hval 2 _ _ rfl rfl) t2
 obtain ⟨n3,L3⟩:=w_in (hval 3 _ _ rfl rfl) t3
 refine (back_walk W x0 x1 v2 v3 n2 n3 (gl_of_laid hL) L2 L3).mono fun e W' ⟨he,hf⟩ => ⟨_,he,post_law O hW' O (by kernel_rfl) (fun t ht => ?_) hf⟩
 rw [hpar] at ht
 have hall:([3,3,22,23].all fun t => Tryd.prog.readableRec t && decide (t<Tryd.prog.types.size))=true:=by kernel_rfl
 simpa using List.all_eq_true.1 hall t ht
theorem fnBack_holds:Rows.FnBackSaid :=
 OpenClaim.holds_of_wide 4 Tryd.f4 rfl rfl rfl rfl rfl rfl rfl ⟨rfl,rfl,rfl,rfl,rfl⟩ rfl rfl rfl rfl rfl (by kernel_rfl) Tryd.func4 (by kernel_rfl)
  (of_decide_eq_true (by kernel_rfl)) (by unfold Func.isWrapper;first | (rw [if_pos (by decide +kernel)];kernel_rfl) | (rw [if_neg (by decide +kernel)];exact ⟨rfl,rfl⟩))
  (fun os started H enc _ => back_lifted os started H enc)
theorem fnBack_card:Rows.FnBackCardSaid :=
 Claim7.holds_tied_plain_at .later [] [.sentinel, .sentinel, .sentinel, .sentinel, .data, .data, .data, .data, .data, .data, .funcs] true (true, "8331098c51ca897b4b8427b5cb92b9093afaf9e5496467035e4138de255a6256") true
  fnBack_holds (fun _ h => by cases h) (by kernel_rfl) (fun _ h => by cases h) fnBack_row_tie rfl ⟨rfl,rfl⟩ (by kernel_rfl) rfl
  (fun f fn hf hfn => by
   obtain rfl : f = 4 := Option.some.inj ((show Tryd.prog.funcNamed "tintslate/laws.FnBack" = some 4 by kernel_rfl).symm.trans hf) |>.symm
   obtain rfl:fn=Tryd.f4:=(Option.some.inj (Tryd.func4.symm.trans hfn)).symm
   exact ⟨by kernel_rfl,fun j t ht => by
    rw [Tryd.params4] at ht
    have hm:t ∈ [3,3,22,23]:=by simpa using Array.mem_of_getElem? ht
    have hall:([3,3,22,23].all fun u => !Tryd.prog.wantsStandIn u)=true:=by kernel_rfl
    exact (show Tryd.prog.wantsStandIn t=false by simpa using List.all_eq_true.1 hall t hm)⟩)
  (by kernel_rfl)
#print axioms fnBack_card
end Go.Proofs.YtinkhckpckfajaaDoor
